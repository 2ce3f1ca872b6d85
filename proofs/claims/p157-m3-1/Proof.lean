import JvmDerived
import JvmDerived.Pilot.@@N@@Statement
import JvmDerived.Pilot.@@N@@Code
set_option linter.unusedVariables false
set_option linter.unusedSimpArgs false
namespace Jvm.RoadKit
open Sem ClassFile Op Lib Jvm.Stand Jvm.Free Jvm.LawKit
section New
variable {p : Program} {l : Launch} {e : Env} {R : Room} {s : State} {m : MethodId} {args : Array Value} {below : List Frame} {meth : Method} {c : Code} {T : State} {locs : List Loc} {cells slots : Nat}
theorem retI (X : Stand p l e R s m args below meth c T locs cells slots) (hx : p.tables.exec = Jvm.exec) {pc : Nat} {Ls : Array Slot} {z : Int32} {rest : List Value} (hret : meth.sig.returnType = some .int) (hd : decode c.code pc = .ok (.ireturn, 1)) {fs : List Frame}
    (hl : ∀ (f : JFrame) (acts : List Action), f.method = m → f.locked = none → f.entered = [] → (doReturn e (T.setTop f) acts (some (.int z))).1 = T.setFrames fs) : Steps p.tables e below (T.setTop (mkF m pc Ls (.int z :: rest))) (T.setFrames fs) := by
  have hm' : T.vm.method? m = some meth := X.method'
  have hn : narrow .int (.int z) = .int z := rfl
  show Steps p.tables e below (T.setTop { method := m, pc := pc, locals := Ls, stack := _ :: rest, locked := none }) _
  jvm_step X.here [X.here.top, hx, hd, hm', hret, hn]
  first | (intro acts; rw [hl _ acts rfl rfl rfl]) | rw [hl _ _ rfl rfl rfl]
  exact Steps.refl _
end New
end Jvm.RoadKit

namespace Jvm.Pilot.@@N@@
open Jvm Jvm.ClassFile Sem Op Lib Jvm.Free Jvm.Stand Jvm.LawKit Jvm.RoadKit Bundle Jvm.Pilot.@@N@@.Jvm.D
set_option maxRecDepth 65536
set_option maxHeartbeats 40000000
theorem own_w {Z : State} {a0 : Array Value} {d : Jvm.Cond} (hw : ∀ d ∈ tables_1, d.before a0 Z = true) (i : Nat) (h : tables_1[i]? = some d) : d.before a0 Z = true := hw d (List.mem_of_getElem? h)
abbrev Sx (p : Program) (e : Env) (below : List Frame) (T : State) (g : JFrame) (t : State) : Prop := Steps p.tables e below (T.setTop g) t
theorem own_start {l : Launch} {Z : State} {y : MethodName} {C : String} {bytes : ByteArray} {maxL : Nat} {ret : Option FieldType} {ws : List Jvm.Cond} {R : Room} {A : Array Value} {h0 : Heap} {Q : Option Value → Heap → List Loc → Prop} (hC : y.cls = C) (hp : plainFor y = true)
    (H : ∀ (p : Program) (e : Env) (s : State) (m : MethodId) (below : List Frame) (meth : Method) (c : Code) (s₁ : State) (g₀ : JFrame), g₀ = entryFrame m A maxL → BodyLoose p l y (head1 (Jvm.Cond.code y bytes maxL ret :: ws) R) bytes maxL ret e s m A below meth c s₁ → p.tables.exec = Jvm.exec → c.code = bytes → c.maxLocals = maxL → Z.Warmed39 s.vm → s.vm.findClass C = some m.cls → meth.name = y.name → Stand p l e R s m A below meth c s₁ [] 0 0 → s₁.heap = h0 →
      ∃ s₂ v L, Sx p e below s₁ g₀ s₂ ∧ s₂.status = .running ∧ Ended s₂ below (.returned v) ∧ Q v s₂.heap L ∧ FrameEnd s (.returned v) s₂ L R.cells R.slots) :
    MetFree l y (head1 (Jvm.Cond.code y bytes maxL ret :: ws) R) (fun a U => a = A ∧ Z.Warmed39 U.vm ∧ U.heap = h0) (fun _ _ _ _ _ => True) (fun _ U o U' => ∃ v L, o = .returned v ∧ Q v U'.heap L ∧ FrameEnd U o U' L R.cells R.slots) := by
  refine MetFree.of_bodySF hp hisR ?_
  intro p e s m args below meth c s₁ Bd hml hP hK
  obtain ⟨rfl, hZ, hh⟩ := hP
  obtain ⟨s₂, v, L, k1, k2, k3, k4, k5⟩ := H p e s m below meth c s₁ _ rfl Bd Bd.exec Bd.bytes hml hZ (hC ▸ findClass_of_methodNamed Bd.named) (name_of_methodNamed Bd.named Bd.method).1 (Stand.of_body Bd) (by rw [← hh, Bd.state]; rfl)
  exact ⟨s₂, _, k1, k2, k3, v, L, rfl, k4, k5⟩
theorem own_cS {p : Program} {l : Launch} {e : Env} {R : Room} {s : State} {m : MethodId} {args : Array Value} {below : List Frame} {meth : Method} {c : Code} {T : State} {locs : List Loc} {cells slots : Nat} {Z : State} {a0 : Array Value} {h : Heap} (X : Stand p l e R s m args below meth c T locs cells slots) (hx : p.tables.exec = Jvm.exec) (hZ : Z.Warmed39 s.vm) {own : String} {index : Nat} {y : MethodName} {bytes : ByteArray} {maxL : Nat} {ret : Option FieldType} (hown : s.vm.findClass own = some m.cls)
    (w1 : (Jvm.Cond.methodLink own index y).before a0 Z = true) (w2 : (Jvm.Cond.static y).before a0 Z = true) (w3 : (Jvm.Cond.initialized y.cls).before a0 Z = true) (w4 : (Jvm.Cond.code y bytes maxL ret).before a0 Z = true) (hy : y.cls ≠ "java/lang/invoke/MethodHandle" ∧ y.cls ≠ "java/lang/invoke/VarHandle")
    {rm : Room} {W : Nat} {as' : Array Value} {Q : Option Value → Heap → List Loc → Prop} (hM : MetFree l y (head1 [Jvm.Cond.code y bytes maxL ret] rm) (fun a U => a = as' ∧ Z.Warmed39 U.vm ∧ U.heap = h) (fun _ _ _ _ _ => True) (fun _ U o U' => ∃ v L, o = .returned v ∧ Q v U'.heap L ∧ FrameEnd U o U' L rm.cells rm.slots)) (hf : rm.frames + 1 ≤ R.frames) (hl : W + (maxL + 11) + rm.locals ≤ R.locals) {g : JFrame} (hg : g.method = m) (hsize : g.locals.size = c.maxLocals) {argsL rest : List Value} (hlen : ∀ sig, parseMethodDescriptor y.desc = some sig → argsL.length = sig.parameters.length) (hstack : g.stack = argsL.reverse ++ rest) (hW : 2 * g.monitorRoom + (rest.map fun v => v.category).sum ≤ W)
    (hdg : decode c.code g.pc = .ok (.invokestatic index, 3)) (has : argsL.toArray = as') (eT : T.heap = h) (hc : cells + rm.cells ≤ R.cells) (hs : slots + rm.slots ≤ R.slots) :
    ∃ v T' L, Stand p l e R s m args below meth c T' (locs ++ L) (cells + rm.cells) (slots + rm.slots) ∧ Q v T'.heap L ∧ ∀ target, Steps p.tables e below (T'.setTop { g with pc := g.pc + 3, stack := v.toList ++ rest }) target → Steps p.tables e below (T.setTop g) target := by
  obtain ⟨v, vm, ⟨U, L', k, n⟩, -, X', ⟨L, hQ, l1, l2, l3⟩, st⟩ := Jvm.LawKit.callS X hx hown (mvT hZ w1) (mvT hZ w2) (mvT hZ w3) (mvT hZ w4) hy (backOf (W := W) hM hZ w4 w3 hf hl) hg hsize hlen hstack hW hdg (fun _ _ => ⟨has, eT, hc, hs⟩)
  dsimp only [Pt.U, Pt.locs, Pt.cells, Pt.slots] at X' l1 l2 l3 st hQ
  subst l1 l2 l3
  exact ⟨v, U, L, X', hQ, st⟩
theorem own_cV {p : Program} {l : Launch} {e : Env} {R : Room} {s : State} {m : MethodId} {args : Array Value} {below : List Frame} {meth : Method} {c : Code} {T : State} {locs : List Loc} {cells slots : Nat} {Z : State} {a0 : Array Value} {h : Heap} (X : Stand p l e R s m args below meth c T locs cells slots) (hx : p.tables.exec = Jvm.exec) (hZ : Z.Warmed39 s.vm) {own C : String} {index : Nat} {y : MethodName} {bytes : ByteArray} {maxL : Nat} {ret : Option FieldType} (hown : s.vm.findClass own = some m.cls)
    (w1 : (Jvm.Cond.methodLink own index y).before a0 Z = true) (w2 : (Jvm.Cond.declares y).before a0 Z = true) (w3 : (Jvm.Cond.selects C y y).before a0 Z = true) (w4 : (Jvm.Cond.instanceMethod y).before a0 Z = true) (w5 : (Jvm.Cond.code y bytes maxL ret).before a0 Z = true) (w6 : (Jvm.Cond.initialized y.cls).before a0 Z = true) (hy : y.cls ≠ "java/lang/invoke/MethodHandle" ∧ y.cls ≠ "java/lang/invoke/VarHandle")
    {rm : Room} {W : Nat} {as' : Array Value} {Q : Option Value → Heap → List Loc → Prop} (hM : MetFree l y (head1 [Jvm.Cond.code y bytes maxL ret] rm) (fun a U => a = as' ∧ Z.Warmed39 U.vm ∧ U.heap = h) (fun _ _ _ _ _ => True) (fun _ U o U' => ∃ v L, o = .returned v ∧ Q v U'.heap L ∧ FrameEnd U o U' L rm.cells rm.slots)) (hf : rm.frames + 1 ≤ R.frames) (hl : W + (maxL + 11) + rm.locals ≤ R.locals) {b : Addr} (E : Exa Z h b C) {g : JFrame} (hg : g.method = m) (hsize : g.locals.size = c.maxLocals) {argsL rest : List Value} (hlen : ∀ sig, parseMethodDescriptor y.desc = some sig → argsL.length = sig.parameters.length) (hstack : g.stack = argsL.reverse ++ .ref b :: rest) (hW : 2 * g.monitorRoom + (rest.map fun v => v.category).sum ≤ W)
    (hdg : decode c.code g.pc = .ok (.invokevirtual index, 3)) (has : (.ref b :: argsL).toArray = as') (eT : T.heap = h) (hc : cells + rm.cells ≤ R.cells) (hs : slots + rm.slots ≤ R.slots) :
    ∃ v T' L, Stand p l e R s m args below meth c T' (locs ++ L) (cells + rm.cells) (slots + rm.slots) ∧ Q v T'.heap L ∧ Steps p.tables e below (T.setTop g) (T'.setTop { g with pc := g.pc + 3, stack := v.toList ++ rest }) := by
  obtain ⟨cq, kq, qa, qb, qc⟩ := isOf hZ eT E
  obtain ⟨v, vm, ⟨U, L', k, n⟩, -, X', ⟨L, hQ, l1, l2, l3⟩, st⟩ := X.virtualBack hx hown (mvT hZ w1) (mvT hZ w2) (notFace_of_selects (args := #[]) (mvT hZ w3)) (mvT hZ w3) (mvT hZ w4) hy (backOf (W := W) hM hZ w5 w6 hf hl) qa qc hg hsize (Steps.refl _) hlen hstack hW hdg (fun _ _ => ⟨has, eT, hc, hs⟩)
  dsimp only [Pt.U, Pt.locs, Pt.cells, Pt.slots] at X' l1 l2 l3 st hQ
  subst l1 l2 l3
  exact ⟨v, U, L, X', hQ, st⟩
abbrev Y0 : MethodName := ⟨"java/lang/Math", "min", "(II)I"⟩
abbrev Y1 : MethodName := ⟨"java/lang/Math", "max", "(II)I"⟩
abbrev Y2 : MethodName := ⟨"java/lang/StringLatin1", "canEncode", "(I)Z"⟩
abbrev Y3 : MethodName := ⟨"jdk/internal/util/Preconditions", "checkIndex", "(IILjava/util/function/BiFunction;)I"⟩
abbrev Y4 : MethodName := ⟨"java/lang/String", "checkIndex", "(II)V"⟩
abbrev Y5 : MethodName := ⟨"jdk/internal/util/Preconditions", "checkFromToIndex", "(IIILjava/util/function/BiFunction;)I"⟩
abbrev Y6 : MethodName := ⟨"java/lang/String", "checkBoundsBeginEnd", "(III)V"⟩
abbrev Y7 : MethodName := ⟨"jdk/internal/util/Preconditions", "checkFromIndexSize", "(IIILjava/util/function/BiFunction;)I"⟩
abbrev Y8 : MethodName := ⟨"java/lang/String", "checkBoundsOffCount", "(III)I"⟩
abbrev Y9 : MethodName := ⟨"java/lang/StringUTF16", "length", "([B)I"⟩
abbrev Y10 : MethodName := ⟨"java/lang/StringUTF16", "checkBoundsOffCount", "(II[B)V"⟩
abbrev Y11 : MethodName := ⟨"java/lang/StringUTF16", "checkBoundsBeginEnd", "(II[B)V"⟩
abbrev Y12 : MethodName := ⟨"java/lang/StringUTF16", "checkIndex", "(I[B)V"⟩
abbrev Y13 : MethodName := ⟨"java/lang/StringUTF16", "newBytesLength", "(I)I"⟩
abbrev Y14 : MethodName := ⟨"java/lang/StringUTF16", "newBytesFor", "(I)[B"⟩
abbrev Y15 : MethodName := ⟨"java/lang/StringUTF16", "getChar", "([BI)C"⟩
abbrev Y16 : MethodName := ⟨"java/lang/StringUTF16", "putChar", "([BII)V"⟩
abbrev Y17 : MethodName := ⟨"java/lang/StringUTF16", "toBytes", "([CII)[B"⟩
abbrev Y18 : MethodName := ⟨"java/lang/StringUTF16", "compress", "([CI[BII)I"⟩
abbrev Y19 : MethodName := ⟨"java/lang/StringUTF16", "compress", "([BI[BII)I"⟩
abbrev Y20 : MethodName := ⟨"java/lang/StringUTF16", "compress", "([CII)[B"⟩
abbrev Y21 : MethodName := ⟨"java/lang/StringUTF16", "coderFromArrayLen", "([BI)B"⟩
abbrev Y22 : MethodName := ⟨"java/lang/String", "<init>", "([BB)V"⟩
abbrev Y23 : MethodName := ⟨"java/lang/String", "<init>", "([CIILjava/lang/Void;)V"⟩
abbrev Y24 : MethodName := ⟨"java/lang/String", "<init>", "([C)V"⟩
abbrev Y25 : MethodName := ⟨"java/lang/String", "coder", "()B"⟩
abbrev Y26 : MethodName := ⟨"java/lang/String", "isLatin1", "()Z"⟩
abbrev Y27 : MethodName := ⟨"java/lang/String", "length", "()I"⟩
abbrev Y28 : MethodName := ⟨"java/lang/StringLatin1", "charAt", "([BI)C"⟩
abbrev Y29 : MethodName := ⟨"java/lang/StringUTF16", "charAt", "([BI)C"⟩
abbrev Y30 : MethodName := ⟨"java/lang/String", "charAt", "(I)C"⟩
abbrev Y31 : MethodName := ⟨"java/lang/StringUTF16", "indexOfCharUnsafe", "([BIII)I"⟩
abbrev Y32 : MethodName := ⟨"java/lang/StringLatin1", "indexOfChar", "([BIII)I"⟩
abbrev Y33 : MethodName := ⟨"java/lang/StringUTF16", "indexOfChar", "([BIII)I"⟩
abbrev Y34 : MethodName := ⟨"java/lang/StringUTF16", "indexOf", "([BIII)I"⟩
abbrev Y35 : MethodName := ⟨"java/lang/StringLatin1", "indexOf", "([BIII)I"⟩
abbrev Y36 : MethodName := ⟨"java/lang/String", "indexOf", "(II)I"⟩
abbrev Y37 : MethodName := ⟨"java/lang/String", "indexOf", "(I)I"⟩
abbrev Y38 : MethodName := ⟨"java/util/Arrays", "checkLength", "(II)V"⟩
abbrev Y39 : MethodName := ⟨"java/util/Arrays", "copyOfRangeByte", "([BII)[B"⟩
abbrev Y40 : MethodName := ⟨"java/util/Arrays", "copyOfRange", "([BII)[B"⟩
abbrev Y41 : MethodName := ⟨"java/lang/StringLatin1", "newString", "([BII)Ljava/lang/String;"⟩
abbrev Y42 : MethodName := ⟨"java/lang/StringUTF16", "compress", "([BII)[B"⟩
abbrev Y43 : MethodName := ⟨"java/lang/StringUTF16", "newString", "([BII)Ljava/lang/String;"⟩
abbrev Y44 : MethodName := ⟨"java/lang/String", "substring", "(II)Ljava/lang/String;"⟩
abbrev Y45 : MethodName := ⟨"java/lang/String", "substring", "(I)Ljava/lang/String;"⟩
abbrev Y46 : MethodName := ⟨"java/util/Arrays", "copyOf", "([BI)[B"⟩
abbrev Y47 : MethodName := ⟨"java/lang/StringCoding", "countPositives", "([BII)I"⟩
abbrev Y48 : MethodName := ⟨"java/lang/StringCoding", "hasNegatives", "([BII)Z"⟩
abbrev Y49 : MethodName := ⟨"java/lang/String", "encodeUTF8", "(B[BZ)[B"⟩
abbrev Y50 : MethodName := ⟨"java/lang/Character", "isSurrogate", "(C)Z"⟩
abbrev Y51 : MethodName := ⟨"java/lang/String", "encodeUTF8_UTF16", "([BZ)[B"⟩
abbrev Y52 : MethodName := ⟨"java/lang/String", "encode", "(Ljava/nio/charset/Charset;B[B)[B"⟩
abbrev Y53 : MethodName := ⟨"java/lang/String", "getBytes", "(Ljava/nio/charset/Charset;)[B"⟩
abbrev Y54 : MethodName := ⟨"com/example/treewarden/treewarden/session/Credential", "<init>", "(Ljava/lang/String;[B)V"⟩
abbrev Y55 : MethodName := ⟨"com/example/treewarden/treewarden/session/Credential", "scheme", "()Ljava/lang/String;"⟩
abbrev Y56 : MethodName := ⟨"com/example/treewarden/treewarden/session/Credential", "secret", "()[B"⟩
abbrev Y57 : MethodName := ⟨"com/example/treewarden/treewarden/session/Credential", "parse", "(Ljava/lang/String;)Lcom/example/treewarden/treewarden/session/Credential;"⟩
abbrev Y58 : MethodName := ⟨"com/example/treewarden/treewarden/session/CredentialParsePinLaw", "pick", "(CII)C"⟩
abbrev Y59 : MethodName := ⟨"com/example/treewarden/treewarden/session/CredentialParsePinLaw", "put", "([BI[CII)I"⟩
abbrev Y60 : MethodName := ⟨"com/example/treewarden/treewarden/session/CredentialParsePinLaw", "eqAt", "([B[BII)Z"⟩
theorem own_nb (x : Int32) : nar .byte (x.toInt8.toInt32) = x.toInt8.toInt32 := by
  show (x.toInt8.toInt32).toInt8.toInt32 = x.toInt8.toInt32
  simp
theorem own_fb {x : Int32} (h : nar .byte x = x) : fits .byte (.int x) = true := by
  have q := fits_nar_byte x
  have e : x.toInt8.toInt32 = x := h
  rwa [e] at q
theorem own_nc (x : Int32) : nar .char (x.toUInt32.toUInt16.toUInt32.toInt32) = x.toUInt32.toUInt16.toUInt32.toInt32 := by
  show (x.toUInt32.toUInt16.toUInt32.toInt32).toUInt32.toUInt16.toUInt32.toInt32 = x.toUInt32.toUInt16.toUInt32.toInt32
  apply Int32.toInt_inj.mp
  have h1 := c_i2c x
  have h2 := c_i2c (x.toUInt32.toUInt16.toUInt32.toInt32)
  omega
theorem own_fc {x : Int32} (h : nar .char x = x) : fits .char (.int x) = true := by
  have q := fits_nar_char x
  rwa [h] at q
theorem own_selp {s : State} {args : Array Value} {y : MethodName} {n : Nat} (wi : (Jvm.Cond.instantiable y.cls n).before args s = true) (hp : s.PrivateAt y) (hm : (Jvm.Cond.instanceMethod y).before args s = true) (hy : y.cls ≠ "java/lang/invoke/MethodHandle" ∧ y.cls ≠ "java/lang/invoke/VarHandle") : (Jvm.Cond.selects y.cls y y).before args s = true := by
  obtain ⟨t, k, g0, g2, g5, g7, -⟩ := Cond.instantiable_spec wi
  exact selects_self_of_private g0 g2 (Bool.or_eq_false_iff.mp g7).1 hp hm hy
def own_ch (x : Int32) : Prop := ¬ (x < (0 : Int32)) ∧ ¬ ((65535 : Int32) < x)
def own_u0 (x : Int32) : Int32 := ((x >>> ((0 : Int32) &&& 31)).toInt8.toInt32)
def own_u1 (x : Int32) : Int32 := ((x >>> ((8 : Int32) &&& 31)).toInt8.toInt32)
theorem own_chI {x : Int32} (h : own_ch x) : 0 ≤ x.toInt ∧ x.toInt ≤ 65535 := by
  obtain ⟨h1, h2⟩ := h
  simp only [Int32.lt_iff_toInt_lt, Int32.reduceToInt] at h1 h2
  omega
theorem own_chO {x : Int32} (h : 0 ≤ x.toInt ∧ x.toInt ≤ 65535) : own_ch x := by
  refine ⟨?_, ?_⟩ <;> simp only [Int32.lt_iff_toInt_lt, Int32.reduceToInt] <;> omega
theorem own_chC (x : Int32) : own_ch (x.toUInt32.toUInt16.toUInt32.toInt32) := by
  have h := c_i2c x
  exact own_chO (by omega)
theorem own_nrc (x : Int32) (h : own_ch x) : nar .char x = x := by
  show x.toUInt32.toUInt16.toUInt32.toInt32 = x
  have h1 := own_chI h
  have h2 := c_i2c x
  exact Int32.toInt_inj.mp (by omega)
theorem own_gc (x : Int32) (h : own_ch x) : (((((own_u0 x) &&& (255 : Int32)) <<< ((0 : Int32) &&& 31)) ||| (((own_u1 x) &&& (255 : Int32)) <<< ((8 : Int32) &&& 31))).toUInt32.toUInt16.toUInt32.toInt32) = x := by
  have h1 := own_chI h
  unfold own_u0 own_u1
  have a1 := c_ishr x 0 0 (by decide)
  have a2 := c_i2b (x >>> ((0 : Int32) &&& 31))
  have a3 := c_mask ((x >>> ((0 : Int32) &&& 31)).toInt8.toInt32) 255 8 (by decide) (by decide)
  have a4 := c_ishl (((x >>> ((0 : Int32) &&& 31)).toInt8.toInt32) &&& 255) 0 0 (by decide)
  have b1 := c_ishr x 8 8 (by decide)
  have b2 := c_i2b (x >>> ((8 : Int32) &&& 31))
  have b3 := c_mask ((x >>> ((8 : Int32) &&& 31)).toInt8.toInt32) 255 8 (by decide) (by decide)
  have b4 := c_ishl (((x >>> ((8 : Int32) &&& 31)).toInt8.toInt32) &&& 255) 8 8 (by decide)
  have r1 := rng32 ((((x >>> ((0 : Int32) &&& 31)).toInt8.toInt32) &&& 255) <<< ((0 : Int32) &&& 31))
  have r2 := rng32 ((((x >>> ((8 : Int32) &&& 31)).toInt8.toInt32) &&& 255) <<< ((8 : Int32) &&& 31))
  have o := c_or' ((((x >>> ((0 : Int32) &&& 31)).toInt8.toInt32) &&& 255) <<< ((0 : Int32) &&& 31)) ((((x >>> ((8 : Int32) &&& 31)).toInt8.toInt32) &&& 255) <<< ((8 : Int32) &&& 31)) 8 (by decide) 256 rfl (by omega) (by omega) (by omega)
  have r3 := rng32 (((((x >>> ((0 : Int32) &&& 31)).toInt8.toInt32) &&& 255) <<< ((0 : Int32) &&& 31)) ||| ((((x >>> ((8 : Int32) &&& 31)).toInt8.toInt32) &&& 255) <<< ((8 : Int32) &&& 31)))
  have i := c_i2c (((((x >>> ((0 : Int32) &&& 31)).toInt8.toInt32) &&& 255) <<< ((0 : Int32) &&& 31)) ||| ((((x >>> ((8 : Int32) &&& 31)).toInt8.toInt32) &&& 255) <<< ((8 : Int32) &&& 31)))
  exact Int32.toInt_inj.mp (by omega)
def own_M (L : List Int32) : List Value := L.map Value.int
def own_len (L : List Int32) : Int32 := L.length.toInt32
theorem own_lenI (L : List Int32) (h : L.length ≤ 100) : (own_len L).toInt = L.length := len_toInt (by omega)
theorem own_lenN (L : List Int32) (h : L.length ≤ 100) : (own_len L).toNatClampNeg = L.length := by
  have q := own_lenI L h
  simp only [Int32.toNatClampNeg]; omega
theorem own_lenP (L : List Int32) (h : L.length ≤ 100) : ¬ (own_len L < (0 : Int32)) := by
  have q := own_lenI L h
  simp only [Int32.lt_iff_toInt_lt, Int32.reduceToInt]; omega
theorem own_lenA (L : List Int32) (h : L.length ≤ 100) (k : Int32) (n : Nat) (hk : k.toInt = n) (hn : n ≤ 100) : (own_len L + k).toInt = L.length + n := by
  have q := own_lenI L h
  have a := c_iadd (own_len L) k
  have r := rng32 (own_len L + k)
  omega
theorem own_l (L V : List Int32) (k : Int32) (hk : k.toInt = V.length) (h : L.length ≤ 90) (hv : V.length ≤ 10) : own_len L + k = own_len (L ++ V) := by
  apply Int32.toInt_inj.mp
  rw [own_lenA L (by omega) k V.length hk (by omega), own_lenI _ (by rw [List.length_append]; omega), List.length_append]; omega
theorem own_bnd (L : List Int32) (z : Int32) (h : L.length < z.toInt.toNat) (h2 : L.length ≤ 100) : ¬ (own_len L < (0 : Int32)) ∧ own_len L < z := by
  refine ⟨own_lenP L h2, ?_⟩
  rw [Int32.lt_iff_toInt_lt, own_lenI L h2]; omega
theorem own_Mget (L : List Int32) (i : Nat) (x : Int32) (h : L[i]? = some x) : (own_M L).getD i (.int (0 : Int32)) = .int x := by
  unfold own_M
  rw [List.getD_eq_getElem?_getD, List.getElem?_map, h]; rfl
theorem own_Mapp (L V : List Int32) : own_M (L ++ V) = own_M L ++ own_M V := by simp [own_M]
theorem own_Mlen (L : List Int32) : (own_M L).length = L.length := by simp [own_M]
theorem own_push {Z : State} {h h' : Heap} {a : Addr} {k : ClassId} {z j : Int32} {L : List Int32} {v : Int32} {c : Cell} (A : Arr Z h a c .byte) (q1 : c.cls = k) (S : c.slots.size = z.toNatClampNeg) (q3 : ¬ z < 0) (H : Has c (own_M L) (.int (0 : Int32))) (G : ∀ i, i < c.slots.size → fits .byte ((own_M L).getD i (.int (0 : Int32))) = true) (hv : fits .byte (.int v) = true) (W : Wr h h' a j.toNatClampNeg (.int v)) (hj : j.toNatClampNeg = L.length) : Arv Z h' a k .byte z (own_M (L ++ [v])) (.int (0 : Int32)) := by
  have e := pad_rep (own_M L) (.int (0 : Int32)) 1
  have q := Arv.set (vs := own_M L ++ List.replicate 1 (.int (0 : Int32))) (dv := .int (0 : Int32)) A q1 S q3 (fun i hi => by rw [e]; exact H i hi) (fun i hi => by rw [e]; exact G i hi) hv W L.length hj (by simp [own_M])
  have e2 : (own_M L ++ List.replicate 1 (Value.int (0 : Int32))).set L.length (Value.int v) = own_M (L ++ [v]) := by
    rw [own_Mapp, List.set_append_right _ _ (by rw [own_Mlen]; exact Nat.le_refl _), own_Mlen]
    simp [own_M]
  rw [← e2]; exact q
def own_at (vs : List Value) (z i x : Int32) (a : Nat) : Prop := (¬ ((i <<< ((1 : Int32) &&& 31)) < (0 : Int32)) ∧ (i <<< ((1 : Int32) &&& 31)) < z) ∧ (¬ (((i <<< ((1 : Int32) &&& 31)) + (1 : Int32)) < (0 : Int32)) ∧ ((i <<< ((1 : Int32) &&& 31)) + (1 : Int32)) < z) ∧ (i <<< ((1 : Int32) &&& 31)).toNatClampNeg = a ∧ ((i <<< ((1 : Int32) &&& 31)) + (1 : Int32)).toNatClampNeg = a + 1 ∧ vs.getD a (.int (0 : Int32)) = .int (own_u0 x) ∧ vs.getD (a + 1) (.int (0 : Int32)) = .int (own_u1 x) ∧ own_ch x
theorem own_at0 {vs : List Value} {z i x : Int32} {a : Nat} (h : own_at vs z i x a) : vs.getD (i <<< ((1 : Int32) &&& 31)).toNatClampNeg (.int (0 : Int32)) = .int (own_u0 x) := by rw [h.2.2.1]; exact h.2.2.2.2.1
theorem own_at1 {vs : List Value} {z i x : Int32} {a : Nat} (h : own_at vs z i x a) : vs.getD ((i <<< ((1 : Int32) &&& 31)) + (1 : Int32)).toNatClampNeg (.int (0 : Int32)) = .int (own_u1 x) := by rw [h.2.2.2.1]; exact h.2.2.2.2.2.1
theorem own_atc {vs : List Value} {z i x : Int32} {a : Nat} (h : own_at vs z i x a) : own_ch x := h.2.2.2.2.2.2
def own_min (p0 p1 : Int32) : Int32 := (if p1 < p0 then p1 else p0)
def own_cr (z p1 p2 ln : Int32) (a n : Nat) : Prop := (p2 - p1) = ln ∧ ¬ (p1 < (0 : Int32)) ∧ ¬ (p2 < p1) ∧ ¬ (ln < (0 : Int32)) ∧ ln.toNatClampNeg = n ∧ p1.toNatClampNeg = a ∧ a + n ≤ z.toNatClampNeg ∧ n ≤ 10 ∧ own_min (z - p1) ln = ln ∧ (p1 = (0 : Int32) → ¬ (p2 = z))
def own_us (vs : List Value) (a n : Nat) : List Value := (List.range n).map fun i => vs.getD (a + i) (.int (0 : Int32))
theorem own_cpeq (vs : List Value) (a n : Nat) (p ln : Int32) (hn : ln.toNatClampNeg = n) (ha : p.toNatClampNeg = a) : (([] ++ List.replicate n (Value.int (0 : Int32))).take (0 : Int32).toNatClampNeg ++ ((List.range ln.toNatClampNeg).map fun i => vs.getD (p.toNatClampNeg + i) (Value.int (0 : Int32))) ++ ([] ++ List.replicate n (Value.int (0 : Int32))).drop ((0 : Int32).toNatClampNeg + ln.toNatClampNeg)) = own_us vs a n := by
  have e0 : (0 : Int32).toNatClampNeg = 0 := by decide
  rw [hn, ha, e0]
  simp [own_us]
theorem own_h4 {z p ln : Int32} {a n : Nat} (hn : ln.toNatClampNeg = n) (ha : p.toNatClampNeg = a) (h : a + n ≤ z.toNatClampNeg) : p.toNatClampNeg + ln.toNatClampNeg ≤ z.toNatClampNeg := by rw [hn, ha]; exact h
theorem own_h5 (ln : Int32) : (0 : Int32).toNatClampNeg + ln.toNatClampNeg ≤ ln.toNatClampNeg := by
  have e0 : (0 : Int32).toNatClampNeg = 0 := by decide
  omega
theorem own_hl {ln : Int32} {n : Nat} (hn : ln.toNatClampNeg = n) : (0 : Int32).toNatClampNeg + ln.toNatClampNeg ≤ ([] ++ List.replicate n (.int (0 : Int32)) : List Value).length := by
  have e0 : (0 : Int32).toNatClampNeg = 0 := by decide
  rw [hn, e0]; simp
theorem own_usM (L : List Int32) : own_us (own_M L) 0 L.length = own_M L := by
  unfold own_us
  apply List.ext_getElem?
  intro i
  rw [List.getElem?_map]
  rcases Nat.lt_or_ge i L.length with h | h
  · rw [List.getElem?_range h]
    simp [own_M, h]
  · rw [List.getElem?_eq_none (by rw [List.length_range]; exact h), List.getElem?_eq_none (by rw [own_Mlen]; exact h)]; rfl
def own_enc (x : Int32) : List Int32 := if x < (128 : Int32) then [(x.toInt8.toInt32)] else (if x < (2048 : Int32) then [(((192 : Int32) ||| (x >>> ((6 : Int32) &&& 31))).toInt8.toInt32), (((128 : Int32) ||| (x &&& (63 : Int32))).toInt8.toInt32)] else [(((224 : Int32) ||| (x >>> ((12 : Int32) &&& 31))).toInt8.toInt32), (((128 : Int32) ||| ((x >>> ((6 : Int32) &&& 31)) &&& (63 : Int32))).toInt8.toInt32), (((128 : Int32) ||| (x &&& (63 : Int32))).toInt8.toInt32)])
theorem own_encl (x : Int32) : (own_enc x).length ≤ 3 := by
  unfold own_enc; split
  · simp
  · split <;> simp
theorem own_e1 {x : Int32} (h : x < (128 : Int32)) : own_enc x = [(x.toInt8.toInt32)] := if_pos h
theorem own_e2 {x : Int32} (h : ¬ (x < (128 : Int32))) (h2 : x < (2048 : Int32)) : own_enc x = [(((192 : Int32) ||| (x >>> ((6 : Int32) &&& 31))).toInt8.toInt32), (((128 : Int32) ||| (x &&& (63 : Int32))).toInt8.toInt32)] := (if_neg h).trans (if_pos h2)
theorem own_e3 {x : Int32} (h : ¬ (x < (128 : Int32))) (h2 : ¬ (x < (2048 : Int32))) : own_enc x = [(((224 : Int32) ||| (x >>> ((12 : Int32) &&& 31))).toInt8.toInt32), (((128 : Int32) ||| ((x >>> ((6 : Int32) &&& 31)) &&& (63 : Int32))).toInt8.toInt32), (((128 : Int32) ||| (x &&& (63 : Int32))).toInt8.toInt32)] := (if_neg h).trans (if_neg h2)
theorem own_lc (x : Int32) (h : own_ch x) (hl : ¬ ((255 : Int32) < x)) : (((x.toInt8.toInt32) &&& (255 : Int32)).toUInt32.toUInt16.toUInt32.toInt32) = x := by
  have h1 := own_chI h
  simp only [Int32.lt_iff_toInt_lt, Int32.reduceToInt] at hl
  have a2 := c_i2b x
  have a3 := c_mask (x.toInt8.toInt32) 255 8 (by decide) (by decide)
  have i := c_i2c ((x.toInt8.toInt32) &&& 255)
  exact Int32.toInt_inj.mp (by omega)
def own_n (i : Nat) : Int32 := i.toInt32
theorem own_nI {i : Nat} (h : i ≤ 100) : (own_n i).toInt = i := len_toInt (by omega)
theorem own_nN {i : Nat} (h : i ≤ 100) : (own_n i).toNatClampNeg = i := by
  have q := own_nI h
  simp only [Int32.toNatClampNeg]; omega
theorem own_nP {i : Nat} (h : i ≤ 100) : ¬ (own_n i < (0 : Int32)) := by
  have q := own_nI h
  simp only [Int32.lt_iff_toInt_lt, Int32.reduceToInt]; omega
theorem own_nlt {i j : Nat} (h : i < j) (hj : j ≤ 100) : own_n i < own_n j := by
  rw [Int32.lt_iff_toInt_lt, own_nI (by omega), own_nI hj]; omega
theorem own_nge {i j : Nat} (h : j ≤ i) (hi : i ≤ 100) : ¬ (own_n i < own_n j) := by
  rw [Int32.lt_iff_toInt_lt, own_nI hi, own_nI (by omega)]; omega
theorem own_nA {i : Nat} {k : Int32} {m : Nat} (hk : k.toInt = m) (h : i + m ≤ 100) : own_n i + k = own_n (i + m) := by
  apply Int32.toInt_inj.mp
  have a := c_iadd (own_n i) k
  have r := rng32 (own_n i + k)
  rw [own_nI (by omega)] at a
  rw [own_nI h]; omega
theorem own_nS {i : Nat} (h : i + 1 ≤ 100) : own_n i + (1 : Int32) = own_n (i + 1) := own_nA (by decide) h
theorem own_nD {i : Nat} (h : i ≤ 40) : (own_n i <<< ((1 : Int32) &&& 31)) = own_n (2 * i) := by
  apply Int32.toInt_inj.mp
  have a := c_ishl (own_n i) 1 1 (by decide)
  have r := rng32 (own_n i <<< ((1 : Int32) &&& 31))
  rw [own_nI (by omega)] at a
  rw [own_nI (by omega)]; omega
theorem own_nH {i : Nat} (h : i ≤ 40) : (own_n (2 * i) >>> ((1 : Int32) &&& 31)) = own_n i := by
  apply Int32.toInt_inj.mp
  have a := c_ishr (own_n (2 * i)) 1 1 (by decide)
  rw [own_nI (by omega)] at a
  rw [own_nI (by omega)]; omega
theorem own_n0 : own_n 0 = (0 : Int32) := by decide
def own_Lb (cs : List Int32) : List Int32 := cs.map fun x => (x.toInt8.toInt32)
def own_U (cs : List Int32) : List Int32 := cs.flatMap fun x => [own_u0 x, own_u1 x]
def own_encs (cs : List Int32) : List Int32 := cs.flatMap own_enc
theorem own_Ulen (cs : List Int32) : (own_U cs).length = 2 * cs.length := by
  induction cs with
  | nil => rfl
  | cons a t ih =>
    have e : own_U (a :: t) = own_u0 a :: own_u1 a :: own_U t := rfl
    rw [e, List.length_cons, List.length_cons, ih, List.length_cons]; omega
theorem own_Lblen (cs : List Int32) : (own_Lb cs).length = cs.length := by simp [own_Lb]
theorem own_Uat (cs : List Int32) : ∀ (i : Nat) (x : Int32), cs[i]? = some x → (own_U cs)[2 * i]? = some (own_u0 x) ∧ (own_U cs)[2 * i + 1]? = some (own_u1 x) := by
  induction cs with
  | nil => intro i x h; simp at h
  | cons a t ih =>
    intro i x h
    have e : own_U (a :: t) = own_u0 a :: own_u1 a :: own_U t := rfl
    cases i with
    | zero => simp at h; subst h; rw [e]; exact ⟨rfl, rfl⟩
    | succ i =>
      have q := ih i x (by simpa using h)
      rw [e, show 2 * (i + 1) = (2 * i) + 1 + 1 from by omega]
      exact ⟨by simpa using q.1, by simpa using q.2⟩
theorem own_atU {cs : List Int32} {i : Nat} {x : Int32} (h : cs[i]? = some x) (hl : cs.length ≤ 20) (hx : own_ch x) : own_at (own_M (own_U cs)) (own_len (own_U cs)) (own_n i) x (2 * i) := by
  obtain ⟨hi, -⟩ := List.getElem?_eq_some_iff.mp h
  have q := own_Uat cs i x h
  have hl2 : own_len (own_U cs) = own_n (2 * cs.length) := by show own_n (own_U cs).length = _; rw [own_Ulen]
  unfold own_at
  rw [own_nD (by omega), own_nS (by omega), hl2]
  exact ⟨⟨own_nP (by omega), own_nlt (by omega) (by omega)⟩, ⟨own_nP (by omega), own_nlt (by omega) (by omega)⟩, own_nN (by omega), own_nN (by omega), own_Mget _ _ _ q.1, own_Mget _ _ _ q.2, hx⟩
theorem own_first (p : Int32 → Prop) [DecidablePred p] : ∀ cs : List Int32, ∃ j, j ≤ cs.length ∧ (∀ i x, i < j → cs[i]? = some x → ¬ p x) ∧ (j = cs.length ∨ ∃ x, cs[j]? = some x ∧ p x) := by
  intro cs
  induction cs with
  | nil => exact ⟨0, Nat.le_refl _, fun i x h => absurd h (Nat.not_lt_zero i), Or.inl rfl⟩
  | cons a t ih =>
    by_cases h : p a
    · exact ⟨0, Nat.zero_le _, fun i x q => absurd q (Nat.not_lt_zero i), Or.inr ⟨a, rfl, h⟩⟩
    · obtain ⟨j, h1, h2, h3⟩ := ih
      refine ⟨j + 1, Nat.succ_le_succ h1, fun i x hi hx => ?_, ?_⟩
      · cases i with
        | zero => simp at hx; subst hx; exact h
        | succ i => exact h2 i x (Nat.lt_of_succ_lt_succ hi) (by simpa using hx)
      · rcases h3 with rfl | ⟨x, q1, q2⟩
        · exact Or.inl (by simp)
        · exact Or.inr ⟨x, by simpa using q1, q2⟩
theorem own_all_of {cs : List Int32} {p : Int32 → Prop} (h : ∀ i x, i < cs.length → cs[i]? = some x → p x) : ∀ x ∈ cs, p x := fun x hx => by
  obtain ⟨i, hi, rfl⟩ := List.getElem_of_mem hx
  exact h i _ hi (List.getElem?_eq_getElem hi)
theorem own_takeS {cs : List Int32} {i : Nat} {x : Int32} (h : cs[i]? = some x) : cs.take (i + 1) = cs.take i ++ [x] := by
  rw [List.take_add_one, h]; rfl
theorem own_LbS {cs : List Int32} {i : Nat} {x : Int32} (h : cs[i]? = some x) : own_Lb (cs.take i) ++ [(x.toInt8.toInt32)] = own_Lb (cs.take (i + 1)) := by
  rw [own_takeS h]; simp [own_Lb]
theorem own_US {cs : List Int32} {i : Nat} {x : Int32} (h : cs[i]? = some x) : own_U (cs.take i) ++ [own_u0 x] ++ [own_u1 x] = own_U (cs.take (i + 1)) := by
  rw [own_takeS h]; simp [own_U]
theorem own_encsS {cs : List Int32} {i : Nat} {x : Int32} (h : cs[i]? = some x) : own_encs (cs.take i) ++ own_enc x = own_encs (cs.take (i + 1)) := by
  rw [own_takeS h]; simp [own_encs]
theorem own_encsl (cs : List Int32) : (own_encs cs).length ≤ 3 * cs.length := by
  induction cs with
  | nil => simp [own_encs]
  | cons a t ih =>
    have e : own_encs (a :: t) = own_enc a ++ own_encs t := rfl
    have h := own_encl a
    rw [e, List.length_append, List.length_cons]; omega
def own_sub (cs : List Int32) (f k : Nat) : List Int32 := (cs.drop f).take k
theorem own_subat {cs : List Int32} {f k i : Nat} {x : Int32} (h : (own_sub cs f k)[i]? = some x) : cs[f + i]? = some x := by
  unfold own_sub at h
  rw [List.getElem?_take] at h
  split at h
  · rwa [List.getElem?_drop] at h
  · cases h
theorem own_sublen {cs : List Int32} {f k : Nat} (h : f + k ≤ cs.length) : (own_sub cs f k).length = k := by
  unfold own_sub; rw [List.length_take, List.length_drop]; omega
theorem own_iter {tb : Tables} {e : Env} {below : List Frame} {F : Nat → JFrame} {Inv : Nat → State → Heap → List Loc → Prop} {ws : List Addr} {n : Nat}
    (step : ∀ i T h Ls, i < n → Inv i T h Ls → ∃ T' h' Ls', Inv (i + 1) T' h' Ls' ∧ Keep h h' ws ∧ ∀ t, Steps tb e below (T'.setTop (F (i + 1))) t → Steps tb e below (T.setTop (F i)) t) :
    ∀ (k i : Nat) (T : State) (h : Heap) (Ls : List Loc), i + k = n → Inv i T h Ls → ∃ T' h' Ls', Inv n T' h' Ls' ∧ Keep h h' ws ∧ ∀ t, Steps tb e below (T'.setTop (F n)) t → Steps tb e below (T.setTop (F i)) t := by
  intro k
  induction k with
  | zero => intro i T h Ls hi I; have : i = n := by omega
            subst this; exact ⟨T, h, Ls, I, Keep.refl _ _, fun _ k => k⟩
  | succ k ih =>
    intro i T h Ls hi I
    obtain ⟨T1, h1, L1, I1, K1, s1⟩ := step i T h Ls (by omega) I
    obtain ⟨T2, h2, L2, I2, K2, s2⟩ := ih (i + 1) T1 h1 L1 (by omega) I1
    exact ⟨T2, h2, L2, I2, K1.trans K2 (fun x hx => Or.inl hx), fun t k => s1 t (s2 t k)⟩
theorem own_nsm {n : Nat} (h : n ≤ 100) : own_n n < (1073741823 : Int32) := by
  rw [Int32.lt_iff_toInt_lt, own_nI h]
  have : (1073741823 : Int32).toInt = 1073741823 := by decide
  omega
theorem own_ltz {a : Nat} {z : Int32} (h : a < z.toNatClampNeg) (h2 : a ≤ 100) : own_n a < z := by
  rw [Int32.lt_iff_toInt_lt, own_nI h2]
  simp only [Int32.toNatClampNeg] at h; omega
theorem own_ULt {cs : List Int32} {i : Nat} (h : i ≤ cs.length) : (own_U (cs.take i)).length = 2 * i := by rw [own_Ulen, List.length_take]; omega
theorem own_Uall (cs : List Int32) {Z : State} {h : Heap} {a : Addr} {k : ClassId} : Arv Z h a k .byte (own_n (2 * cs.length)) (own_M (own_U (cs.take cs.length))) (.int (0 : Int32)) = Arv Z h a k .byte (own_len (own_U cs)) (own_M (own_U cs)) (.int (0 : Int32)) := by
  rw [List.take_length]
  show Arv Z h a k .byte (own_n (2 * cs.length)) _ _ = Arv Z h a k .byte (own_n (own_U cs).length) _ _
  rw [own_Ulen]
theorem own_pos {cs : List Int32} (h : 0 < cs.length) (h2 : cs.length ≤ 100) : (0 : Int32) < own_len cs := by
  rw [Int32.lt_iff_toInt_lt, own_lenI cs h2]
  have : (0 : Int32).toInt = 0 := by decide
  omega
theorem own_get {cs : List Int32} {i : Nat} (h : i < cs.length) : cs[i]? = some (cs.getD i (0 : Int32)) := by
  rw [List.getElem?_eq_getElem h, List.getD_eq_getElem?_getD, List.getElem?_eq_getElem h]; rfl
theorem own_getx {cs : List Int32} {i : Nat} {x : Int32} (h : cs[i]? = some x) : cs.getD i (0 : Int32) = x := by
  rw [List.getD_eq_getElem?_getD, h]; rfl
theorem own_Mat {L : List Int32} {i : Nat} {x : Int32} (h : L[i]? = some x) (hi : i ≤ 100) : (own_M L).getD (own_n i).toNatClampNeg (.int (0 : Int32)) = .int x := by
  rw [own_nN hi]; exact own_Mget _ _ _ h
theorem own_Mat0 {L : List Int32} {x : Int32} (h : L[0]? = some x) : (own_M L).getD (0 : Int32).toNatClampNeg (.int (0 : Int32)) = .int x := by
  have e : (0 : Int32).toNatClampNeg = 0 := by decide
  rw [e]; exact own_Mget _ _ _ h
theorem own_Lbt {cs : List Int32} {i : Nat} (h : i ≤ cs.length) : (own_Lb (cs.take i)).length = i := by rw [own_Lblen, List.length_take]; omega
theorem own_Lbf {cs : List Int32} (h : 0 < cs.length) : own_M (own_Lb (cs.take (cs.length - 1)) ++ [((cs.getD (cs.length - 1) (0 : Int32)).toInt8.toInt32)]) = own_M (own_Lb cs) := by
  rw [own_LbS (own_get (by omega)), Nat.sub_add_cancel h, List.take_length]
theorem own_Uh {cs : List Int32} (h : cs.length ≤ 20) : (own_len (own_U cs) >>> ((1 : Int32) &&& 31)) = own_n cs.length := by
  show (own_n (own_U cs).length >>> ((1 : Int32) &&& 31)) = _
  rw [own_Ulen]; exact own_nH (by omega)
theorem own_or3 {a b c : Nat} (ha : a ≤ 100) (hb : b ≤ 100) (hc : c ≤ 100) : ¬ (((own_n a ||| own_n b) ||| own_n c) < (0 : Int32)) := by
  have h1 := (c_orS (own_n a) (own_n b)).1 (by rw [own_nI ha]; omega) (by rw [own_nI hb]; omega)
  have h2 := (c_orS (own_n a ||| own_n b) (own_n c)).1 h1 (by rw [own_nI hc]; omega)
  simp only [Int32.lt_iff_toInt_lt, Int32.reduceToInt]; omega
theorem own_sb {a b c : Nat} (h : b + c ≤ a) (ha : a ≤ 100) : ¬ ((own_n a - own_n b) < own_n c) := by
  have s := c_isub (own_n a) (own_n b)
  have r := rng32 (own_n a - own_n b)
  rw [own_nI ha, own_nI (by omega)] at s
  rw [Int32.lt_iff_toInt_lt, own_nI (by omega)]; omega
theorem own_nne {a b : Nat} (h : a ≠ b) (ha : a ≤ 100) (hb : b ≤ 100) : ¬ (own_n a = own_n b) := fun q => by
  have q' := congrArg Int32.toInt q
  rw [own_nI ha, own_nI hb] at q'; omega
theorem own_nz {a : Nat} (h : 0 < a) (ha : a ≤ 100) : ¬ (own_n a = (0 : Int32)) := by
  rw [← own_n0]; exact own_nne (by omega) ha (by omega)
theorem own_nz' {a : Nat} (h : own_n a = (0 : Int32)) (ha : a ≤ 100) : a = 0 := by
  have q' := congrArg Int32.toInt h
  rw [own_nI ha] at q'
  have : (0 : Int32).toInt = 0 := by decide
  omega
theorem own_cf0 (z : Int32) : ((((z - z).toUInt32 >>> ((31 : Int32) &&& 31).toUInt32).toInt32).toInt8.toInt32) = (0 : Int32) := by
  rw [Int32.sub_self]; decide
theorem own_cf1 {cs : List Int32} (h : 0 < cs.length) (h5 : cs.length ≤ 5) : ((((own_len cs - own_len (own_U cs)).toUInt32 >>> ((31 : Int32) &&& 31).toUInt32).toInt32).toInt8.toInt32) = (1 : Int32) := by
  have s := c_isub (own_len cs) (own_len (own_U cs))
  have r := rng32 (own_len cs - own_len (own_U cs))
  rw [own_lenI cs (by omega), own_lenI _ (by rw [own_Ulen]; omega), own_Ulen] at s
  have u := c_iushr (own_len cs - own_len (own_U cs)) 31 31 (by decide) (by decide)
  have b := c_i2b (((own_len cs - own_len (own_U cs)).toUInt32 >>> ((31 : Int32) &&& 31).toUInt32).toInt32)
  apply Int32.toInt_inj.mp
  have : (1 : Int32).toInt = 1 := by decide
  omega
theorem own_sh0 (z : Int32) : (z >>> ((0 : Int32) &&& 31)) = z := by
  have a := c_ishr z 0 0 (by decide)
  exact Int32.toInt_inj.mp (by omega)
theorem own_nadd {a b : Nat} (h : a + b ≤ 100) : own_n a + own_n b = own_n (a + b) := own_nA (own_nI (by omega)) h
theorem own_nsub {a b : Nat} (h : a + b ≤ 100) : own_n (a + b) - own_n a = own_n b := by
  apply Int32.toInt_inj.mp
  have s := c_isub (own_n (a + b)) (own_n a)
  have r := rng32 (own_n (a + b) - own_n a)
  rw [own_nI h, own_nI (by omega)] at s
  rw [own_nI (by omega)]; omega
theorem own_minn {a b z : Nat} (h : a + b ≤ z) (hz : z ≤ 100) : own_min (own_n z - own_n a) (own_n b) = own_n b := by
  obtain ⟨k, rfl⟩ : ∃ k, z = a + k := ⟨z - a, by omega⟩
  rw [own_nsub (by omega)]
  unfold own_min
  by_cases q : b < k
  · rw [if_pos (own_nlt q (by omega))]
  · have : b = k := by omega
    subst this; rw [if_neg (own_nge (Nat.le_refl _) (by omega))]
theorem own_crn {z f k : Nat} (h : f + k ≤ z) (hz : z ≤ 100) (hk : k ≤ 10) (h0 : f = 0 → k < z) : own_cr (own_n z) (own_n f) (own_n (f + k)) (own_n k) f k :=
  ⟨own_nsub (by omega), own_nP (by omega), own_nge (by omega) (by omega), own_nP (by omega), own_nN (by omega), own_nN (by omega), by rw [own_nN hz]; exact h, hk, own_minn h hz, fun q => own_nne (by have := own_nz' q (by omega); have := h0 this; omega) (by omega) hz⟩
theorem own_usget {vs : List Value} {a n i : Nat} (h : i < n) : (own_us vs a n)[i]? = some (vs.getD (a + i) (.int (0 : Int32))) := by
  unfold own_us; rw [List.getElem?_map, List.getElem?_range h]; rfl
theorem own_usL {ts cs : List Int32} {f : Nat} (h : ∀ j x, cs[j]? = some x → ts[f + j]? = some x) : own_us (own_M (own_Lb ts)) f cs.length = own_M (own_Lb cs) := by
  apply List.ext_getElem?
  intro i
  rcases Nat.lt_or_ge i cs.length with q | q
  · have e := h i _ (own_get q)
    rw [own_usget q, own_Mget (own_Lb ts) (f + i) ((cs.getD i (0 : Int32)).toInt8.toInt32) (by unfold own_Lb; rw [List.getElem?_map, e]; rfl)]
    unfold own_M own_Lb
    rw [List.getElem?_map, List.getElem?_map, own_get q]; rfl
  · rw [List.getElem?_eq_none (by unfold own_us; rw [List.length_map, List.length_range]; exact q), List.getElem?_eq_none (by rw [own_Mlen, own_Lblen]; exact q)]
theorem own_usU {ts cs : List Int32} {f : Nat} (h : ∀ j x, cs[j]? = some x → ts[f + j]? = some x) : own_us (own_M (own_U ts)) (2 * f) (2 * cs.length) = own_M (own_U cs) := by
  apply List.ext_getElem?
  intro i
  rcases Nat.lt_or_ge i (2 * cs.length) with q | q
  · obtain ⟨j, hj | hj⟩ : ∃ j, i = 2 * j ∨ i = 2 * j + 1 := ⟨i / 2, by omega⟩
    · have jl : j < cs.length := by omega
      have e := own_Uat ts (f + j) _ (h j _ (own_get jl))
      have e' := own_Uat cs j _ (own_get jl)
      rw [own_usget q, hj, show 2 * f + 2 * j = 2 * (f + j) from by omega, own_Mget _ _ _ e.1]
      unfold own_M; rw [List.getElem?_map, e'.1]; rfl
    · have jl : j < cs.length := by omega
      have e := own_Uat ts (f + j) _ (h j _ (own_get jl))
      have e' := own_Uat cs j _ (own_get jl)
      rw [own_usget q, hj, show 2 * f + (2 * j + 1) = 2 * (f + j) + 1 from by omega, own_Mget _ _ _ e.2]
      unfold own_M; rw [List.getElem?_map, e'.2]; rfl
  · rw [List.getElem?_eq_none (by unfold own_us; rw [List.length_map, List.length_range]; exact q), List.getElem?_eq_none (by rw [own_Mlen, own_Ulen]; exact q)]
theorem own_lb58 {x : Int32} (h : own_ch x) (hl : ¬ ((255 : Int32) < x)) (q : ¬ (x = (58 : Int32))) : ¬ ((x.toInt8.toInt32) = (58 : Int32)) := fun z => by
  have h1 := own_chI h
  have a := c_i2b x
  have z' := congrArg Int32.toInt z
  simp only [Int32.lt_iff_toInt_lt, Int32.reduceToInt] at hl z'
  exact q (Int32.toInt_inj.mp (by simp only [Int32.reduceToInt]; omega))
theorem own_Lbat {cs : List Int32} {i : Nat} {x : Int32} (h : cs[i]? = some x) : (own_Lb cs)[i]? = some (x.toInt8.toInt32) := by
  unfold own_Lb; rw [List.getElem?_map, h]; rfl
theorem own_ULe {cs : List Int32} (h : cs.length ≤ 20) : (own_len (own_U cs)).toNatClampNeg = 2 * cs.length := by
  rw [own_lenN _ (by rw [own_Ulen]; omega), own_Ulen]
theorem own_ULn (cs : List Int32) : own_len (own_U cs) = own_n (2 * cs.length) := by show own_n (own_U cs).length = _; rw [own_Ulen]
theorem own_minz {LL : List Int32} {z : Int32} (h : LL.length ≤ z.toNatClampNeg) (h2 : LL.length ≤ 100) (hz : ¬ (z < (0 : Int32))) : own_min z (own_len LL) = own_len LL := by
  unfold own_min
  by_cases q : own_len LL < z
  · rw [if_pos q]
  · rw [if_neg q]
    apply Int32.toInt_inj.mp
    have a := nat_of hz
    rw [Int32.lt_iff_toInt_lt, own_lenI LL h2] at q
    rw [own_lenI LL h2]; omega
theorem own_h4z {LL : List Int32} {z : Int32} (h : LL.length ≤ z.toNatClampNeg) (h2 : LL.length ≤ 100) : (0 : Int32).toNatClampNeg + (own_len LL).toNatClampNeg ≤ z.toNatClampNeg := by
  have e0 : (0 : Int32).toNatClampNeg = 0 := by decide
  rw [own_lenN LL h2]; omega
theorem own_pb0 {LL : List Int32} {z : Int32} (h : LL.length < z.toNatClampNeg) (h2 : LL.length ≤ 60) : ¬ (own_len LL < (0 : Int32)) ∧ own_len LL < z := ⟨own_lenP LL (by omega), own_ltz h (by omega)⟩
theorem own_pb {LL V : List Int32} {z : Int32} (h : LL.length + V.length < z.toNatClampNeg) (h2 : LL.length + V.length ≤ 60) : ¬ (own_len (LL ++ V) < (0 : Int32)) ∧ own_len (LL ++ V) < z := own_pb0 (by rw [List.length_append]; exact h) (by rw [List.length_append]; exact h2)
theorem own_pn {LL V : List Int32} (h2 : LL.length + V.length ≤ 60) : (own_len (LL ++ V)).toNatClampNeg = (LL ++ V).length := own_lenN _ (by rw [List.length_append]; omega)
theorem own_p1 (LL : List Int32) (v : Int32) (h : LL.length ≤ 60) : own_len LL + (1 : Int32) = own_len (LL ++ [v]) := own_l LL [v] 1 rfl (by omega) (by simp)
theorem own_p2 (LL : List Int32) (v w : Int32) (h : LL.length ≤ 60) : own_len (LL ++ [v]) + (1 : Int32) = own_len (LL ++ [v] ++ [w]) := own_l (LL ++ [v]) [w] 1 rfl (by rw [List.length_append]; simp; omega) (by simp)
theorem own_p3 (LL : List Int32) (v w u : Int32) (h : LL.length ≤ 60) : own_len (LL ++ [v] ++ [w]) + (1 : Int32) = own_len (LL ++ [v] ++ [w] ++ [u]) := own_l (LL ++ [v] ++ [w]) [u] 1 rfl (by simp; omega) (by simp)
theorem own_lneg {x : Int32} (h : own_ch x) (hl : ¬ ((255 : Int32) < x)) : ((x.toInt8.toInt32) < (0 : Int32) → ¬ (x < (128 : Int32)) ∧ x < (2048 : Int32)) ∧ (¬ ((x.toInt8.toInt32) < (0 : Int32)) → x < (128 : Int32)) := by
  have h1 := own_chI h
  have a := c_i2b x
  simp only [Int32.lt_iff_toInt_lt, Int32.reduceToInt] at *
  omega
theorem own_encL {x : Int32} (h : own_ch x) (hl : ¬ ((255 : Int32) < x)) (hn : (x.toInt8.toInt32) < (0 : Int32)) : own_enc x = [(((192 : Int32) ||| (((x.toInt8.toInt32) &&& (255 : Int32)) >>> ((6 : Int32) &&& 31))).toInt8.toInt32), (((128 : Int32) ||| ((x.toInt8.toInt32) &&& (63 : Int32))).toInt8.toInt32)] := by
  have q := (own_lneg h hl).1 hn
  rw [own_e2 q.1 q.2]
  have h1 := own_chI h
  have a := c_i2b x
  have m := c_mask (x.toInt8.toInt32) 255 8 (by decide) (by decide)
  have m1 := c_mask (x.toInt8.toInt32) 63 6 (by decide) (by decide)
  have m2 := c_mask x 63 6 (by decide) (by decide)
  simp only [Int32.lt_iff_toInt_lt, Int32.reduceToInt] at hl
  rw [show (x.toInt8.toInt32) &&& (255 : Int32) = x from Int32.toInt_inj.mp (by omega), show (x.toInt8.toInt32) &&& (63 : Int32) = x &&& (63 : Int32) from Int32.toInt_inj.mp (by omega)]
theorem own_Lbe : ∀ {cs : List Int32}, (∀ x ∈ cs, own_ch x) → (∀ x ∈ cs, ¬ ((255 : Int32) < x)) → (∀ x ∈ cs, ¬ ((x.toInt8.toInt32) < (0 : Int32))) → own_Lb cs = own_encs cs
  | [], _, _, _ => rfl
  | a :: t, h1, h2, h3 => by
    have e := own_Lbe (cs := t) (fun x q => h1 x (List.mem_cons_of_mem _ q)) (fun x q => h2 x (List.mem_cons_of_mem _ q)) (fun x q => h3 x (List.mem_cons_of_mem _ q))
    have ea := own_e1 ((own_lneg (h1 a (List.mem_cons_self ..)) (h2 a (List.mem_cons_self ..))).2 (h3 a (List.mem_cons_self ..)))
    show (a.toInt8.toInt32) :: own_Lb t = own_enc a ++ own_encs t
    rw [ea, e]; rfl
theorem own_encs2 : ∀ {cs : List Int32}, (∀ x ∈ cs, own_ch x) → (∀ x ∈ cs, ¬ ((255 : Int32) < x)) → (own_encs cs).length ≤ 2 * cs.length
  | [], _, _ => by simp [own_encs]
  | a :: t, h1, h2 => by
    have e := own_encs2 (cs := t) (fun x q => h1 x (List.mem_cons_of_mem _ q)) (fun x q => h2 x (List.mem_cons_of_mem _ q))
    have el : (own_enc a).length ≤ 2 := by
      by_cases q : (a.toInt8.toInt32) < (0 : Int32)
      · rw [own_encL (h1 a (List.mem_cons_self ..)) (h2 a (List.mem_cons_self ..)) q]; simp
      · rw [own_e1 ((own_lneg (h1 a (List.mem_cons_self ..)) (h2 a (List.mem_cons_self ..))).2 q)]; simp
    show (own_enc a ++ own_encs t).length ≤ 2 * (t.length + 1)
    rw [List.length_append]; omega
theorem own_encsT2 {cs : List Int32} {i : Nat} (h1 : ∀ x ∈ cs, own_ch x) (h2 : ∀ x ∈ cs, ¬ ((255 : Int32) < x)) (hi : i ≤ cs.length) : (own_encs (cs.take i)).length ≤ 2 * i := by
  have e := own_encs2 (cs := cs.take i) (fun x q => h1 x (List.mem_of_mem_take q)) (fun x q => h2 x (List.mem_of_mem_take q))
  rw [List.length_take] at e; omega
theorem own_encsT3 (cs : List Int32) (i : Nat) : (own_encs (cs.take i)).length ≤ 3 * i := by
  have e := own_encsl (cs.take i)
  rw [List.length_take] at e; omega
theorem own_nM {n : Nat} (h : n ≤ 20) : own_n n * (3 : Int32) = own_n (3 * n) := by
  apply Int32.toInt_inj.mp
  have a := c_imul (own_n n) 3
  have r := rng32 (own_n n * 3)
  have e : (3 : Int32).toInt = 3 := by decide
  rw [own_nI (by omega), e] at a
  rw [own_nI (by omega)]; omega
theorem own_encsF {cs : List Int32} (h : 0 < cs.length) : own_encs (cs.take (cs.length - 1)) ++ own_enc (cs.getD (cs.length - 1) (0 : Int32)) = own_encs cs := by
  rw [own_encsS (own_get (by omega)), Nat.sub_add_cancel h, List.take_length]
theorem own_n0lt {a : Nat} (h : 0 < a) (ha : a ≤ 100) : (0 : Int32) < own_n a := by
  rw [← own_n0]; exact own_nlt h ha
theorem own_ns1 {a : Nat} (h : 0 < a) (ha : a ≤ 100) : own_n a - (1 : Int32) = own_n (a - 1) := by
  obtain ⟨b, rfl⟩ : ∃ b, a = 1 + b := ⟨a - 1, by omega⟩
  rw [show (1 : Int32) = own_n 1 from by decide, own_nsub (by omega), Nat.add_sub_cancel_left]
theorem own_ltn {a b : Nat} (h : own_n a < own_n b) (ha : a ≤ 100) (hb : b ≤ 100) : a < b := by
  rw [Int32.lt_iff_toInt_lt, own_nI ha, own_nI hb] at h; omega
theorem own_gen {a b : Nat} (h : ¬ (own_n a < own_n b)) (ha : a ≤ 100) (hb : b ≤ 100) : b ≤ a := by
  rw [Int32.lt_iff_toInt_lt, own_nI ha, own_nI hb] at h; omega
def own_put (LL : List Int32) (p : Int32) (ii : Nat) (x : Int32) : List Int32 := if p < own_n ii then LL ++ own_enc x else LL
theorem own_putl (LL : List Int32) (p : Int32) (ii : Nat) (x : Int32) : (own_put LL p ii x).length ≤ LL.length + 3 := by
  unfold own_put
  have := own_encl x
  split
  · rw [List.length_append]; omega
  · omega
theorem own_q1 (LL : List Int32) (v : Int32) (h : LL.length ≤ 60) : (own_len LL + (1 : Int32)).toNatClampNeg = (LL ++ [v]).length := by rw [own_p1 LL v h]; exact own_lenN _ (by simp; omega)
theorem own_q2 (LL : List Int32) (v w : Int32) (h : LL.length ≤ 60) : (own_len LL + (2 : Int32)) = own_len (LL ++ [v] ++ [w]) := by
  rw [own_l LL [v, w] 2 rfl (by omega) (by simp)]; simp
theorem own_q3 (LL : List Int32) (v w u : Int32) (h : LL.length ≤ 60) : (own_len LL + (3 : Int32)) = own_len (LL ++ [v] ++ [w] ++ [u]) := by
  rw [own_l LL [v, w, u] 3 rfl (by omega) (by simp)]; simp
theorem own_qb {LL : List Int32} {z k : Int32} {m : Nat} (hk : k.toInt = m) (h : LL.length + m < z.toNatClampNeg) (h2 : LL.length + m ≤ 60) : ¬ ((own_len LL + k) < (0 : Int32)) ∧ (own_len LL + k) < z := by
  have e : own_len LL + k = own_n (LL.length + m) := own_nA hk (by omega)
  rw [e]; exact ⟨own_nP (by omega), own_ltz h (by omega)⟩
theorem own_subm {cs : List Int32} {f k : Nat} {x : Int32} (h : x ∈ own_sub cs f k) : x ∈ cs := List.mem_of_mem_drop (List.mem_of_mem_take h)
theorem own_subget {cs : List Int32} {k i : Nat} {x : Int32} (h : cs[i]? = some x) (hi : i < k) : (own_sub cs 0 k)[i]? = some x := by
  unfold own_sub; rw [List.drop_zero, List.getElem?_take, if_pos hi]; exact h
theorem own_pp (c : Int32) : ∃ j : Nat, 1 ≤ j ∧ j ≤ 3 ∧ (((c.toUInt32 >>> ((16 : Int32) &&& 31).toUInt32).toInt32) % (3 : Int32)) + (1 : Int32) = own_n j := by
  have h1 := c_iushr c 16 16 (by decide) (by decide)
  have r := rng32 c
  have h2 := (c_irem ((c.toUInt32 >>> ((16 : Int32) &&& 31).toUInt32).toInt32) 3 3 (by decide)).1 (by omega)
  have h3 := c_iadd (((c.toUInt32 >>> ((16 : Int32) &&& 31).toUInt32).toInt32) % 3) 1
  have r2 := rng32 ((((c.toUInt32 >>> ((16 : Int32) &&& 31).toUInt32).toInt32) % (3 : Int32)) + (1 : Int32))
  have e1 : (1 : Int32).toInt = 1 := by decide
  refine ⟨(((((c.toUInt32 >>> ((16 : Int32) &&& 31).toUInt32).toInt32) % (3 : Int32)) + (1 : Int32)).toInt).toNat, by omega, by omega, ?_⟩
  apply Int32.toInt_inj.mp
  rw [own_nI (by omega)]; omega

theorem pn0 : plainFor Y0 = true := by decide +kernel
abbrev D18 (q : Nat) (i : Instr) (k : Nat) : Prop := decode jdk_29_method_69_code q = .ok (i, k)
theorem d18_0 : D18 0 (.iload_n 0) 1 := by decide +kernel
theorem d18_1 : D18 1 (.iload_n 1) 1 := by decide +kernel
theorem d18_2 : D18 2 (.if_icmp .gt 7) 3 := by decide +kernel
theorem d18_9 : D18 9 (.iload_n 1) 1 := by decide +kernel
theorem d18_10 : D18 10 (.ireturn) 1 := by decide +kernel
theorem d18_5 : D18 5 (.iload_n 0) 1 := by decide +kernel
theorem d18_6 : D18 6 (.goto 4) 3 := by decide +kernel
theorem ef_18 (m : MethodId) (x0 : Int32) (x1 : Int32) : entryFrame m #[(.int x0), (.int x1)] 2 = mkF m 0 #[.val (.int x0), .val (.int x1)] [] := by first | (simp [entryFrame, mkF, argsToLocals, Value.category]; done) | rfl
def Q18 (Z : State) (p0 : Int32) (p1 : Int32) (w : Int32) (h0 : Heap) (n0 : Nat) (v : Option Value) (h : Heap) (L : List Loc) : Prop := v = some (.int w) ∧ Fr n0 L ∧ h = h0
abbrev R18 : Room := { frames := 0, cells := 0, slots := 0, locals := 0 }
theorem rm18 (l : Launch) (Z : State) (a0 : Array Value) (hw : ∀ d ∈ tables_1, d.before a0 Z = true) (ws : List Jvm.Cond) (p0 : Int32) (p1 : Int32) (w : Int32) (h0 : Heap) (n0 : Nat) (Z0 : n0 ≤ h0.size) (hv : own_min p0 p1 = w) :
    MetFree l Y0 (head1 (Jvm.Cond.code Y0 jdk_29_method_69_code 2 (some .int) :: ws) R18) (fun a U => a = #[(.int p0), (.int p1)] ∧ Z.Warmed39 U.vm ∧ U.heap = h0) (fun _ _ _ _ _ => True) (fun _ U o U' => ∃ v L, o = .returned v ∧ Q18 Z p0 p1 w h0 n0 v U'.heap L ∧ FrameEnd U o U' L R18.cells R18.slots) := by
  refine own_start (C := "java/lang/Math") (Q := Q18 Z p0 p1 w h0 n0) rfl (Jvm.Free.JP.mathPlain rfl (by decide +kernel)) ?_
  intro p e s m below meth c s₁ g₀ hg₀ Bd hx hby hml hZ hown hnm X0 e0
  have N0 := Fr.nil n0
  have pre0 : ∀ t, Sx p e below s₁ (mkF m 0 #[iv p0, iv p1] []) t → Sx p e below s₁ g₀ t := fun t k => by subst hg₀; exact castTop (ef_18 m p0 p1) k
  have pre1 : ∀ t, Sx p e below s₁ (mkF m 2 #[iv p0, iv p1] [(.int p1), (.int p0)]) t → Sx p e below s₁ g₀ t := by
    intro t kt
    refine pre0 _ ?_
    refine XS.iloadN X0.here hx rfl (hb hby d18_0) rfl ?_
    refine XS.iloadN X0.here hx rfl (hb hby d18_1) rfl ?_
    exact kt
  by_cases hc2 : p1 < p0
  · have pre2 : ∀ t, Sx p e below s₁ (mkF m 10 #[iv p0, iv p1] [(.int p1)]) t → Sx p e below s₁ g₀ t := by
      intro t kt
      refine pre1 _ ?_
      refine XS.icmpYes X0.here hx rfl (pc0 := 2) (pc' := 9) rfl (hb hby d18_2) rfl (tlt hc2).2.2.1 (by decide) (by decide) ?_
      refine XS.iloadN X0.here hx rfl (hb hby d18_9) rfl ?_
      exact kt
    obtain ⟨fs, hr, hrun, hended, hW, hsame⟩ := X0.leave (v := some (.int p1)) (fun h => by rw [Bd.returns] at h; cases h)
    refine ⟨_, _, _, pre2 _ ?_, hrun, hended, ?_, ⟨_, rfl⟩, hW, hsame.mono (by decide) (by decide)⟩
    · show Steps p.tables e below (s₁.setTop (mkF m 10 #[iv p0, iv p1] [(.int p1)])) _
      exact retI X0 hx Bd.returns (hb hby d18_10) hr
    · show Q18 Z p0 p1 w h0 n0 _ s₁.heap _
      rw [e0]
      exact ⟨congrArg (fun z => some (Value.int z)) (((if_pos hc2).trans rfl).symm.trans hv), N0, rfl⟩
  · have pre3 : ∀ t, Sx p e below s₁ (mkF m 10 #[iv p0, iv p1] [(.int p0)]) t → Sx p e below s₁ g₀ t := by
      intro t kt
      refine pre1 _ ?_
      refine XS.icmpNo X0.here hx rfl (hb hby d18_2) rfl (flt hc2).2.2.1 ?_
      refine XS.iloadN X0.here hx rfl (hb hby d18_5) rfl ?_
      refine XS.goto X0.here hx rfl (pc0 := 6) (pc' := 10) rfl (hb hby d18_6) (by decide) (by decide) ?_
      exact kt
    obtain ⟨fs, hr, hrun, hended, hW, hsame⟩ := X0.leave (v := some (.int p0)) (fun h => by rw [Bd.returns] at h; cases h)
    refine ⟨_, _, _, pre3 _ ?_, hrun, hended, ?_, ⟨_, rfl⟩, hW, hsame.mono (by decide) (by decide)⟩
    · show Steps p.tables e below (s₁.setTop (mkF m 10 #[iv p0, iv p1] [(.int p0)])) _
      exact retI X0 hx Bd.returns (hb hby d18_10) hr
    · show Q18 Z p0 p1 w h0 n0 _ s₁.heap _
      rw [e0]
      exact ⟨congrArg (fun z => some (Value.int z)) (((if_neg hc2).trans rfl).symm.trans hv), N0, rfl⟩
theorem pn1 : plainFor Y1 = true := by decide +kernel
abbrev D17 (q : Nat) (i : Instr) (k : Nat) : Prop := decode jdk_29_method_65_code q = .ok (i, k)
theorem d17_0 : D17 0 (.iload_n 0) 1 := by decide +kernel
theorem d17_1 : D17 1 (.iload_n 1) 1 := by decide +kernel
theorem d17_2 : D17 2 (.if_icmp .lt 7) 3 := by decide +kernel
theorem d17_5 : D17 5 (.iload_n 0) 1 := by decide +kernel
theorem d17_6 : D17 6 (.goto 4) 3 := by decide +kernel
theorem d17_10 : D17 10 (.ireturn) 1 := by decide +kernel
theorem ef_17 (m : MethodId) (x0 : Int32) (x1 : Int32) : entryFrame m #[(.int x0), (.int x1)] 2 = mkF m 0 #[.val (.int x0), .val (.int x1)] [] := by first | (simp [entryFrame, mkF, argsToLocals, Value.category]; done) | rfl
def Q17 (Z : State)  (h0 : Heap) (n0 : Nat) (v : Option Value) (h : Heap) (L : List Loc) : Prop := v = some (.int (0 : Int32)) ∧ Fr n0 L ∧ h = h0
abbrev R17 : Room := { frames := 0, cells := 0, slots := 0, locals := 0 }
theorem rm17 (l : Launch) (Z : State) (a0 : Array Value) (hw : ∀ d ∈ tables_1, d.before a0 Z = true) (ws : List Jvm.Cond)  (h0 : Heap) (n0 : Nat) (Z0 : n0 ≤ h0.size) :
    MetFree l Y1 (head1 (Jvm.Cond.code Y1 jdk_29_method_65_code 2 (some .int) :: ws) R17) (fun a U => a = #[(.int (0 : Int32)), (.int (0 : Int32))] ∧ Z.Warmed39 U.vm ∧ U.heap = h0) (fun _ _ _ _ _ => True) (fun _ U o U' => ∃ v L, o = .returned v ∧ Q17 Z  h0 n0 v U'.heap L ∧ FrameEnd U o U' L R17.cells R17.slots) := by
  refine own_start (C := "java/lang/Math") (Q := Q17 Z  h0 n0) rfl (Jvm.Free.JP.mathPlain rfl (by decide +kernel)) ?_
  intro p e s m below meth c s₁ g₀ hg₀ Bd hx hby hml hZ hown hnm X0 e0
  have N0 := Fr.nil n0
  have pre0 : ∀ t, Sx p e below s₁ (mkF m 0 #[iv (0 : Int32), iv (0 : Int32)] []) t → Sx p e below s₁ g₀ t := fun t k => by subst hg₀; exact castTop (ef_17 m (0 : Int32) (0 : Int32)) k
  have pre1 : ∀ t, Sx p e below s₁ (mkF m 10 #[iv (0 : Int32), iv (0 : Int32)] [(.int (0 : Int32))]) t → Sx p e below s₁ g₀ t := by
    intro t kt
    refine pre0 _ ?_
    refine XS.iloadN X0.here hx rfl (hb hby d17_0) rfl ?_
    refine XS.iloadN X0.here hx rfl (hb hby d17_1) rfl ?_
    refine XS.icmpNo X0.here hx rfl (hb hby d17_2) rfl (flt (by decide)).1 ?_
    refine XS.iloadN X0.here hx rfl (hb hby d17_5) rfl ?_
    refine XS.goto X0.here hx rfl (pc0 := 6) (pc' := 10) rfl (hb hby d17_6) (by decide) (by decide) ?_
    exact kt
  obtain ⟨fs, hr, hrun, hended, hW, hsame⟩ := X0.leave (v := some (.int (0 : Int32))) (fun h => by rw [Bd.returns] at h; cases h)
  refine ⟨_, _, _, pre1 _ ?_, hrun, hended, ?_, ⟨_, rfl⟩, hW, hsame.mono (by decide) (by decide)⟩
  · show Steps p.tables e below (s₁.setTop (mkF m 10 #[iv (0 : Int32), iv (0 : Int32)] [(.int (0 : Int32))])) _
    exact retI X0 hx Bd.returns (hb hby d17_10) hr
  · show Q17 Z  h0 n0 _ s₁.heap _
    rw [e0]
    exact ⟨rfl, N0, rfl⟩
theorem pn2 : plainName "java/lang/StringLatin1" = true := by first | (simp [plainName, overriddenIn]; done) | decide +kernel
abbrev D16 (q : Nat) (i : Instr) (k : Nat) : Prop := decode jdk_43_method_4_code q = .ok (i, k)
theorem d16_0 : D16 0 (.iload_n 0) 1 := by decide +kernel
theorem d16_1 : D16 1 (.ifCond .lt 14) 3 := by decide +kernel
theorem d16_4 : D16 4 (.iload_n 0) 1 := by decide +kernel
theorem d16_5 : D16 5 (.sipush 255) 3 := by decide +kernel
theorem d16_8 : D16 8 (.if_icmp .gt 7) 3 := by decide +kernel
theorem d16_11 : D16 11 (.iconst 1) 1 := by decide +kernel
theorem d16_12 : D16 12 (.goto 4) 3 := by decide +kernel
theorem d16_16 : D16 16 (.ireturn) 1 := by decide +kernel
theorem ef_16 (m : MethodId) (x0 : Int32) : entryFrame m #[(.int x0)] 1 = mkF m 0 #[.val (.int x0)] [] := by first | (simp [entryFrame, mkF, argsToLocals, Value.category]; done) | rfl
def Q16 (Z : State)  (h0 : Heap) (n0 : Nat) (v : Option Value) (h : Heap) (L : List Loc) : Prop := v = some (.int (1 : Int32)) ∧ Fr n0 L ∧ h = h0
abbrev R16 : Room := { frames := 0, cells := 0, slots := 0, locals := 0 }
theorem rm16 (l : Launch) (Z : State) (a0 : Array Value) (hw : ∀ d ∈ tables_1, d.before a0 Z = true) (ws : List Jvm.Cond)  (h0 : Heap) (n0 : Nat) (Z0 : n0 ≤ h0.size) :
    MetFree l Y2 (head1 (Jvm.Cond.code Y2 jdk_43_method_4_code 1 (some .boolean) :: ws) R16) (fun a U => a = #[(.int (58 : Int32))] ∧ Z.Warmed39 U.vm ∧ U.heap = h0) (fun _ _ _ _ _ => True) (fun _ U o U' => ∃ v L, o = .returned v ∧ Q16 Z  h0 n0 v U'.heap L ∧ FrameEnd U o U' L R16.cells R16.slots) := by
  refine own_start (C := "java/lang/StringLatin1") (Q := Q16 Z  h0 n0) rfl (plainFor_of_name pn2) ?_
  intro p e s m below meth c s₁ g₀ hg₀ Bd hx hby hml hZ hown hnm X0 e0
  have N0 := Fr.nil n0
  have pre0 : ∀ t, Sx p e below s₁ (mkF m 0 #[iv (58 : Int32)] []) t → Sx p e below s₁ g₀ t := fun t k => by subst hg₀; exact castTop (ef_16 m (58 : Int32)) k
  have pre1 : ∀ t, Sx p e below s₁ (mkF m 16 #[iv (58 : Int32)] [(.int (1 : Int32))]) t → Sx p e below s₁ g₀ t := by
    intro t kt
    refine pre0 _ ?_
    refine XS.iloadN X0.here hx rfl (hb hby d16_0) rfl ?_
    refine XS.ifNo X0.here hx rfl (hb hby d16_1) rfl ((if0 _ _).trans (flt (by decide)).1) ?_
    refine XS.iloadN X0.here hx rfl (hb hby d16_4) rfl ?_
    refine XS.sipush X0.here hx rfl (hb hby d16_5) ?_
    refine XS.icmpNo X0.here hx rfl (hb hby d16_8) rfl (flt (by decide)).2.2.1 ?_
    refine XS.iconst X0.here hx rfl (hb hby d16_11) ?_
    refine XS.goto X0.here hx rfl (pc0 := 12) (pc' := 16) rfl (hb hby d16_12) (by decide) (by decide) ?_
    exact kt
  obtain ⟨fs, hr, hrun, hended, hW, hsame⟩ := X0.leave (v := some (.int (1 : Int32))) (fun h => by rw [Bd.returns] at h; cases h)
  refine ⟨_, _, _, pre1 _ ?_, hrun, hended, ?_, ⟨_, rfl⟩, hW, hsame.mono (by decide) (by decide)⟩
  · show Steps p.tables e below (s₁.setTop (mkF m 16 #[iv (58 : Int32)] [(.int (1 : Int32))])) _
    exact retN X0 hx (t := .boolean) Bd.returns (by simp) (hb hby d16_16) hr
  · show Q16 Z  h0 n0 _ s₁.heap _
    rw [e0]
    exact ⟨rfl, N0, rfl⟩
theorem pn3 : plainName "jdk/internal/util/Preconditions" = true := by first | (simp [plainName, overriddenIn]; done) | decide +kernel
abbrev D39 (q : Nat) (i : Instr) (k : Nat) : Prop := decode jdk_41_method_11_code q = .ok (i, k)
theorem d39_0 : D39 0 (.iload_n 0) 1 := by decide +kernel
theorem d39_1 : D39 1 (.ifCond .lt 8) 3 := by decide +kernel
theorem d39_4 : D39 4 (.iload_n 0) 1 := by decide +kernel
theorem d39_5 : D39 5 (.iload_n 1) 1 := by decide +kernel
theorem d39_6 : D39 6 (.if_icmp .lt 10) 3 := by decide +kernel
theorem d39_16 : D39 16 (.iload_n 0) 1 := by decide +kernel
theorem d39_17 : D39 17 (.ireturn) 1 := by decide +kernel
theorem ef_39 (m : MethodId) (x0 : Int32) (x1 : Int32) (x2 : Value) (hr2 : x2.isRef = true) : entryFrame m #[(.int x0), (.int x1), x2] 3 = mkF m 0 #[.val (.int x0), .val (.int x1), .val x2] [] := by rcases ref_cases hr2 with rfl | ⟨_, rfl⟩ <;> first | (simp [entryFrame, mkF, argsToLocals, Value.category]; done) | rfl
def Q39 (Z : State) (p0 : Int32) (p1 : Int32) (u2 : Value) (h0 : Heap) (n0 : Nat) (v : Option Value) (h : Heap) (L : List Loc) : Prop := v = some (.int p0) ∧ Fr n0 L ∧ h = h0
abbrev R39 : Room := { frames := 0, cells := 0, slots := 0, locals := 0 }
theorem rm39 (l : Launch) (Z : State) (a0 : Array Value) (hw : ∀ d ∈ tables_1, d.before a0 Z = true) (ws : List Jvm.Cond) (p0 : Int32) (p1 : Int32) (u2 : Value) (h0 : Heap) (n0 : Nat) (Z0 : n0 ≤ h0.size) (hr_u2 : u2.isRef = true) (ha : ¬ (p0 < (0 : Int32))) (hb_ : p0 < p1) :
    MetFree l Y3 (head1 (Jvm.Cond.code Y3 jdk_41_method_11_code 3 (some .int) :: ws) R39) (fun a U => a = #[(.int p0), (.int p1), u2] ∧ Z.Warmed39 U.vm ∧ U.heap = h0) (fun _ _ _ _ _ => True) (fun _ U o U' => ∃ v L, o = .returned v ∧ Q39 Z p0 p1 u2 h0 n0 v U'.heap L ∧ FrameEnd U o U' L R39.cells R39.slots) := by
  refine own_start (C := "jdk/internal/util/Preconditions") (Q := Q39 Z p0 p1 u2 h0 n0) rfl (plainFor_of_name pn3) ?_
  intro p e s m below meth c s₁ g₀ hg₀ Bd hx hby hml hZ hown hnm X0 e0
  have N0 := Fr.nil n0
  have pre0 : ∀ t, Sx p e below s₁ (mkF m 0 #[iv p0, iv p1, .val u2] []) t → Sx p e below s₁ g₀ t := fun t k => by subst hg₀; exact castTop (ef_39 m p0 p1 u2 hr_u2) k
  have pre2 : ∀ t, Sx p e below s₁ (mkF m 1 #[iv p0, iv p1, .val u2] [(.int p0)]) t → Sx p e below s₁ g₀ t := by
    intro t kt
    refine pre0 _ ?_
    refine XS.iloadN X0.here hx rfl (hb hby d39_0) rfl ?_
    exact kt
  have hc1_1 : ¬ (p0 < (0 : Int32)) := ha
  have pre4 : ∀ t, Sx p e below s₁ (mkF m 6 #[iv p0, iv p1, .val u2] [(.int p1), (.int p0)]) t → Sx p e below s₁ g₀ t := by
    intro t kt
    refine pre2 _ ?_
    refine XS.ifNo X0.here hx rfl (hb hby d39_1) rfl ((if0 _ _).trans (flt hc1_1).1) ?_
    refine XS.iloadN X0.here hx rfl (hb hby d39_4) rfl ?_
    refine XS.iloadN X0.here hx rfl (hb hby d39_5) rfl ?_
    exact kt
  have hc6_3 : p0 < p1 := hb_
  have pre5 : ∀ t, Sx p e below s₁ (mkF m 17 #[iv p0, iv p1, .val u2] [(.int p0)]) t → Sx p e below s₁ g₀ t := by
    intro t kt
    refine pre4 _ ?_
    refine XS.icmpYes X0.here hx rfl (pc0 := 6) (pc' := 16) rfl (hb hby d39_6) rfl (tlt hc6_3).1 (by decide) (by decide) ?_
    refine XS.iloadN X0.here hx rfl (hb hby d39_16) rfl ?_
    exact kt
  obtain ⟨fs, hr, hrun, hended, hW, hsame⟩ := X0.leave (v := some (.int p0)) (fun h => by rw [Bd.returns] at h; cases h)
  refine ⟨_, _, _, pre5 _ ?_, hrun, hended, ?_, ⟨_, rfl⟩, hW, hsame.mono (by decide) (by decide)⟩
  · show Steps p.tables e below (s₁.setTop (mkF m 17 #[iv p0, iv p1, .val u2] [(.int p0)])) _
    exact retI X0 hx Bd.returns (hb hby d39_17) hr
  · show Q39 Z p0 p1 u2 h0 n0 _ s₁.heap _
    rw [e0]
    exact ⟨rfl, N0, rfl⟩
theorem pn4 : plainName "java/lang/String" = true := by first | (simp [plainName, overriddenIn]; done) | decide +kernel
abbrev D38 (q : Nat) (i : Instr) (k : Nat) : Prop := decode jdk_42_method_155_code q = .ok (i, k)
theorem d38_0 : D38 0 (.iload_n 0) 1 := by decide +kernel
theorem d38_1 : D38 1 (.iload_n 1) 1 := by decide +kernel
theorem d38_2 : D38 2 (.getstatic 1053) 3 := by decide +kernel
theorem pd5 : parseMethodDescriptor "(IILjava/util/function/BiFunction;)I" = some ⟨[.int, .int, (.object "java/util/function/BiFunction")], some .int⟩ := by decide +kernel
theorem d38_5 : D38 5 (.invokestatic 1059) 3 := by decide +kernel
theorem d38_8 : D38 8 (.pop) 1 := by decide +kernel
theorem d38_9 : D38 9 (.return_) 1 := by decide +kernel
theorem ef_38 (m : MethodId) (x0 : Int32) (x1 : Int32) : entryFrame m #[(.int x0), (.int x1)] 2 = mkF m 0 #[.val (.int x0), .val (.int x1)] [] := by first | (simp [entryFrame, mkF, argsToLocals, Value.category]; done) | rfl
def Q38 (Z : State) (p0 : Int32) (p1 : Int32) (fm : Value) (h0 : Heap) (n0 : Nat) (v : Option Value) (h : Heap) (L : List Loc) : Prop := v = none ∧ Fr n0 L ∧ h = h0
abbrev R38 : Room := { frames := 1, cells := 0, slots := 0, locals := 14 }
theorem rm38 (l : Launch) (Z : State) (a0 : Array Value) (hw : ∀ d ∈ tables_1, d.before a0 Z = true) (ws : List Jvm.Cond) (p0 : Int32) (p1 : Int32) (fm : Value) (h0 : Heap) (n0 : Nat) (Z0 : n0 ≤ h0.size) (O0 : Old Z n0 h0) (S_fm : Sta Z Z.heap "jdk/internal/util/Preconditions" "SIOOBE_FORMATTER" "Ljava/util/function/BiFunction;" fm) (hr_fm : fm.isRef = true) (ha : ¬ (p0 < (0 : Int32))) (hb_ : p0 < p1) :
    MetFree l Y4 (head1 (Jvm.Cond.code Y4 jdk_42_method_155_code 2 none :: ws) R38) (fun a U => a = #[(.int p0), (.int p1)] ∧ Z.Warmed39 U.vm ∧ U.heap = h0) (fun _ _ _ _ _ => True) (fun _ U o U' => ∃ v L, o = .returned v ∧ Q38 Z p0 p1 fm h0 n0 v U'.heap L ∧ FrameEnd U o U' L R38.cells R38.slots) := by
  refine own_start (C := "java/lang/String") (Q := Q38 Z p0 p1 fm h0 n0) rfl (plainFor_of_name pn4) ?_
  intro p e s m below meth c s₁ g₀ hg₀ Bd hx hby hml hZ hown hnm X0 e0
  have N0 := Fr.nil n0
  have pre0 : ∀ t, Sx p e below s₁ (mkF m 0 #[iv p0, iv p1] []) t → Sx p e below s₁ g₀ t := fun t k => by subst hg₀; exact castTop (ef_38 m p0 p1) k
  have pre1 : ∀ t, Sx p e below s₁ (mkF m 2 #[iv p0, iv p1] [(.int p1), (.int p0)]) t → Sx p e below s₁ g₀ t := by
    intro t kt
    refine pre0 _ ?_
    refine XS.iloadN X0.here hx rfl (hb hby d38_0) rfl ?_
    refine XS.iloadN X0.here hx rfl (hb hby d38_1) rfl ?_
    exact kt
  obtain ⟨T2, X2, e2, st2⟩ := getS2 X0 hx hZ hown (host := "") (Or.inl (own_w hw 99 rfl)) Via.refl e0 (S_fm.ext (O0.keep (Keep.refl h0 []) all0).2) (g := (mkF m 2 #[iv p0, iv p1] [(.int p1), (.int p0)])) rfl (hb hby d38_2)
  have pre3 : ∀ t, Sx p e below T2 (mkF m 5 #[iv p0, iv p1] [fm, (.int p1), (.int p0)]) t → Sx p e below s₁ g₀ t := by
    intro t kt
    refine pre1 _ ?_
    refine st2 _ ?_
    exact kt
  obtain ⟨_, T4, Lc4, X4, hQ4, st4⟩ := own_cS X2 hx hZ (y := Y3) hown (own_w hw 185 rfl) (own_w hw 186 rfl) (own_w hw 100 rfl) (own_w hw 187 rfl) (by decide) (W := 0) (rm39 l Z a0 hw [] p0 p1 fm h0 n0 (Nat.le_trans Z0 (Keep.refl h0 []).1) hr_fm ha hb_) (by decide) (by decide) (g := (mkF m 5 #[iv p0, iv p1] [fm, (.int p1), (.int p0)])) rfl hml.symm (argsL := [(.int p0), (.int p1), fm]) (rest := []) (lenOf pd5 rfl) rfl (Nat.le_of_eq rfl) (hb hby d38_5) rfl e2 (by decide) (by decide)
  obtain ⟨rfl, N4q, hh4⟩ := hQ4
  have N4 := Fr.app N0 N4q
  have pre5 : ∀ t, Sx p e below T4 (mkF m 9 #[iv p0, iv p1] []) t → Sx p e below s₁ g₀ t := by
    intro t kt
    refine pre3 _ ?_
    refine st4 _ ?_
    show Sx p e below T4 (mkF m 8 #[iv p0, iv p1] [(.int p0)]) _
    refine XS.pop X4.here hx rfl (hb hby d38_8) rfl rfl ?_
    exact kt
  obtain ⟨fs, hr, hrun, hended, hW, hsame⟩ := X4.leave (v := none) (fun _ => rfl)
  refine ⟨_, _, _, pre5 _ ?_, hrun, hended, ?_, ⟨_, rfl⟩, hW, hsame.mono (by decide) (by decide)⟩
  · show Steps p.tables e below (T4.setTop (mkF m 9 #[iv p0, iv p1] [])) _
    exact X4.returnOut hx Bd.returns (hb hby d38_9) hr
  · show Q38 Z p0 p1 fm h0 n0 _ T4.heap _
    rw [hh4]
    exact ⟨rfl, N4, rfl⟩
abbrev D23 (q : Nat) (i : Instr) (k : Nat) : Prop := decode jdk_41_method_12_code q = .ok (i, k)
theorem d23_0 : D23 0 (.iload_n 0) 1 := by decide +kernel
theorem d23_1 : D23 1 (.ifCond .lt 13) 3 := by decide +kernel
theorem d23_4 : D23 4 (.iload_n 0) 1 := by decide +kernel
theorem d23_5 : D23 5 (.iload_n 1) 1 := by decide +kernel
theorem d23_6 : D23 6 (.if_icmp .gt 8) 3 := by decide +kernel
theorem d23_9 : D23 9 (.iload_n 1) 1 := by decide +kernel
theorem d23_10 : D23 10 (.iload_n 2) 1 := by decide +kernel
theorem d23_11 : D23 11 (.if_icmp .le 11) 3 := by decide +kernel
theorem d23_22 : D23 22 (.iload_n 0) 1 := by decide +kernel
theorem d23_23 : D23 23 (.ireturn) 1 := by decide +kernel
theorem ef_23 (m : MethodId) (x0 : Int32) (x1 : Int32) (x2 : Int32) (x3 : Value) (hr3 : x3.isRef = true) : entryFrame m #[(.int x0), (.int x1), (.int x2), x3] 4 = mkF m 0 #[.val (.int x0), .val (.int x1), .val (.int x2), .val x3] [] := by rcases ref_cases hr3 with rfl | ⟨_, rfl⟩ <;> first | (simp [entryFrame, mkF, argsToLocals, Value.category]; done) | rfl
def Q23 (Z : State) (p0 : Int32) (p1 : Int32) (p2 : Int32) (u3 : Value) (h0 : Heap) (n0 : Nat) (v : Option Value) (h : Heap) (L : List Loc) : Prop := v = some (.int p0) ∧ Fr n0 L ∧ h = h0
abbrev R23 : Room := { frames := 0, cells := 0, slots := 0, locals := 0 }
theorem rm23 (l : Launch) (Z : State) (a0 : Array Value) (hw : ∀ d ∈ tables_1, d.before a0 Z = true) (ws : List Jvm.Cond) (p0 : Int32) (p1 : Int32) (p2 : Int32) (u3 : Value) (h0 : Heap) (n0 : Nat) (Z0 : n0 ≤ h0.size) (hr_u3 : u3.isRef = true) (ha : ¬ (p0 < (0 : Int32))) (hb_ : ¬ (p1 < p0)) (hc_ : ¬ (p2 < p1)) :
    MetFree l Y5 (head1 (Jvm.Cond.code Y5 jdk_41_method_12_code 4 (some .int) :: ws) R23) (fun a U => a = #[(.int p0), (.int p1), (.int p2), u3] ∧ Z.Warmed39 U.vm ∧ U.heap = h0) (fun _ _ _ _ _ => True) (fun _ U o U' => ∃ v L, o = .returned v ∧ Q23 Z p0 p1 p2 u3 h0 n0 v U'.heap L ∧ FrameEnd U o U' L R23.cells R23.slots) := by
  refine own_start (C := "jdk/internal/util/Preconditions") (Q := Q23 Z p0 p1 p2 u3 h0 n0) rfl (plainFor_of_name pn3) ?_
  intro p e s m below meth c s₁ g₀ hg₀ Bd hx hby hml hZ hown hnm X0 e0
  have N0 := Fr.nil n0
  have pre0 : ∀ t, Sx p e below s₁ (mkF m 0 #[iv p0, iv p1, iv p2, .val u3] []) t → Sx p e below s₁ g₀ t := fun t k => by subst hg₀; exact castTop (ef_23 m p0 p1 p2 u3 hr_u3) k
  have pre2 : ∀ t, Sx p e below s₁ (mkF m 1 #[iv p0, iv p1, iv p2, .val u3] [(.int p0)]) t → Sx p e below s₁ g₀ t := by
    intro t kt
    refine pre0 _ ?_
    refine XS.iloadN X0.here hx rfl (hb hby d23_0) rfl ?_
    exact kt
  have hc1_1 : ¬ (p0 < (0 : Int32)) := ha
  have pre4 : ∀ t, Sx p e below s₁ (mkF m 6 #[iv p0, iv p1, iv p2, .val u3] [(.int p1), (.int p0)]) t → Sx p e below s₁ g₀ t := by
    intro t kt
    refine pre2 _ ?_
    refine XS.ifNo X0.here hx rfl (hb hby d23_1) rfl ((if0 _ _).trans (flt hc1_1).1) ?_
    refine XS.iloadN X0.here hx rfl (hb hby d23_4) rfl ?_
    refine XS.iloadN X0.here hx rfl (hb hby d23_5) rfl ?_
    exact kt
  have hc6_3 : ¬ (p1 < p0) := hb_
  have pre6 : ∀ t, Sx p e below s₁ (mkF m 11 #[iv p0, iv p1, iv p2, .val u3] [(.int p2), (.int p1)]) t → Sx p e below s₁ g₀ t := by
    intro t kt
    refine pre4 _ ?_
    refine XS.icmpNo X0.here hx rfl (hb hby d23_6) rfl (flt hc6_3).2.2.1 ?_
    refine XS.iloadN X0.here hx rfl (hb hby d23_9) rfl ?_
    refine XS.iloadN X0.here hx rfl (hb hby d23_10) rfl ?_
    exact kt
  have hc11_5 : ¬ (p2 < p1) := hc_
  have pre7 : ∀ t, Sx p e below s₁ (mkF m 23 #[iv p0, iv p1, iv p2, .val u3] [(.int p0)]) t → Sx p e below s₁ g₀ t := by
    intro t kt
    refine pre6 _ ?_
    refine XS.icmpYes X0.here hx rfl (pc0 := 11) (pc' := 22) rfl (hb hby d23_11) rfl (flt hc11_5).2.2.2 (by decide) (by decide) ?_
    refine XS.iloadN X0.here hx rfl (hb hby d23_22) rfl ?_
    exact kt
  obtain ⟨fs, hr, hrun, hended, hW, hsame⟩ := X0.leave (v := some (.int p0)) (fun h => by rw [Bd.returns] at h; cases h)
  refine ⟨_, _, _, pre7 _ ?_, hrun, hended, ?_, ⟨_, rfl⟩, hW, hsame.mono (by decide) (by decide)⟩
  · show Steps p.tables e below (s₁.setTop (mkF m 23 #[iv p0, iv p1, iv p2, .val u3] [(.int p0)])) _
    exact retI X0 hx Bd.returns (hb hby d23_23) hr
  · show Q23 Z p0 p1 p2 u3 h0 n0 _ s₁.heap _
    rw [e0]
    exact ⟨rfl, N0, rfl⟩
abbrev D22 (q : Nat) (i : Instr) (k : Nat) : Prop := decode jdk_42_method_158_code q = .ok (i, k)
theorem d22_0 : D22 0 (.iload_n 0) 1 := by decide +kernel
theorem d22_1 : D22 1 (.iload_n 1) 1 := by decide +kernel
theorem d22_2 : D22 2 (.iload_n 2) 1 := by decide +kernel
theorem d22_3 : D22 3 (.getstatic 1053) 3 := by decide +kernel
theorem pd6 : parseMethodDescriptor "(IIILjava/util/function/BiFunction;)I" = some ⟨[.int, .int, .int, (.object "java/util/function/BiFunction")], some .int⟩ := by decide +kernel
theorem d22_6 : D22 6 (.invokestatic 1062) 3 := by decide +kernel
theorem d22_9 : D22 9 (.pop) 1 := by decide +kernel
theorem d22_10 : D22 10 (.return_) 1 := by decide +kernel
theorem ef_22 (m : MethodId) (x0 : Int32) (x1 : Int32) (x2 : Int32) : entryFrame m #[(.int x0), (.int x1), (.int x2)] 3 = mkF m 0 #[.val (.int x0), .val (.int x1), .val (.int x2)] [] := by first | (simp [entryFrame, mkF, argsToLocals, Value.category]; done) | rfl
def Q22 (Z : State) (p0 : Int32) (p1 : Int32) (p2 : Int32) (fm : Value) (h0 : Heap) (n0 : Nat) (v : Option Value) (h : Heap) (L : List Loc) : Prop := v = none ∧ Fr n0 L ∧ h = h0
abbrev R22 : Room := { frames := 1, cells := 0, slots := 0, locals := 15 }
theorem rm22 (l : Launch) (Z : State) (a0 : Array Value) (hw : ∀ d ∈ tables_1, d.before a0 Z = true) (ws : List Jvm.Cond) (p0 : Int32) (p1 : Int32) (p2 : Int32) (fm : Value) (h0 : Heap) (n0 : Nat) (Z0 : n0 ≤ h0.size) (O0 : Old Z n0 h0) (S_fm : Sta Z Z.heap "jdk/internal/util/Preconditions" "SIOOBE_FORMATTER" "Ljava/util/function/BiFunction;" fm) (hr_fm : fm.isRef = true) (ha : ¬ (p0 < (0 : Int32))) (hb_ : ¬ (p1 < p0)) (hc_ : ¬ (p2 < p1)) :
    MetFree l Y6 (head1 (Jvm.Cond.code Y6 jdk_42_method_158_code 3 none :: ws) R22) (fun a U => a = #[(.int p0), (.int p1), (.int p2)] ∧ Z.Warmed39 U.vm ∧ U.heap = h0) (fun _ _ _ _ _ => True) (fun _ U o U' => ∃ v L, o = .returned v ∧ Q22 Z p0 p1 p2 fm h0 n0 v U'.heap L ∧ FrameEnd U o U' L R22.cells R22.slots) := by
  refine own_start (C := "java/lang/String") (Q := Q22 Z p0 p1 p2 fm h0 n0) rfl (plainFor_of_name pn4) ?_
  intro p e s m below meth c s₁ g₀ hg₀ Bd hx hby hml hZ hown hnm X0 e0
  have N0 := Fr.nil n0
  have pre0 : ∀ t, Sx p e below s₁ (mkF m 0 #[iv p0, iv p1, iv p2] []) t → Sx p e below s₁ g₀ t := fun t k => by subst hg₀; exact castTop (ef_22 m p0 p1 p2) k
  have pre1 : ∀ t, Sx p e below s₁ (mkF m 3 #[iv p0, iv p1, iv p2] [(.int p2), (.int p1), (.int p0)]) t → Sx p e below s₁ g₀ t := by
    intro t kt
    refine pre0 _ ?_
    refine XS.iloadN X0.here hx rfl (hb hby d22_0) rfl ?_
    refine XS.iloadN X0.here hx rfl (hb hby d22_1) rfl ?_
    refine XS.iloadN X0.here hx rfl (hb hby d22_2) rfl ?_
    exact kt
  obtain ⟨T2, X2, e2, st2⟩ := getS2 X0 hx hZ hown (host := "") (Or.inl (own_w hw 99 rfl)) Via.refl e0 (S_fm.ext (O0.keep (Keep.refl h0 []) all0).2) (g := (mkF m 3 #[iv p0, iv p1, iv p2] [(.int p2), (.int p1), (.int p0)])) rfl (hb hby d22_3)
  have pre3 : ∀ t, Sx p e below T2 (mkF m 6 #[iv p0, iv p1, iv p2] [fm, (.int p2), (.int p1), (.int p0)]) t → Sx p e below s₁ g₀ t := by
    intro t kt
    refine pre1 _ ?_
    refine st2 _ ?_
    exact kt
  obtain ⟨_, T4, Lc4, X4, hQ4, st4⟩ := own_cS X2 hx hZ (y := Y5) hown (own_w hw 101 rfl) (own_w hw 102 rfl) (own_w hw 100 rfl) (own_w hw 103 rfl) (by decide) (W := 0) (rm23 l Z a0 hw [] p0 p1 p2 fm h0 n0 (Nat.le_trans Z0 (Keep.refl h0 []).1) hr_fm ha hb_ hc_) (by decide) (by decide) (g := (mkF m 6 #[iv p0, iv p1, iv p2] [fm, (.int p2), (.int p1), (.int p0)])) rfl hml.symm (argsL := [(.int p0), (.int p1), (.int p2), fm]) (rest := []) (lenOf pd6 rfl) rfl (Nat.le_of_eq rfl) (hb hby d22_6) rfl e2 (by decide) (by decide)
  obtain ⟨rfl, N4q, hh4⟩ := hQ4
  have N4 := Fr.app N0 N4q
  have pre5 : ∀ t, Sx p e below T4 (mkF m 10 #[iv p0, iv p1, iv p2] []) t → Sx p e below s₁ g₀ t := by
    intro t kt
    refine pre3 _ ?_
    refine st4 _ ?_
    show Sx p e below T4 (mkF m 9 #[iv p0, iv p1, iv p2] [(.int p0)]) _
    refine XS.pop X4.here hx rfl (hb hby d22_9) rfl rfl ?_
    exact kt
  obtain ⟨fs, hr, hrun, hended, hW, hsame⟩ := X4.leave (v := none) (fun _ => rfl)
  refine ⟨_, _, _, pre5 _ ?_, hrun, hended, ?_, ⟨_, rfl⟩, hW, hsame.mono (by decide) (by decide)⟩
  · show Steps p.tables e below (T4.setTop (mkF m 10 #[iv p0, iv p1, iv p2] [])) _
    exact X4.returnOut hx Bd.returns (hb hby d22_10) hr
  · show Q22 Z p0 p1 p2 fm h0 n0 _ T4.heap _
    rw [hh4]
    exact ⟨rfl, N4, rfl⟩
abbrev D58 (q : Nat) (i : Instr) (k : Nat) : Prop := decode jdk_41_method_13_code q = .ok (i, k)
theorem d58_0 : D58 0 (.iload_n 2) 1 := by decide +kernel
theorem d58_1 : D58 1 (.iload_n 0) 1 := by decide +kernel
theorem d58_2 : D58 2 (.ior) 1 := by decide +kernel
theorem d58_3 : D58 3 (.iload_n 1) 1 := by decide +kernel
theorem d58_4 : D58 4 (.ior) 1 := by decide +kernel
theorem d58_5 : D58 5 (.ifCond .lt 10) 3 := by decide +kernel
theorem d58_8 : D58 8 (.iload_n 1) 1 := by decide +kernel
theorem d58_9 : D58 9 (.iload_n 2) 1 := by decide +kernel
theorem d58_10 : D58 10 (.iload_n 0) 1 := by decide +kernel
theorem d58_11 : D58 11 (.isub) 1 := by decide +kernel
theorem d58_12 : D58 12 (.if_icmp .le 11) 3 := by decide +kernel
theorem d58_23 : D58 23 (.iload_n 0) 1 := by decide +kernel
theorem d58_24 : D58 24 (.ireturn) 1 := by decide +kernel
theorem ef_58 (m : MethodId) (x0 : Int32) (x1 : Int32) (x2 : Int32) (x3 : Value) (hr3 : x3.isRef = true) : entryFrame m #[(.int x0), (.int x1), (.int x2), x3] 4 = mkF m 0 #[.val (.int x0), .val (.int x1), .val (.int x2), .val x3] [] := by rcases ref_cases hr3 with rfl | ⟨_, rfl⟩ <;> first | (simp [entryFrame, mkF, argsToLocals, Value.category]; done) | rfl
def Q58 (Z : State) (p0 : Int32) (p1 : Int32) (p2 : Int32) (u3 : Value) (h0 : Heap) (n0 : Nat) (v : Option Value) (h : Heap) (L : List Loc) : Prop := v = some (.int p0) ∧ Fr n0 L ∧ h = h0
abbrev R58 : Room := { frames := 0, cells := 0, slots := 0, locals := 0 }
theorem rm58 (l : Launch) (Z : State) (a0 : Array Value) (hw : ∀ d ∈ tables_1, d.before a0 Z = true) (ws : List Jvm.Cond) (p0 : Int32) (p1 : Int32) (p2 : Int32) (u3 : Value) (h0 : Heap) (n0 : Nat) (Z0 : n0 ≤ h0.size) (hr_u3 : u3.isRef = true) (ha : ¬ (((p2 ||| p0) ||| p1) < (0 : Int32))) (hb_ : ¬ ((p2 - p0) < p1)) :
    MetFree l Y7 (head1 (Jvm.Cond.code Y7 jdk_41_method_13_code 4 (some .int) :: ws) R58) (fun a U => a = #[(.int p0), (.int p1), (.int p2), u3] ∧ Z.Warmed39 U.vm ∧ U.heap = h0) (fun _ _ _ _ _ => True) (fun _ U o U' => ∃ v L, o = .returned v ∧ Q58 Z p0 p1 p2 u3 h0 n0 v U'.heap L ∧ FrameEnd U o U' L R58.cells R58.slots) := by
  refine own_start (C := "jdk/internal/util/Preconditions") (Q := Q58 Z p0 p1 p2 u3 h0 n0) rfl (plainFor_of_name pn3) ?_
  intro p e s m below meth c s₁ g₀ hg₀ Bd hx hby hml hZ hown hnm X0 e0
  have N0 := Fr.nil n0
  have pre0 : ∀ t, Sx p e below s₁ (mkF m 0 #[iv p0, iv p1, iv p2, .val u3] []) t → Sx p e below s₁ g₀ t := fun t k => by subst hg₀; exact castTop (ef_58 m p0 p1 p2 u3 hr_u3) k
  have pre2 : ∀ t, Sx p e below s₁ (mkF m 5 #[iv p0, iv p1, iv p2, .val u3] [(.int ((p2 ||| p0) ||| p1))]) t → Sx p e below s₁ g₀ t := by
    intro t kt
    refine pre0 _ ?_
    refine XS.iloadN X0.here hx rfl (hb hby d58_0) rfl ?_
    refine XS.iloadN X0.here hx rfl (hb hby d58_1) rfl ?_
    refine XS.ior X0.here hx rfl (hb hby d58_2) rfl ?_
    refine XS.iloadN X0.here hx rfl (hb hby d58_3) rfl ?_
    refine XS.ior X0.here hx rfl (hb hby d58_4) rfl ?_
    exact kt
  have hc5_1 : ¬ (((p2 ||| p0) ||| p1) < (0 : Int32)) := ha
  have pre4 : ∀ t, Sx p e below s₁ (mkF m 12 #[iv p0, iv p1, iv p2, .val u3] [(.int (p2 - p0)), (.int p1)]) t → Sx p e below s₁ g₀ t := by
    intro t kt
    refine pre2 _ ?_
    refine XS.ifNo X0.here hx rfl (hb hby d58_5) rfl ((if0 _ _).trans (flt hc5_1).1) ?_
    refine XS.iloadN X0.here hx rfl (hb hby d58_8) rfl ?_
    refine XS.iloadN X0.here hx rfl (hb hby d58_9) rfl ?_
    refine XS.iloadN X0.here hx rfl (hb hby d58_10) rfl ?_
    refine XS.isub X0.here hx rfl (hb hby d58_11) rfl ?_
    exact kt
  have hc12_3 : ¬ ((p2 - p0) < p1) := hb_
  have pre5 : ∀ t, Sx p e below s₁ (mkF m 24 #[iv p0, iv p1, iv p2, .val u3] [(.int p0)]) t → Sx p e below s₁ g₀ t := by
    intro t kt
    refine pre4 _ ?_
    refine XS.icmpYes X0.here hx rfl (pc0 := 12) (pc' := 23) rfl (hb hby d58_12) rfl (flt hc12_3).2.2.2 (by decide) (by decide) ?_
    refine XS.iloadN X0.here hx rfl (hb hby d58_23) rfl ?_
    exact kt
  obtain ⟨fs, hr, hrun, hended, hW, hsame⟩ := X0.leave (v := some (.int p0)) (fun h => by rw [Bd.returns] at h; cases h)
  refine ⟨_, _, _, pre5 _ ?_, hrun, hended, ?_, ⟨_, rfl⟩, hW, hsame.mono (by decide) (by decide)⟩
  · show Steps p.tables e below (s₁.setTop (mkF m 24 #[iv p0, iv p1, iv p2, .val u3] [(.int p0)])) _
    exact retI X0 hx Bd.returns (hb hby d58_24) hr
  · show Q58 Z p0 p1 p2 u3 h0 n0 _ s₁.heap _
    rw [e0]
    exact ⟨rfl, N0, rfl⟩
abbrev D57 (q : Nat) (i : Instr) (k : Nat) : Prop := decode jdk_42_method_157_code q = .ok (i, k)
theorem d57_0 : D57 0 (.iload_n 0) 1 := by decide +kernel
theorem d57_1 : D57 1 (.iload_n 1) 1 := by decide +kernel
theorem d57_2 : D57 2 (.iload_n 2) 1 := by decide +kernel
theorem d57_3 : D57 3 (.getstatic 1053) 3 := by decide +kernel
theorem d57_6 : D57 6 (.invokestatic 1065) 3 := by decide +kernel
theorem d57_9 : D57 9 (.ireturn) 1 := by decide +kernel
theorem ef_57 (m : MethodId) (x0 : Int32) (x1 : Int32) (x2 : Int32) : entryFrame m #[(.int x0), (.int x1), (.int x2)] 3 = mkF m 0 #[.val (.int x0), .val (.int x1), .val (.int x2)] [] := by first | (simp [entryFrame, mkF, argsToLocals, Value.category]; done) | rfl
def Q57 (Z : State) (p0 : Int32) (p1 : Int32) (p2 : Int32) (fm : Value) (h0 : Heap) (n0 : Nat) (v : Option Value) (h : Heap) (L : List Loc) : Prop := v = some (.int p0) ∧ Fr n0 L ∧ h = h0
abbrev R57 : Room := { frames := 1, cells := 0, slots := 0, locals := 15 }
theorem rm57 (l : Launch) (Z : State) (a0 : Array Value) (hw : ∀ d ∈ tables_1, d.before a0 Z = true) (ws : List Jvm.Cond) (p0 : Int32) (p1 : Int32) (p2 : Int32) (fm : Value) (h0 : Heap) (n0 : Nat) (Z0 : n0 ≤ h0.size) (O0 : Old Z n0 h0) (S_fm : Sta Z Z.heap "jdk/internal/util/Preconditions" "SIOOBE_FORMATTER" "Ljava/util/function/BiFunction;" fm) (hr_fm : fm.isRef = true) (ha : ¬ (((p2 ||| p0) ||| p1) < (0 : Int32))) (hb_ : ¬ ((p2 - p0) < p1)) :
    MetFree l Y8 (head1 (Jvm.Cond.code Y8 jdk_42_method_157_code 3 (some .int) :: ws) R57) (fun a U => a = #[(.int p0), (.int p1), (.int p2)] ∧ Z.Warmed39 U.vm ∧ U.heap = h0) (fun _ _ _ _ _ => True) (fun _ U o U' => ∃ v L, o = .returned v ∧ Q57 Z p0 p1 p2 fm h0 n0 v U'.heap L ∧ FrameEnd U o U' L R57.cells R57.slots) := by
  refine own_start (C := "java/lang/String") (Q := Q57 Z p0 p1 p2 fm h0 n0) rfl (plainFor_of_name pn4) ?_
  intro p e s m below meth c s₁ g₀ hg₀ Bd hx hby hml hZ hown hnm X0 e0
  have N0 := Fr.nil n0
  have pre0 : ∀ t, Sx p e below s₁ (mkF m 0 #[iv p0, iv p1, iv p2] []) t → Sx p e below s₁ g₀ t := fun t k => by subst hg₀; exact castTop (ef_57 m p0 p1 p2) k
  have pre1 : ∀ t, Sx p e below s₁ (mkF m 3 #[iv p0, iv p1, iv p2] [(.int p2), (.int p1), (.int p0)]) t → Sx p e below s₁ g₀ t := by
    intro t kt
    refine pre0 _ ?_
    refine XS.iloadN X0.here hx rfl (hb hby d57_0) rfl ?_
    refine XS.iloadN X0.here hx rfl (hb hby d57_1) rfl ?_
    refine XS.iloadN X0.here hx rfl (hb hby d57_2) rfl ?_
    exact kt
  obtain ⟨T2, X2, e2, st2⟩ := getS2 X0 hx hZ hown (host := "") (Or.inl (own_w hw 99 rfl)) Via.refl e0 (S_fm.ext (O0.keep (Keep.refl h0 []) all0).2) (g := (mkF m 3 #[iv p0, iv p1, iv p2] [(.int p2), (.int p1), (.int p0)])) rfl (hb hby d57_3)
  have pre3 : ∀ t, Sx p e below T2 (mkF m 6 #[iv p0, iv p1, iv p2] [fm, (.int p2), (.int p1), (.int p0)]) t → Sx p e below s₁ g₀ t := by
    intro t kt
    refine pre1 _ ?_
    refine st2 _ ?_
    exact kt
  obtain ⟨_, T4, Lc4, X4, hQ4, st4⟩ := own_cS X2 hx hZ (y := Y7) hown (own_w hw 255 rfl) (own_w hw 256 rfl) (own_w hw 100 rfl) (own_w hw 257 rfl) (by decide) (W := 0) (rm58 l Z a0 hw [] p0 p1 p2 fm h0 n0 (Nat.le_trans Z0 (Keep.refl h0 []).1) hr_fm ha hb_) (by decide) (by decide) (g := (mkF m 6 #[iv p0, iv p1, iv p2] [fm, (.int p2), (.int p1), (.int p0)])) rfl hml.symm (argsL := [(.int p0), (.int p1), (.int p2), fm]) (rest := []) (lenOf pd6 rfl) rfl (Nat.le_of_eq rfl) (hb hby d57_6) rfl e2 (by decide) (by decide)
  obtain ⟨rfl, N4q, hh4⟩ := hQ4
  have N4 := Fr.app N0 N4q
  have pre5 : ∀ t, Sx p e below T4 (mkF m 9 #[iv p0, iv p1, iv p2] [(.int p0)]) t → Sx p e below s₁ g₀ t := by
    intro t kt
    refine pre3 _ ?_
    refine st4 _ ?_
    exact kt
  obtain ⟨fs, hr, hrun, hended, hW, hsame⟩ := X4.leave (v := some (.int p0)) (fun h => by rw [Bd.returns] at h; cases h)
  refine ⟨_, _, _, pre5 _ ?_, hrun, hended, ?_, ⟨_, rfl⟩, hW, hsame.mono (by decide) (by decide)⟩
  · show Steps p.tables e below (T4.setTop (mkF m 9 #[iv p0, iv p1, iv p2] [(.int p0)])) _
    exact retI X4 hx Bd.returns (hb hby d57_9) hr
  · show Q57 Z p0 p1 p2 fm h0 n0 _ T4.heap _
    rw [hh4]
    exact ⟨rfl, N4, rfl⟩
theorem pn7 : plainName "java/lang/StringUTF16" = true := by first | (simp [plainName, overriddenIn]; done) | decide +kernel
abbrev D51 (q : Nat) (i : Instr) (k : Nat) : Prop := decode jdk_52_method_6_code q = .ok (i, k)
theorem d51_0 : D51 0 (.aload_n 0) 1 := by decide +kernel
theorem d51_1 : D51 1 (.arraylength) 1 := by decide +kernel
theorem d51_2 : D51 2 (.iconst 1) 1 := by decide +kernel
theorem d51_3 : D51 3 (.ishr) 1 := by decide +kernel
theorem d51_4 : D51 4 (.ireturn) 1 := by decide +kernel
theorem ef_51 (m : MethodId) (x0 : Addr) : entryFrame m #[(.ref x0)] 1 = mkF m 0 #[.val (.ref x0)] [] := by first | (simp [entryFrame, mkF, argsToLocals, Value.category]; done) | rfl
def Q51 (Z : State) (r0 : Addr) (kc : ClassId) (z : Int32) (vs : List Value) (w : Int32) (h0 : Heap) (n0 : Nat) (v : Option Value) (h : Heap) (L : List Loc) : Prop := v = some (.int w) ∧ Fr n0 L ∧ h = h0
abbrev R51 : Room := { frames := 0, cells := 0, slots := 0, locals := 0 }
theorem rm51 (l : Launch) (Z : State) (a0 : Array Value) (hw : ∀ d ∈ tables_1, d.before a0 Z = true) (ws : List Jvm.Cond) (r0 : Addr) (kc : ClassId) (z : Int32) (vs : List Value) (w : Int32) (h0 : Heap) (n0 : Nat) (Z0 : n0 ≤ h0.size) (V_r0 : Arv Z h0 r0 kc .byte z vs (.int (0 : Int32))) (hv : (z >>> ((1 : Int32) &&& 31)) = w) :
    MetFree l Y9 (head1 (Jvm.Cond.code Y9 jdk_52_method_6_code 1 (some .int) :: ws) R51) (fun a U => a = #[(.ref r0)] ∧ Z.Warmed39 U.vm ∧ U.heap = h0) (fun _ _ _ _ _ => True) (fun _ U o U' => ∃ v L, o = .returned v ∧ Q51 Z r0 kc z vs w h0 n0 v U'.heap L ∧ FrameEnd U o U' L R51.cells R51.slots) := by
  refine own_start (C := "java/lang/StringUTF16") (Q := Q51 Z r0 kc z vs w h0 n0) rfl (plainFor_of_name pn7) ?_
  intro p e s m below meth c s₁ g₀ hg₀ Bd hx hby hml hZ hown hnm X0 e0
  have N0 := Fr.nil n0
  have pre0 : ∀ t, Sx p e below s₁ (mkF m 0 #[rv r0] []) t → Sx p e below s₁ g₀ t := fun t k => by subst hg₀; exact castTop (ef_51 m r0) k
  obtain ⟨cl1, Ar1, -, S1, M1, -, -⟩ := id V_r0
  have pre2 : ∀ t, Sx p e below s₁ (mkF m 4 #[rv r0] [(.int w)]) t → Sx p e below s₁ g₀ t := by
    intro t kt
    refine pre0 _ ?_
    refine XS.aloadN X0.here hx rfl (hb hby d51_0) rfl rfl ?_
    refine X0.arraylength hx (by rw [e0]; exact Ar1.1) (State.isArrayOf_alike hZ.alike Ar1.2.1) (g := (mkF m 1 #[rv r0] [(.ref r0)])) rfl rfl (hb hby d51_1) _ ?_
    rw [len_of S1 M1]
    show Sx p e below s₁ (mkF m 2 #[rv r0] [(.int z)]) _
    refine XS.iconst X0.here hx rfl (hb hby d51_2) ?_
    refine XS.ishr X0.here hx rfl (hb hby d51_3) rfl ?_
    show Sx p e below s₁ (mkF m 4 #[rv r0] [(.int (z >>> ((1 : Int32) &&& 31)))]) _
    rw [show (z >>> ((1 : Int32) &&& 31)) = w from hv]
    exact kt
  obtain ⟨fs, hr, hrun, hended, hW, hsame⟩ := X0.leave (v := some (.int w)) (fun h => by rw [Bd.returns] at h; cases h)
  refine ⟨_, _, _, pre2 _ ?_, hrun, hended, ?_, ⟨_, rfl⟩, hW, hsame.mono (by decide) (by decide)⟩
  · show Steps p.tables e below (s₁.setTop (mkF m 4 #[rv r0] [(.int w)])) _
    exact retI X0 hx Bd.returns (hb hby d51_4) hr
  · show Q51 Z r0 kc z vs w h0 n0 _ s₁.heap _
    rw [e0]
    exact ⟨rfl, N0, rfl⟩
abbrev D56 (q : Nat) (i : Instr) (k : Nat) : Prop := decode jdk_52_method_94_code q = .ok (i, k)
theorem d56_0 : D56 0 (.iload_n 0) 1 := by decide +kernel
theorem d56_1 : D56 1 (.iload_n 1) 1 := by decide +kernel
theorem d56_2 : D56 2 (.aload_n 2) 1 := by decide +kernel
theorem pd8 : parseMethodDescriptor "([B)I" = some ⟨[(.array .byte)], some .int⟩ := by decide +kernel
theorem d56_3 : D56 3 (.invokestatic 48) 3 := by decide +kernel
theorem pd9 : parseMethodDescriptor "(III)I" = some ⟨[.int, .int, .int], some .int⟩ := by decide +kernel
theorem d56_6 : D56 6 (.invokestatic 419) 3 := by decide +kernel
theorem d56_9 : D56 9 (.pop) 1 := by decide +kernel
theorem d56_10 : D56 10 (.return_) 1 := by decide +kernel
theorem ef_56 (m : MethodId) (x0 : Int32) (x1 : Int32) (x2 : Addr) : entryFrame m #[(.int x0), (.int x1), (.ref x2)] 3 = mkF m 0 #[.val (.int x0), .val (.int x1), .val (.ref x2)] [] := by first | (simp [entryFrame, mkF, argsToLocals, Value.category]; done) | rfl
def Q56 (Z : State) (p0 : Int32) (p1 : Int32) (r2 : Addr) (kc : ClassId) (z : Int32) (vs : List Value) (w : Int32) (fm : Value) (h0 : Heap) (n0 : Nat) (v : Option Value) (h : Heap) (L : List Loc) : Prop := v = none ∧ Fr n0 L ∧ h = h0
abbrev R56 : Room := { frames := 2, cells := 0, slots := 0, locals := 29 }
theorem rm56 (l : Launch) (Z : State) (a0 : Array Value) (hw : ∀ d ∈ tables_1, d.before a0 Z = true) (ws : List Jvm.Cond) (p0 : Int32) (p1 : Int32) (r2 : Addr) (kc : ClassId) (z : Int32) (vs : List Value) (w : Int32) (fm : Value) (h0 : Heap) (n0 : Nat) (Z0 : n0 ≤ h0.size) (V_r2 : Arv Z h0 r2 kc .byte z vs (.int (0 : Int32))) (O0 : Old Z n0 h0) (S_fm : Sta Z Z.heap "jdk/internal/util/Preconditions" "SIOOBE_FORMATTER" "Ljava/util/function/BiFunction;" fm) (hr_fm : fm.isRef = true) (hv : (z >>> ((1 : Int32) &&& 31)) = w) (ha : ¬ (((w ||| p0) ||| p1) < (0 : Int32))) (hb_ : ¬ ((w - p0) < p1)) :
    MetFree l Y10 (head1 (Jvm.Cond.code Y10 jdk_52_method_94_code 3 none :: ws) R56) (fun a U => a = #[(.int p0), (.int p1), (.ref r2)] ∧ Z.Warmed39 U.vm ∧ U.heap = h0) (fun _ _ _ _ _ => True) (fun _ U o U' => ∃ v L, o = .returned v ∧ Q56 Z p0 p1 r2 kc z vs w fm h0 n0 v U'.heap L ∧ FrameEnd U o U' L R56.cells R56.slots) := by
  refine own_start (C := "java/lang/StringUTF16") (Q := Q56 Z p0 p1 r2 kc z vs w fm h0 n0) rfl (plainFor_of_name pn7) ?_
  intro p e s m below meth c s₁ g₀ hg₀ Bd hx hby hml hZ hown hnm X0 e0
  have N0 := Fr.nil n0
  have pre0 : ∀ t, Sx p e below s₁ (mkF m 0 #[iv p0, iv p1, rv r2] []) t → Sx p e below s₁ g₀ t := fun t k => by subst hg₀; exact castTop (ef_56 m p0 p1 r2) k
  have pre1 : ∀ t, Sx p e below s₁ (mkF m 3 #[iv p0, iv p1, rv r2] [(.ref r2), (.int p1), (.int p0)]) t → Sx p e below s₁ g₀ t := by
    intro t kt
    refine pre0 _ ?_
    refine XS.iloadN X0.here hx rfl (hb hby d56_0) rfl ?_
    refine XS.iloadN X0.here hx rfl (hb hby d56_1) rfl ?_
    refine XS.aloadN X0.here hx rfl (hb hby d56_2) rfl rfl ?_
    exact kt
  obtain ⟨_, T2, Lc2, X2, hQ2, st2⟩ := own_cS X0 hx hZ (y := Y9) hown (own_w hw 232 rfl) (own_w hw 233 rfl) (own_w hw 27 rfl) (own_w hw 234 rfl) (by decide) (W := 2) (rm51 l Z a0 hw [] r2 kc z vs w h0 n0 (Nat.le_trans Z0 (Keep.refl h0 []).1) V_r2 hv) (by decide) (by decide) (g := (mkF m 3 #[iv p0, iv p1, rv r2] [(.ref r2), (.int p1), (.int p0)])) rfl hml.symm (argsL := [(.ref r2)]) (rest := [(.int p1), (.int p0)]) (lenOf pd8 rfl) rfl (Nat.le_of_eq rfl) (hb hby d56_3) rfl e0 (by decide) (by decide)
  obtain ⟨rfl, N2q, hh2⟩ := hQ2
  have N2 := Fr.app N0 N2q
  have pre3 : ∀ t, Sx p e below T2 (mkF m 6 #[iv p0, iv p1, rv r2] [(.int w), (.int p1), (.int p0)]) t → Sx p e below s₁ g₀ t := by
    intro t kt
    refine pre1 _ ?_
    refine st2 _ ?_
    exact kt
  obtain ⟨_, T4, Lc4, X4, hQ4, st4⟩ := own_cS X2 hx hZ (y := Y8) hown (own_w hw 252 rfl) (own_w hw 253 rfl) (own_w hw 13 rfl) (own_w hw 254 rfl) (by decide) (W := 0) (rm57 l Z a0 hw [] p0 p1 w fm h0 n0 (Nat.le_trans Z0 (Keep.refl h0 []).1) (O0.keep (Keep.refl h0 []) all0) S_fm hr_fm ha hb_) (by decide) (by decide) (g := (mkF m 6 #[iv p0, iv p1, rv r2] [(.int w), (.int p1), (.int p0)])) rfl hml.symm (argsL := [(.int p0), (.int p1), (.int w)]) (rest := []) (lenOf pd9 rfl) rfl (Nat.le_of_eq rfl) (hb hby d56_6) rfl hh2 (by decide) (by decide)
  obtain ⟨rfl, N4q, hh4⟩ := hQ4
  have N4 := Fr.app N2 N4q
  have pre5 : ∀ t, Sx p e below T4 (mkF m 10 #[iv p0, iv p1, rv r2] []) t → Sx p e below s₁ g₀ t := by
    intro t kt
    refine pre3 _ ?_
    refine st4 _ ?_
    show Sx p e below T4 (mkF m 9 #[iv p0, iv p1, rv r2] [(.int p0)]) _
    refine XS.pop X4.here hx rfl (hb hby d56_9) rfl rfl ?_
    exact kt
  obtain ⟨fs, hr, hrun, hended, hW, hsame⟩ := X4.leave (v := none) (fun _ => rfl)
  refine ⟨_, _, _, pre5 _ ?_, hrun, hended, ?_, ⟨_, rfl⟩, hW, hsame.mono (by decide) (by decide)⟩
  · show Steps p.tables e below (T4.setTop (mkF m 10 #[iv p0, iv p1, rv r2] [])) _
    exact X4.returnOut hx Bd.returns (hb hby d56_10) hr
  · show Q56 Z p0 p1 r2 kc z vs w fm h0 n0 _ T4.heap _
    rw [hh4]
    exact ⟨rfl, N4, rfl⟩
abbrev D50 (q : Nat) (i : Instr) (k : Nat) : Prop := decode jdk_52_method_93_code q = .ok (i, k)
theorem d50_0 : D50 0 (.iload_n 0) 1 := by decide +kernel
theorem d50_1 : D50 1 (.iload_n 1) 1 := by decide +kernel
theorem d50_2 : D50 2 (.aload_n 2) 1 := by decide +kernel
theorem d50_3 : D50 3 (.invokestatic 48) 3 := by decide +kernel
theorem pd10 : parseMethodDescriptor "(III)V" = some ⟨[.int, .int, .int], none⟩ := by decide +kernel
theorem d50_6 : D50 6 (.invokestatic 241) 3 := by decide +kernel
theorem d50_9 : D50 9 (.return_) 1 := by decide +kernel
theorem ef_50 (m : MethodId) (x0 : Int32) (x1 : Int32) (x2 : Addr) : entryFrame m #[(.int x0), (.int x1), (.ref x2)] 3 = mkF m 0 #[.val (.int x0), .val (.int x1), .val (.ref x2)] [] := by first | (simp [entryFrame, mkF, argsToLocals, Value.category]; done) | rfl
def Q50 (Z : State) (p0 : Int32) (p1 : Int32) (r2 : Addr) (kc : ClassId) (z : Int32) (vs : List Value) (w : Int32) (fm : Value) (h0 : Heap) (n0 : Nat) (v : Option Value) (h : Heap) (L : List Loc) : Prop := v = none ∧ Fr n0 L ∧ h = h0
abbrev R50 : Room := { frames := 2, cells := 0, slots := 0, locals := 29 }
theorem rm50 (l : Launch) (Z : State) (a0 : Array Value) (hw : ∀ d ∈ tables_1, d.before a0 Z = true) (ws : List Jvm.Cond) (p0 : Int32) (p1 : Int32) (r2 : Addr) (kc : ClassId) (z : Int32) (vs : List Value) (w : Int32) (fm : Value) (h0 : Heap) (n0 : Nat) (Z0 : n0 ≤ h0.size) (V_r2 : Arv Z h0 r2 kc .byte z vs (.int (0 : Int32))) (O0 : Old Z n0 h0) (S_fm : Sta Z Z.heap "jdk/internal/util/Preconditions" "SIOOBE_FORMATTER" "Ljava/util/function/BiFunction;" fm) (hr_fm : fm.isRef = true) (hv : (z >>> ((1 : Int32) &&& 31)) = w) (ha : ¬ (p0 < (0 : Int32))) (hb_ : ¬ (p1 < p0)) (hc_ : ¬ (w < p1)) :
    MetFree l Y11 (head1 (Jvm.Cond.code Y11 jdk_52_method_93_code 3 none :: ws) R50) (fun a U => a = #[(.int p0), (.int p1), (.ref r2)] ∧ Z.Warmed39 U.vm ∧ U.heap = h0) (fun _ _ _ _ _ => True) (fun _ U o U' => ∃ v L, o = .returned v ∧ Q50 Z p0 p1 r2 kc z vs w fm h0 n0 v U'.heap L ∧ FrameEnd U o U' L R50.cells R50.slots) := by
  refine own_start (C := "java/lang/StringUTF16") (Q := Q50 Z p0 p1 r2 kc z vs w fm h0 n0) rfl (plainFor_of_name pn7) ?_
  intro p e s m below meth c s₁ g₀ hg₀ Bd hx hby hml hZ hown hnm X0 e0
  have N0 := Fr.nil n0
  have pre0 : ∀ t, Sx p e below s₁ (mkF m 0 #[iv p0, iv p1, rv r2] []) t → Sx p e below s₁ g₀ t := fun t k => by subst hg₀; exact castTop (ef_50 m p0 p1 r2) k
  have pre1 : ∀ t, Sx p e below s₁ (mkF m 3 #[iv p0, iv p1, rv r2] [(.ref r2), (.int p1), (.int p0)]) t → Sx p e below s₁ g₀ t := by
    intro t kt
    refine pre0 _ ?_
    refine XS.iloadN X0.here hx rfl (hb hby d50_0) rfl ?_
    refine XS.iloadN X0.here hx rfl (hb hby d50_1) rfl ?_
    refine XS.aloadN X0.here hx rfl (hb hby d50_2) rfl rfl ?_
    exact kt
  obtain ⟨_, T2, Lc2, X2, hQ2, st2⟩ := own_cS X0 hx hZ (y := Y9) hown (own_w hw 232 rfl) (own_w hw 233 rfl) (own_w hw 27 rfl) (own_w hw 234 rfl) (by decide) (W := 2) (rm51 l Z a0 hw [] r2 kc z vs w h0 n0 (Nat.le_trans Z0 (Keep.refl h0 []).1) V_r2 hv) (by decide) (by decide) (g := (mkF m 3 #[iv p0, iv p1, rv r2] [(.ref r2), (.int p1), (.int p0)])) rfl hml.symm (argsL := [(.ref r2)]) (rest := [(.int p1), (.int p0)]) (lenOf pd8 rfl) rfl (Nat.le_of_eq rfl) (hb hby d50_3) rfl e0 (by decide) (by decide)
  obtain ⟨rfl, N2q, hh2⟩ := hQ2
  have N2 := Fr.app N0 N2q
  have pre3 : ∀ t, Sx p e below T2 (mkF m 6 #[iv p0, iv p1, rv r2] [(.int w), (.int p1), (.int p0)]) t → Sx p e below s₁ g₀ t := by
    intro t kt
    refine pre1 _ ?_
    refine st2 _ ?_
    exact kt
  obtain ⟨_, T4, Lc4, X4, hQ4, st4⟩ := own_cS X2 hx hZ (y := Y6) hown (own_w hw 235 rfl) (own_w hw 97 rfl) (own_w hw 13 rfl) (own_w hw 98 rfl) (by decide) (W := 0) (rm22 l Z a0 hw [] p0 p1 w fm h0 n0 (Nat.le_trans Z0 (Keep.refl h0 []).1) (O0.keep (Keep.refl h0 []) all0) S_fm hr_fm ha hb_ hc_) (by decide) (by decide) (g := (mkF m 6 #[iv p0, iv p1, rv r2] [(.int w), (.int p1), (.int p0)])) rfl hml.symm (argsL := [(.int p0), (.int p1), (.int w)]) (rest := []) (lenOf pd10 rfl) rfl (Nat.le_of_eq rfl) (hb hby d50_6) rfl hh2 (by decide) (by decide)
  obtain ⟨rfl, N4q, hh4⟩ := hQ4
  have N4 := Fr.app N2 N4q
  have pre5 : ∀ t, Sx p e below T4 (mkF m 9 #[iv p0, iv p1, rv r2] []) t → Sx p e below s₁ g₀ t := by
    intro t kt
    refine pre3 _ ?_
    refine st4 _ ?_
    exact kt
  obtain ⟨fs, hr, hrun, hended, hW, hsame⟩ := X4.leave (v := none) (fun _ => rfl)
  refine ⟨_, _, _, pre5 _ ?_, hrun, hended, ?_, ⟨_, rfl⟩, hW, hsame.mono (by decide) (by decide)⟩
  · show Steps p.tables e below (T4.setTop (mkF m 9 #[iv p0, iv p1, rv r2] [])) _
    exact X4.returnOut hx Bd.returns (hb hby d50_9) hr
  · show Q50 Z p0 p1 r2 kc z vs w fm h0 n0 _ T4.heap _
    rw [hh4]
    exact ⟨rfl, N4, rfl⟩
abbrev D62 (q : Nat) (i : Instr) (k : Nat) : Prop := decode jdk_52_method_91_code q = .ok (i, k)
theorem d62_0 : D62 0 (.iload_n 0) 1 := by decide +kernel
theorem d62_1 : D62 1 (.aload_n 1) 1 := by decide +kernel
theorem d62_2 : D62 2 (.invokestatic 48) 3 := by decide +kernel
theorem pd11 : parseMethodDescriptor "(II)V" = some ⟨[.int, .int], none⟩ := by decide +kernel
theorem d62_5 : D62 5 (.invokestatic 414) 3 := by decide +kernel
theorem d62_8 : D62 8 (.return_) 1 := by decide +kernel
theorem ef_62 (m : MethodId) (x0 : Int32) (x1 : Addr) : entryFrame m #[(.int x0), (.ref x1)] 2 = mkF m 0 #[.val (.int x0), .val (.ref x1)] [] := by first | (simp [entryFrame, mkF, argsToLocals, Value.category]; done) | rfl
def Q62 (Z : State) (p0 : Int32) (r1 : Addr) (kc : ClassId) (z : Int32) (vs : List Value) (w : Int32) (fm : Value) (h0 : Heap) (n0 : Nat) (v : Option Value) (h : Heap) (L : List Loc) : Prop := v = none ∧ Fr n0 L ∧ h = h0
abbrev R62 : Room := { frames := 2, cells := 0, slots := 0, locals := 27 }
theorem rm62 (l : Launch) (Z : State) (a0 : Array Value) (hw : ∀ d ∈ tables_1, d.before a0 Z = true) (ws : List Jvm.Cond) (p0 : Int32) (r1 : Addr) (kc : ClassId) (z : Int32) (vs : List Value) (w : Int32) (fm : Value) (h0 : Heap) (n0 : Nat) (Z0 : n0 ≤ h0.size) (V_r1 : Arv Z h0 r1 kc .byte z vs (.int (0 : Int32))) (O0 : Old Z n0 h0) (S_fm : Sta Z Z.heap "jdk/internal/util/Preconditions" "SIOOBE_FORMATTER" "Ljava/util/function/BiFunction;" fm) (hr_fm : fm.isRef = true) (hv : (z >>> ((1 : Int32) &&& 31)) = w) (ha : ¬ (p0 < (0 : Int32))) (hb_ : p0 < w) :
    MetFree l Y12 (head1 (Jvm.Cond.code Y12 jdk_52_method_91_code 2 none :: ws) R62) (fun a U => a = #[(.int p0), (.ref r1)] ∧ Z.Warmed39 U.vm ∧ U.heap = h0) (fun _ _ _ _ _ => True) (fun _ U o U' => ∃ v L, o = .returned v ∧ Q62 Z p0 r1 kc z vs w fm h0 n0 v U'.heap L ∧ FrameEnd U o U' L R62.cells R62.slots) := by
  refine own_start (C := "java/lang/StringUTF16") (Q := Q62 Z p0 r1 kc z vs w fm h0 n0) rfl (plainFor_of_name pn7) ?_
  intro p e s m below meth c s₁ g₀ hg₀ Bd hx hby hml hZ hown hnm X0 e0
  have N0 := Fr.nil n0
  have pre0 : ∀ t, Sx p e below s₁ (mkF m 0 #[iv p0, rv r1] []) t → Sx p e below s₁ g₀ t := fun t k => by subst hg₀; exact castTop (ef_62 m p0 r1) k
  have pre1 : ∀ t, Sx p e below s₁ (mkF m 2 #[iv p0, rv r1] [(.ref r1), (.int p0)]) t → Sx p e below s₁ g₀ t := by
    intro t kt
    refine pre0 _ ?_
    refine XS.iloadN X0.here hx rfl (hb hby d62_0) rfl ?_
    refine XS.aloadN X0.here hx rfl (hb hby d62_1) rfl rfl ?_
    exact kt
  obtain ⟨_, T2, Lc2, X2, hQ2, st2⟩ := own_cS X0 hx hZ (y := Y9) hown (own_w hw 232 rfl) (own_w hw 233 rfl) (own_w hw 27 rfl) (own_w hw 234 rfl) (by decide) (W := 1) (rm51 l Z a0 hw [] r1 kc z vs w h0 n0 (Nat.le_trans Z0 (Keep.refl h0 []).1) V_r1 hv) (by decide) (by decide) (g := (mkF m 2 #[iv p0, rv r1] [(.ref r1), (.int p0)])) rfl hml.symm (argsL := [(.ref r1)]) (rest := [(.int p0)]) (lenOf pd8 rfl) rfl (Nat.le_of_eq rfl) (hb hby d62_2) rfl e0 (by decide) (by decide)
  obtain ⟨rfl, N2q, hh2⟩ := hQ2
  have N2 := Fr.app N0 N2q
  have pre3 : ∀ t, Sx p e below T2 (mkF m 5 #[iv p0, rv r1] [(.int w), (.int p0)]) t → Sx p e below s₁ g₀ t := by
    intro t kt
    refine pre1 _ ?_
    refine st2 _ ?_
    exact kt
  obtain ⟨_, T4, Lc4, X4, hQ4, st4⟩ := own_cS X2 hx hZ (y := Y4) hown (own_w hw 277 rfl) (own_w hw 183 rfl) (own_w hw 13 rfl) (own_w hw 184 rfl) (by decide) (W := 0) (rm38 l Z a0 hw [] p0 w fm h0 n0 (Nat.le_trans Z0 (Keep.refl h0 []).1) (O0.keep (Keep.refl h0 []) all0) S_fm hr_fm ha hb_) (by decide) (by decide) (g := (mkF m 5 #[iv p0, rv r1] [(.int w), (.int p0)])) rfl hml.symm (argsL := [(.int p0), (.int w)]) (rest := []) (lenOf pd11 rfl) rfl (Nat.le_of_eq rfl) (hb hby d62_5) rfl hh2 (by decide) (by decide)
  obtain ⟨rfl, N4q, hh4⟩ := hQ4
  have N4 := Fr.app N2 N4q
  have pre5 : ∀ t, Sx p e below T4 (mkF m 8 #[iv p0, rv r1] []) t → Sx p e below s₁ g₀ t := by
    intro t kt
    refine pre3 _ ?_
    refine st4 _ ?_
    exact kt
  obtain ⟨fs, hr, hrun, hended, hW, hsame⟩ := X4.leave (v := none) (fun _ => rfl)
  refine ⟨_, _, _, pre5 _ ?_, hrun, hended, ?_, ⟨_, rfl⟩, hW, hsame.mono (by decide) (by decide)⟩
  · show Steps p.tables e below (T4.setTop (mkF m 8 #[iv p0, rv r1] [])) _
    exact X4.returnOut hx Bd.returns (hb hby d62_8) hr
  · show Q62 Z p0 r1 kc z vs w fm h0 n0 _ T4.heap _
    rw [hh4]
    exact ⟨rfl, N4, rfl⟩
abbrev D45 (q : Nat) (i : Instr) (k : Nat) : Prop := decode jdk_52_method_3_code q = .ok (i, k)
theorem d45_0 : D45 0 (.iload_n 0) 1 := by decide +kernel
theorem d45_1 : D45 1 (.ifCond .ge 11) 3 := by decide +kernel
theorem d45_12 : D45 12 (.iload_n 0) 1 := by decide +kernel
theorem d45_13 : D45 13 (.ldc 20) 2 := by decide +kernel
theorem d45_15 : D45 15 (.if_icmp .lt 40) 3 := by decide +kernel
theorem d45_55 : D45 55 (.iload_n 0) 1 := by decide +kernel
theorem d45_56 : D45 56 (.iconst 1) 1 := by decide +kernel
theorem d45_57 : D45 57 (.ishl) 1 := by decide +kernel
theorem d45_58 : D45 58 (.ireturn) 1 := by decide +kernel
theorem ef_45 (m : MethodId) (x0 : Int32) : entryFrame m #[(.int x0)] 1 = mkF m 0 #[.val (.int x0)] [] := by first | (simp [entryFrame, mkF, argsToLocals, Value.category]; done) | rfl
def Q45 (Z : State) (p0 : Int32) (w : Int32) (h0 : Heap) (n0 : Nat) (v : Option Value) (h : Heap) (L : List Loc) : Prop := v = some (.int w) ∧ Fr n0 L ∧ h = h0
abbrev R45 : Room := { frames := 0, cells := 0, slots := 0, locals := 0 }
theorem rm45 (l : Launch) (Z : State) (a0 : Array Value) (hw : ∀ d ∈ tables_1, d.before a0 Z = true) (ws : List Jvm.Cond) (p0 : Int32) (w : Int32) (h0 : Heap) (n0 : Nat) (Z0 : n0 ≤ h0.size) (ha : ¬ (p0 < (0 : Int32))) (hb_ : p0 < (1073741823 : Int32)) (hv : (p0 <<< ((1 : Int32) &&& 31)) = w) :
    MetFree l Y13 (head1 (Jvm.Cond.code Y13 jdk_52_method_3_code 1 (some .int) :: ws) R45) (fun a U => a = #[(.int p0)] ∧ Z.Warmed39 U.vm ∧ U.heap = h0) (fun _ _ _ _ _ => True) (fun _ U o U' => ∃ v L, o = .returned v ∧ Q45 Z p0 w h0 n0 v U'.heap L ∧ FrameEnd U o U' L R45.cells R45.slots) := by
  refine own_start (C := "java/lang/StringUTF16") (Q := Q45 Z p0 w h0 n0) rfl (plainFor_of_name pn7) ?_
  intro p e s m below meth c s₁ g₀ hg₀ Bd hx hby hml hZ hown hnm X0 e0
  have N0 := Fr.nil n0
  have pre0 : ∀ t, Sx p e below s₁ (mkF m 0 #[iv p0] []) t → Sx p e below s₁ g₀ t := fun t k => by subst hg₀; exact castTop (ef_45 m p0) k
  have pre2 : ∀ t, Sx p e below s₁ (mkF m 1 #[iv p0] [(.int p0)]) t → Sx p e below s₁ g₀ t := by
    intro t kt
    refine pre0 _ ?_
    refine XS.iloadN X0.here hx rfl (hb hby d45_0) rfl ?_
    exact kt
  have hc1_1 : ¬ (p0 < (0 : Int32)) := ha
  have pre4 : ∀ t, Sx p e below s₁ (mkF m 15 #[iv p0] [(.int (1073741823 : Int32)), (.int p0)]) t → Sx p e below s₁ g₀ t := by
    intro t kt
    refine pre2 _ ?_
    refine XS.ifYes X0.here hx rfl (pc0 := 1) (pc' := 12) rfl (hb hby d45_1) rfl ((if0 _ _).trans (flt hc1_1).2.1) (by decide) (by decide) ?_
    refine XS.iloadN X0.here hx rfl (hb hby d45_12) rfl ?_
    refine X0.ldcInt hx hown (mvT hZ (own_w hw 210 rfl)) (g := (mkF m 13 #[iv p0] [(.int p0)])) rfl (hb hby d45_13) _ ?_
    exact kt
  have hc15_3 : p0 < (1073741823 : Int32) := hb_
  have pre5 : ∀ t, Sx p e below s₁ (mkF m 58 #[iv p0] [(.int w)]) t → Sx p e below s₁ g₀ t := by
    intro t kt
    refine pre4 _ ?_
    refine XS.icmpYes X0.here hx rfl (pc0 := 15) (pc' := 55) rfl (hb hby d45_15) rfl (tlt hc15_3).1 (by decide) (by decide) ?_
    refine XS.iloadN X0.here hx rfl (hb hby d45_55) rfl ?_
    refine XS.iconst X0.here hx rfl (hb hby d45_56) ?_
    refine XS.ishl X0.here hx rfl (hb hby d45_57) rfl ?_
    show Sx p e below s₁ (mkF m 58 #[iv p0] [(.int (p0 <<< ((1 : Int32) &&& 31)))]) _
    rw [show (p0 <<< ((1 : Int32) &&& 31)) = w from hv]
    exact kt
  obtain ⟨fs, hr, hrun, hended, hW, hsame⟩ := X0.leave (v := some (.int w)) (fun h => by rw [Bd.returns] at h; cases h)
  refine ⟨_, _, _, pre5 _ ?_, hrun, hended, ?_, ⟨_, rfl⟩, hW, hsame.mono (by decide) (by decide)⟩
  · show Steps p.tables e below (s₁.setTop (mkF m 58 #[iv p0] [(.int w)])) _
    exact retI X0 hx Bd.returns (hb hby d45_58) hr
  · show Q45 Z p0 w h0 n0 _ s₁.heap _
    rw [e0]
    exact ⟨rfl, N0, rfl⟩
abbrev D44 (q : Nat) (i : Instr) (k : Nat) : Prop := decode jdk_52_method_2_code q = .ok (i, k)
theorem d44_0 : D44 0 (.iload_n 0) 1 := by decide +kernel
theorem pd12 : parseMethodDescriptor "(I)I" = some ⟨[.int], some .int⟩ := by decide +kernel
theorem d44_1 : D44 1 (.invokestatic 11) 3 := by decide +kernel
theorem d44_4 : D44 4 (.newarray .byte) 2 := by decide +kernel
theorem d44_6 : D44 6 (.areturn) 1 := by decide +kernel
theorem ef_44 (m : MethodId) (x0 : Int32) : entryFrame m #[(.int x0)] 1 = mkF m 0 #[.val (.int x0)] [] := by first | (simp [entryFrame, mkF, argsToLocals, Value.category]; done) | rfl
def Q44 (Z : State) (n : Nat) (h0 : Heap) (n0 : Nat) (v : Option Value) (h : Heap) (L : List Loc) : Prop := ∃ y k, v = some (.ref y) ∧ Fr n0 L ∧ Keep h0 h [] ∧ h0.size ≤ y ∧ Arv Z h y k .byte (own_n (2 * n)) (own_M []) (.int (0 : Int32)) ∧ Exa Z h y "[B"
abbrev R44 : Room := { frames := 1, cells := 1, slots := 10, locals := 12 }
theorem rm44 (l : Launch) (Z : State) (a0 : Array Value) (hw : ∀ d ∈ tables_1, d.before a0 Z = true) (ws : List Jvm.Cond) (n : Nat) (h0 : Heap) (n0 : Nat) (Z0 : n0 ≤ h0.size) (hn : n ≤ 5) :
    MetFree l Y14 (head1 (Jvm.Cond.code Y14 jdk_52_method_2_code 1 (some (.array .byte)) :: ws) R44) (fun a U => a = #[(.int (own_n n))] ∧ Z.Warmed39 U.vm ∧ U.heap = h0) (fun _ _ _ _ _ => True) (fun _ U o U' => ∃ v L, o = .returned v ∧ Q44 Z n h0 n0 v U'.heap L ∧ FrameEnd U o U' L R44.cells R44.slots) := by
  refine own_start (C := "java/lang/StringUTF16") (Q := Q44 Z n h0 n0) rfl (plainFor_of_name pn7) ?_
  intro p e s m below meth c s₁ g₀ hg₀ Bd hx hby hml hZ hown hnm X0 e0
  have N0 := Fr.nil n0
  have pre0 : ∀ t, Sx p e below s₁ (mkF m 0 #[iv (own_n n)] []) t → Sx p e below s₁ g₀ t := fun t k => by subst hg₀; exact castTop (ef_44 m (own_n n)) k
  have pre1 : ∀ t, Sx p e below s₁ (mkF m 1 #[iv (own_n n)] [(.int (own_n n))]) t → Sx p e below s₁ g₀ t := by
    intro t kt
    refine pre0 _ ?_
    refine XS.iloadN X0.here hx rfl (hb hby d44_0) rfl ?_
    exact kt
  obtain ⟨_, T2, Lc2, X2, hQ2, st2⟩ := own_cS X0 hx hZ (y := Y13) hown (own_w hw 207 rfl) (own_w hw 208 rfl) (own_w hw 27 rfl) (own_w hw 209 rfl) (by decide) (W := 0) (rm45 l Z a0 hw [] (own_n n) (own_n (2 * n)) h0 n0 (Nat.le_trans Z0 (Keep.refl h0 []).1) (own_nP (by omega)) (own_nsm (by omega)) (own_nD (by omega))) (by decide) (by decide) (g := (mkF m 1 #[iv (own_n n)] [(.int (own_n n))])) rfl hml.symm (argsL := [(.int (own_n n))]) (rest := []) (lenOf pd12 rfl) rfl (Nat.le_of_eq rfl) (hb hby d44_1) rfl e0 (by decide) (by decide)
  obtain ⟨rfl, N2q, hh2⟩ := hQ2
  have N2 := Fr.app N0 N2q
  have pre3 : ∀ t, Sx p e below T2 (mkF m 4 #[iv (own_n n)] [(.int (own_n (2 * n)))]) t → Sx p e below s₁ g₀ t := by
    intro t kt
    refine pre1 _ ?_
    refine st2 _ ?_
    exact kt
  obtain ⟨T4, h4, k4, X4, e4, E4, A4, Ex4, st4⟩ := newPE X2 hx hZ (own_w hw 7 rfl) hh2 (g := (mkF m 4 #[iv (own_n n)] [(.int (own_n (2 * n)))])) rfl (hb hby d44_4) rfl (own_nP (by omega)) (cap := 10) (by rw [own_nN (by omega)]; omega) (by decide) (by decide) (by decide) (ad := "[B") rfl
  obtain ⟨b4, g4⟩ : ∃ z, z = h0.size := ⟨_, rfl⟩
  rw [← g4] at A4 Ex4 st4
  have g_b4 : n0 ≤ b4 := Nat.le_trans (Nat.le_trans Z0 (Keep.refl h0 []).1) (Nat.le_of_eq g4.symm)
  have sz_b4 : h0.size ≤ b4 := Nat.le_trans (Keep.refl h0 []).1 (Nat.le_of_eq g4.symm)
  have V_b4 : Arv Z h4 b4 k4 .byte (own_n (2 * n)) (own_M []) (.int (0 : Int32)) := (Arv.new A4 (own_nP (by omega)))
  have K4 : Keep h0 h4 [] := (Keep.refl h0 []).ext E4
  have pre5 : ∀ t, Sx p e below T4 (mkF m 6 #[iv (own_n n)] [(.ref b4)]) t → Sx p e below s₁ g₀ t := by
    intro t kt
    refine pre3 _ ?_
    refine st4 _ ?_
    exact kt
  obtain ⟨fs, hr, hrun, hended, hW, hsame⟩ := X4.leave (v := some (.ref b4)) (fun h => by rw [Bd.returns] at h; cases h)
  refine ⟨_, _, _, pre5 _ ?_, hrun, hended, ?_, ⟨_, rfl⟩, hW, hsame.mono (by decide) (by decide)⟩
  · show Steps p.tables e below (T4.setTop (mkF m 6 #[iv (own_n n)] [(.ref b4)])) _
    jvm_step X4.here [X4.here.top, hx, (hb hby d44_6), X4.method', Bd.returns, Value.isRef, FieldType.isReference]
    first | (intro acts; rw [hr _ acts rfl rfl rfl]) | rw [hr _ _ rfl rfl rfl]
    exact Steps.refl _
  · show Q44 Z n h0 n0 _ T4.heap _
    rw [e4]
    exact ⟨b4, k4, rfl, N2, K4, sz_b4, V_b4, Ex4⟩
abbrev D47 (q : Nat) (i : Instr) (k : Nat) : Prop := decode jdk_52_method_5_code q = .ok (i, k)
theorem d47_0 : D47 0 (.getstatic 44) 3 := by decide +kernel
theorem d47_3 : D47 3 (.ifCond .ne 25) 3 := by decide +kernel
theorem d47_28 : D47 28 (.iload_n 1) 1 := by decide +kernel
theorem d47_29 : D47 29 (.iconst 1) 1 := by decide +kernel
theorem d47_30 : D47 30 (.ishl) 1 := by decide +kernel
theorem d47_31 : D47 31 (.istore_n 1) 1 := by decide +kernel
theorem d47_32 : D47 32 (.aload_n 0) 1 := by decide +kernel
theorem d47_33 : D47 33 (.iload_n 1) 1 := by decide +kernel
theorem d47_34 : D47 34 (.iinc 1 1) 3 := by decide +kernel
theorem d47_37 : D47 37 (.baload) 1 := by decide +kernel
theorem d47_38 : D47 38 (.sipush 255) 3 := by decide +kernel
theorem d47_41 : D47 41 (.iand) 1 := by decide +kernel
theorem d47_42 : D47 42 (.getstatic 59) 3 := by decide +kernel
theorem d47_45 : D47 45 (.ishl) 1 := by decide +kernel
theorem d47_46 : D47 46 (.aload_n 0) 1 := by decide +kernel
theorem d47_47 : D47 47 (.iload_n 1) 1 := by decide +kernel
theorem d47_48 : D47 48 (.baload) 1 := by decide +kernel
theorem d47_49 : D47 49 (.sipush 255) 3 := by decide +kernel
theorem d47_52 : D47 52 (.iand) 1 := by decide +kernel
theorem d47_53 : D47 53 (.getstatic 63) 3 := by decide +kernel
theorem d47_56 : D47 56 (.ishl) 1 := by decide +kernel
theorem d47_57 : D47 57 (.ior) 1 := by decide +kernel
theorem d47_58 : D47 58 (.i2c) 1 := by decide +kernel
theorem d47_59 : D47 59 (.ireturn) 1 := by decide +kernel
theorem ef_47 (m : MethodId) (x0 : Addr) (x1 : Int32) : entryFrame m #[(.ref x0), (.int x1)] 2 = mkF m 0 #[.val (.ref x0), .val (.int x1)] [] := by first | (simp [entryFrame, mkF, argsToLocals, Value.category]; done) | rfl
def Q47 (Z : State) (r0 : Addr) (p1 : Int32) (kc : ClassId) (z : Int32) (vs : List Value) (xx : Int32) (ai : Nat) (h0 : Heap) (n0 : Nat) (v : Option Value) (h : Heap) (L : List Loc) : Prop := v = some (.int xx) ∧ Fr n0 L ∧ h = h0
abbrev R47 : Room := { frames := 0, cells := 0, slots := 0, locals := 0 }
theorem rm47 (l : Launch) (Z : State) (a0 : Array Value) (hw : ∀ d ∈ tables_1, d.before a0 Z = true) (ws : List Jvm.Cond) (r0 : Addr) (p1 : Int32) (kc : ClassId) (z : Int32) (vs : List Value) (xx : Int32) (ai : Nat) (h0 : Heap) (n0 : Nat) (Z0 : n0 ≤ h0.size) (V_r0 : Arv Z h0 r0 kc .byte z vs (.int (0 : Int32))) (hat : own_at vs z p1 xx ai) (O0 : Old Z n0 h0) (S_ad : Sta Z Z.heap "java/lang/StringUTF16" "$assertionsDisabled" "Z" (.int (1 : Int32))) (S_hi : Sta Z Z.heap "java/lang/StringUTF16" "HI_BYTE_SHIFT" "I" (.int (0 : Int32))) (S_lo : Sta Z Z.heap "java/lang/StringUTF16" "LO_BYTE_SHIFT" "I" (.int (8 : Int32))) :
    MetFree l Y15 (head1 (Jvm.Cond.code Y15 jdk_52_method_5_code 2 (some .char) :: ws) R47) (fun a U => a = #[(.ref r0), (.int p1)] ∧ Z.Warmed39 U.vm ∧ U.heap = h0) (fun _ _ _ _ _ => True) (fun _ U o U' => ∃ v L, o = .returned v ∧ Q47 Z r0 p1 kc z vs xx ai h0 n0 v U'.heap L ∧ FrameEnd U o U' L R47.cells R47.slots) := by
  refine own_start (C := "java/lang/StringUTF16") (Q := Q47 Z r0 p1 kc z vs xx ai h0 n0) rfl (plainFor_of_name pn7) ?_
  intro p e s m below meth c s₁ g₀ hg₀ Bd hx hby hml hZ hown hnm X0 e0
  have N0 := Fr.nil n0
  have pre0 : ∀ t, Sx p e below s₁ (mkF m 0 #[rv r0, iv p1] []) t → Sx p e below s₁ g₀ t := fun t k => by subst hg₀; exact castTop (ef_47 m r0 p1) k
  obtain ⟨T1, X1, e1, st1⟩ := getS2 X0 hx hZ hown (host := "") (Or.inl (own_w hw 214 rfl)) Via.refl e0 (S_ad.ext (O0.keep (Keep.refl h0 []) all0).2) (g := (mkF m 0 #[rv r0, iv p1] [])) rfl (hb hby d47_0)
  obtain ⟨cl2, Ar2, q2, S2, M2, H2, G2⟩ := id V_r0
  have hin2 : ¬ ((p1 <<< ((1 : Int32) &&& 31)) < 0 ∨ cl2.slots.size ≤ ((p1 <<< ((1 : Int32) &&& 31))).toNatClampNeg) := inb_of S2 hat.1
  have hat2 : cl2.slots[((p1 <<< ((1 : Int32) &&& 31))).toNatClampNeg]? = some (.int (own_u0 xx)) := H2.at hin2 (own_at0 hat)
  have pre3 : ∀ t, Sx p e below T1 (mkF m 42 #[rv r0, iv ((p1 <<< ((1 : Int32) &&& 31)) + (1 : Int32))] [(.int ((own_u0 xx) &&& (255 : Int32)))]) t → Sx p e below s₁ g₀ t := by
    intro t kt
    refine pre0 _ ?_
    refine st1 _ ?_
    show Sx p e below T1 (mkF m 3 #[rv r0, iv p1] [(.int (1 : Int32))]) _
    refine XS.ifYes X1.here hx rfl (pc0 := 3) (pc' := 28) rfl (hb hby d47_3) rfl ((if0 _ _).trans (feq (by decide)).2) (by decide) (by decide) ?_
    refine XS.iloadN X1.here hx rfl (hb hby d47_28) rfl ?_
    refine XS.iconst X1.here hx rfl (hb hby d47_29) ?_
    refine XS.ishl X1.here hx rfl (hb hby d47_30) rfl ?_
    refine XS.istoreN X1.here hx rfl (hb hby d47_31) rfl (l' := #[rv r0, iv (p1 <<< ((1 : Int32) &&& 31))]) rfl ?_
    refine XS.aloadN X1.here hx rfl (hb hby d47_32) rfl rfl ?_
    refine XS.iloadN X1.here hx rfl (hb hby d47_33) rfl ?_
    refine XS.iinc X1.here hx rfl (hb hby d47_34) rfl (l' := #[rv r0, iv ((p1 <<< ((1 : Int32) &&& 31)) + (1 : Int32))]) rfl ?_
    refine X1.baloadBytes hx (j := (p1 <<< ((1 : Int32) &&& 31))) (v := (.int (own_u0 xx))) (by rw [e1]; exact Ar2.1) (State.isArrayOf_alike hZ.alike Ar2.2.1) Ar2.2.2 hin2 hat2 (g := (mkF m 37 #[rv r0, iv ((p1 <<< ((1 : Int32) &&& 31)) + (1 : Int32))] [(.int (p1 <<< ((1 : Int32) &&& 31))), (.ref r0)])) rfl rfl (hb hby d47_37) _ ?_
    show Sx p e below T1 (mkF m 38 #[rv r0, iv ((p1 <<< ((1 : Int32) &&& 31)) + (1 : Int32))] [(.int (own_u0 xx))]) _
    refine XS.sipush X1.here hx rfl (hb hby d47_38) ?_
    refine XS.iand X1.here hx rfl (hb hby d47_41) rfl ?_
    exact kt
  obtain ⟨T4, X4, e4, st4⟩ := getS2 X1 hx hZ hown (host := "") (Or.inl (own_w hw 215 rfl)) Via.refl e1 (S_hi.ext (O0.keep (Keep.refl h0 []) all0).2) (g := (mkF m 42 #[rv r0, iv ((p1 <<< ((1 : Int32) &&& 31)) + (1 : Int32))] [(.int ((own_u0 xx) &&& (255 : Int32)))])) rfl (hb hby d47_42)
  obtain ⟨cl5, Ar5, q5, S5, M5, H5, G5⟩ := id V_r0
  have hin5 : ¬ (((p1 <<< ((1 : Int32) &&& 31)) + (1 : Int32)) < 0 ∨ cl5.slots.size ≤ (((p1 <<< ((1 : Int32) &&& 31)) + (1 : Int32))).toNatClampNeg) := inb_of S5 hat.2.1
  have hat5 : cl5.slots[(((p1 <<< ((1 : Int32) &&& 31)) + (1 : Int32))).toNatClampNeg]? = some (.int (own_u1 xx)) := H5.at hin5 (own_at1 hat)
  have pre6 : ∀ t, Sx p e below T4 (mkF m 53 #[rv r0, iv ((p1 <<< ((1 : Int32) &&& 31)) + (1 : Int32))] [(.int ((own_u1 xx) &&& (255 : Int32))), (.int (((own_u0 xx) &&& (255 : Int32)) <<< ((0 : Int32) &&& 31)))]) t → Sx p e below s₁ g₀ t := by
    intro t kt
    refine pre3 _ ?_
    refine st4 _ ?_
    show Sx p e below T4 (mkF m 45 #[rv r0, iv ((p1 <<< ((1 : Int32) &&& 31)) + (1 : Int32))] [(.int (0 : Int32)), (.int ((own_u0 xx) &&& (255 : Int32)))]) _
    refine XS.ishl X4.here hx rfl (hb hby d47_45) rfl ?_
    refine XS.aloadN X4.here hx rfl (hb hby d47_46) rfl rfl ?_
    refine XS.iloadN X4.here hx rfl (hb hby d47_47) rfl ?_
    refine X4.baloadBytes hx (j := ((p1 <<< ((1 : Int32) &&& 31)) + (1 : Int32))) (v := (.int (own_u1 xx))) (by rw [e4]; exact Ar5.1) (State.isArrayOf_alike hZ.alike Ar5.2.1) Ar5.2.2 hin5 hat5 (g := (mkF m 48 #[rv r0, iv ((p1 <<< ((1 : Int32) &&& 31)) + (1 : Int32))] [(.int ((p1 <<< ((1 : Int32) &&& 31)) + (1 : Int32))), (.ref r0), (.int (((own_u0 xx) &&& (255 : Int32)) <<< ((0 : Int32) &&& 31)))])) rfl rfl (hb hby d47_48) _ ?_
    show Sx p e below T4 (mkF m 49 #[rv r0, iv ((p1 <<< ((1 : Int32) &&& 31)) + (1 : Int32))] [(.int (own_u1 xx)), (.int (((own_u0 xx) &&& (255 : Int32)) <<< ((0 : Int32) &&& 31)))]) _
    refine XS.sipush X4.here hx rfl (hb hby d47_49) ?_
    refine XS.iand X4.here hx rfl (hb hby d47_52) rfl ?_
    exact kt
  obtain ⟨T7, X7, e7, st7⟩ := getS2 X4 hx hZ hown (host := "") (Or.inl (own_w hw 216 rfl)) Via.refl e4 (S_lo.ext (O0.keep (Keep.refl h0 []) all0).2) (g := (mkF m 53 #[rv r0, iv ((p1 <<< ((1 : Int32) &&& 31)) + (1 : Int32))] [(.int ((own_u1 xx) &&& (255 : Int32))), (.int (((own_u0 xx) &&& (255 : Int32)) <<< ((0 : Int32) &&& 31)))])) rfl (hb hby d47_53)
  have pre8 : ∀ t, Sx p e below T7 (mkF m 59 #[rv r0, iv ((p1 <<< ((1 : Int32) &&& 31)) + (1 : Int32))] [(.int xx)]) t → Sx p e below s₁ g₀ t := by
    intro t kt
    refine pre6 _ ?_
    refine st7 _ ?_
    show Sx p e below T7 (mkF m 56 #[rv r0, iv ((p1 <<< ((1 : Int32) &&& 31)) + (1 : Int32))] [(.int (8 : Int32)), (.int ((own_u1 xx) &&& (255 : Int32))), (.int (((own_u0 xx) &&& (255 : Int32)) <<< ((0 : Int32) &&& 31)))]) _
    refine XS.ishl X7.here hx rfl (hb hby d47_56) rfl ?_
    refine XS.ior X7.here hx rfl (hb hby d47_57) rfl ?_
    refine XS.i2c X7.here hx rfl (hb hby d47_58) rfl ?_
    show Sx p e below T7 (mkF m 59 #[rv r0, iv ((p1 <<< ((1 : Int32) &&& 31)) + (1 : Int32))] [(.int (((((own_u0 xx) &&& (255 : Int32)) <<< ((0 : Int32) &&& 31)) ||| (((own_u1 xx) &&& (255 : Int32)) <<< ((8 : Int32) &&& 31))).toUInt32.toUInt16.toUInt32.toInt32))]) _
    rw [show (((((own_u0 xx) &&& (255 : Int32)) <<< ((0 : Int32) &&& 31)) ||| (((own_u1 xx) &&& (255 : Int32)) <<< ((8 : Int32) &&& 31))).toUInt32.toUInt16.toUInt32.toInt32) = xx from (own_gc xx (own_atc hat))]
    exact kt
  obtain ⟨fs, hr, hrun, hended, hW, hsame⟩ := X7.leave (v := some (.int (nar .char xx))) (fun h => by rw [Bd.returns] at h; cases h)
  refine ⟨_, _, _, pre8 _ ?_, hrun, hended, ?_, ⟨_, rfl⟩, hW, hsame.mono (by decide) (by decide)⟩
  · show Steps p.tables e below (T7.setTop (mkF m 59 #[rv r0, iv ((p1 <<< ((1 : Int32) &&& 31)) + (1 : Int32))] [(.int xx)])) _
    exact retN X7 hx (t := .char) Bd.returns (by simp) (hb hby d47_59) hr
  · show Q47 Z r0 p1 kc z vs xx ai h0 n0 _ T7.heap _
    rw [e7]
    exact ⟨congrArg (fun z => some (Value.int z)) (own_nrc xx (own_atc hat)), N0, rfl⟩
abbrev D46 (q : Nat) (i : Instr) (k : Nat) : Prop := decode jdk_52_method_4_code q = .ok (i, k)
theorem d46_0 : D46 0 (.getstatic 44) 3 := by decide +kernel
theorem d46_3 : D46 3 (.ifCond .ne 25) 3 := by decide +kernel
theorem d46_28 : D46 28 (.iload_n 1) 1 := by decide +kernel
theorem d46_29 : D46 29 (.iconst 1) 1 := by decide +kernel
theorem d46_30 : D46 30 (.ishl) 1 := by decide +kernel
theorem d46_31 : D46 31 (.istore_n 1) 1 := by decide +kernel
theorem d46_32 : D46 32 (.aload_n 0) 1 := by decide +kernel
theorem d46_33 : D46 33 (.iload_n 1) 1 := by decide +kernel
theorem d46_34 : D46 34 (.iinc 1 1) 3 := by decide +kernel
theorem d46_37 : D46 37 (.iload_n 2) 1 := by decide +kernel
theorem d46_38 : D46 38 (.getstatic 59) 3 := by decide +kernel
theorem d46_41 : D46 41 (.ishr) 1 := by decide +kernel
theorem d46_42 : D46 42 (.i2b) 1 := by decide +kernel
theorem d46_43 : D46 43 (.bastore) 1 := by decide +kernel
theorem d46_44 : D46 44 (.aload_n 0) 1 := by decide +kernel
theorem d46_45 : D46 45 (.iload_n 1) 1 := by decide +kernel
theorem d46_46 : D46 46 (.iload_n 2) 1 := by decide +kernel
theorem d46_47 : D46 47 (.getstatic 63) 3 := by decide +kernel
theorem d46_50 : D46 50 (.ishr) 1 := by decide +kernel
theorem d46_51 : D46 51 (.i2b) 1 := by decide +kernel
theorem d46_52 : D46 52 (.bastore) 1 := by decide +kernel
theorem d46_53 : D46 53 (.return_) 1 := by decide +kernel
theorem ef_46 (m : MethodId) (x0 : Addr) (x1 : Int32) (x2 : Int32) : entryFrame m #[(.ref x0), (.int x1), (.int x2)] 3 = mkF m 0 #[.val (.ref x0), .val (.int x1), .val (.int x2)] [] := by first | (simp [entryFrame, mkF, argsToLocals, Value.category]; done) | rfl
def Q46 (Z : State) (r0 : Addr) (p2 : Int32) (kc : ClassId) (z : Int32) (i : Nat) (LL : List Int32) (h0 : Heap) (n0 : Nat) (v : Option Value) (h : Heap) (L : List Loc) : Prop := v = none ∧ Fr n0 L ∧ Keep h0 h [r0] ∧ Arv Z h r0 kc .byte z (own_M (LL ++ [(own_u0 p2)] ++ [(own_u1 p2)])) (.int (0 : Int32))
abbrev R46 : Room := { frames := 0, cells := 0, slots := 0, locals := 0 }
theorem rm46 (l : Launch) (Z : State) (a0 : Array Value) (hw : ∀ d ∈ tables_1, d.before a0 Z = true) (ws : List Jvm.Cond) (r0 : Addr) (p2 : Int32) (kc : ClassId) (z : Int32) (i : Nat) (LL : List Int32) (h0 : Heap) (n0 : Nat) (Z0 : n0 ≤ h0.size) (V_r0 : Arv Z h0 r0 kc .byte z (own_M LL) (.int (0 : Int32))) (g_r0 : n0 ≤ r0) (hLL : LL.length = 2 * i) (hz : 2 * i + 1 < z.toNatClampNeg) (hi : i ≤ 20) (O0 : Old Z n0 h0) (S_ad : Sta Z Z.heap "java/lang/StringUTF16" "$assertionsDisabled" "Z" (.int (1 : Int32))) (S_hi : Sta Z Z.heap "java/lang/StringUTF16" "HI_BYTE_SHIFT" "I" (.int (0 : Int32))) (S_lo : Sta Z Z.heap "java/lang/StringUTF16" "LO_BYTE_SHIFT" "I" (.int (8 : Int32))) :
    MetFree l Y16 (head1 (Jvm.Cond.code Y16 jdk_52_method_4_code 3 none :: ws) R46) (fun a U => a = #[(.ref r0), (.int (own_n i)), (.int p2)] ∧ Z.Warmed39 U.vm ∧ U.heap = h0) (fun _ _ _ _ _ => True) (fun _ U o U' => ∃ v L, o = .returned v ∧ Q46 Z r0 p2 kc z i LL h0 n0 v U'.heap L ∧ FrameEnd U o U' L R46.cells R46.slots) := by
  refine own_start (C := "java/lang/StringUTF16") (Q := Q46 Z r0 p2 kc z i LL h0 n0) rfl (plainFor_of_name pn7) ?_
  intro p e s m below meth c s₁ g₀ hg₀ Bd hx hby hml hZ hown hnm X0 e0
  have N0 := Fr.nil n0
  have pre0 : ∀ t, Sx p e below s₁ (mkF m 0 #[rv r0, iv (own_n i), iv p2] []) t → Sx p e below s₁ g₀ t := fun t k => by subst hg₀; exact castTop (ef_46 m r0 (own_n i) p2) k
  obtain ⟨T1, X1, e1, st1⟩ := getS2 X0 hx hZ hown (host := "") (Or.inl (own_w hw 214 rfl)) Via.refl e0 (S_ad.ext (O0.keep (Keep.refl h0 [r0]) (allS g_r0 all0)).2) (g := (mkF m 0 #[rv r0, iv (own_n i), iv p2] [])) rfl (hb hby d46_0)
  have pre2 : ∀ t, Sx p e below T1 (mkF m 38 #[rv r0, iv (own_n (2 * i + 1)), iv p2] [(.int p2), (.int (own_n (2 * i))), (.ref r0)]) t → Sx p e below s₁ g₀ t := by
    intro t kt
    refine pre0 _ ?_
    refine st1 _ ?_
    show Sx p e below T1 (mkF m 3 #[rv r0, iv (own_n i), iv p2] [(.int (1 : Int32))]) _
    refine XS.ifYes X1.here hx rfl (pc0 := 3) (pc' := 28) rfl (hb hby d46_3) rfl ((if0 _ _).trans (feq (by decide)).2) (by decide) (by decide) ?_
    refine XS.iloadN X1.here hx rfl (hb hby d46_28) rfl ?_
    refine XS.iconst X1.here hx rfl (hb hby d46_29) ?_
    refine XS.ishl X1.here hx rfl (hb hby d46_30) rfl ?_
    show Sx p e below T1 (mkF m 31 #[rv r0, iv (own_n i), iv p2] [(.int ((own_n i) <<< ((1 : Int32) &&& 31)))]) _
    rw [show ((own_n i) <<< ((1 : Int32) &&& 31)) = (own_n (2 * i)) from (own_nD (by omega))]
    show Sx p e below T1 (mkF m 31 #[rv r0, iv (own_n i), iv p2] [(.int (own_n (2 * i)))]) _
    refine XS.istoreN X1.here hx rfl (hb hby d46_31) rfl (l' := #[rv r0, iv (own_n (2 * i)), iv p2]) rfl ?_
    refine XS.aloadN X1.here hx rfl (hb hby d46_32) rfl rfl ?_
    refine XS.iloadN X1.here hx rfl (hb hby d46_33) rfl ?_
    refine XS.iinc X1.here hx rfl (hb hby d46_34) rfl (l' := #[rv r0, iv ((own_n (2 * i)) + (1 : Int32)), iv p2]) rfl ?_
    show Sx p e below T1 (mkF m 37 #[rv r0, iv ((own_n (2 * i)) + (1 : Int32)), iv p2] [(.int (own_n (2 * i))), (.ref r0)]) _
    rw [show ((own_n (2 * i)) + (1 : Int32)) = (own_n (2 * i + 1)) from (own_nS (by omega))]
    show Sx p e below T1 (mkF m 37 #[rv r0, iv (own_n (2 * i + 1)), iv p2] [(.int (own_n (2 * i))), (.ref r0)]) _
    refine XS.iloadN X1.here hx rfl (hb hby d46_37) rfl ?_
    exact kt
  obtain ⟨T3, X3, e3, st3⟩ := getS2 X1 hx hZ hown (host := "") (Or.inl (own_w hw 215 rfl)) Via.refl e1 (S_hi.ext (O0.keep (Keep.refl h0 [r0]) (allS g_r0 all0)).2) (g := (mkF m 38 #[rv r0, iv (own_n (2 * i + 1)), iv p2] [(.int p2), (.int (own_n (2 * i))), (.ref r0)])) rfl (hb hby d46_38)
  have pre4 : ∀ t, Sx p e below T3 (mkF m 43 #[rv r0, iv (own_n (2 * i + 1)), iv p2] [(.int (own_u0 p2)), (.int (own_n (2 * i))), (.ref r0)]) t → Sx p e below s₁ g₀ t := by
    intro t kt
    refine pre2 _ ?_
    refine st3 _ ?_
    show Sx p e below T3 (mkF m 41 #[rv r0, iv (own_n (2 * i + 1)), iv p2] [(.int (0 : Int32)), (.int p2), (.int (own_n (2 * i))), (.ref r0)]) _
    refine XS.ishr X3.here hx rfl (hb hby d46_41) rfl ?_
    refine XS.i2b X3.here hx rfl (hb hby d46_42) rfl ?_
    show Sx p e below T3 (mkF m 43 #[rv r0, iv (own_n (2 * i + 1)), iv p2] [(.int ((p2 >>> ((0 : Int32) &&& 31)).toInt8.toInt32)), (.int (own_n (2 * i))), (.ref r0)]) _
    rw [show ((p2 >>> ((0 : Int32) &&& 31)).toInt8.toInt32) = (own_u0 p2) from rfl]
    exact kt
  obtain ⟨cl5, Ar5, q5, S5, M5, H5, G5⟩ := id V_r0
  have hin5 : ¬ ((own_n (2 * i)) < 0 ∨ cl5.slots.size ≤ ((own_n (2 * i))).toNatClampNeg) := inb_of S5 ⟨own_nP (by omega), own_ltz (by omega) (by omega)⟩
  obtain ⟨T5, h5, X5, e5, W5, st5⟩ := stB X3 hx hZ e3 Ar5 (j := (own_n (2 * i))) hin5 (g := (mkF m 43 #[rv r0, iv (own_n (2 * i + 1)), iv p2] [(.int (own_u0 p2)), (.int (own_n (2 * i))), (.ref r0)])) rfl rfl (hb hby d46_43)
  have nn5 : nar .byte (own_u0 p2) = (own_u0 p2) := (own_nb _)
  rw [nn5] at W5
  have V5 : Arv Z h5 r0 kc .byte z (own_M (LL ++ [(own_u0 p2)])) (.int (0 : Int32)) := own_push Ar5 q5 S5 M5 H5 G5 (own_fb nn5) W5 (by rw [own_nN (by omega)]; exact hLL.symm)
  have K5 : Keep h0 h5 [r0] := (Keep.refl h0 [r0]).wr W5 (Or.inl (List.mem_of_getElem? (i := 0) rfl))
  have N5 := Fr.snoc X5 N0 g_r0
  have pre6 : ∀ t, Sx p e below T5 (mkF m 47 #[rv r0, iv (own_n (2 * i + 1)), iv p2] [(.int p2), (.int (own_n (2 * i + 1))), (.ref r0)]) t → Sx p e below s₁ g₀ t := by
    intro t kt
    refine pre4 _ ?_
    refine st5 _ ?_
    show Sx p e below T5 (mkF m 44 #[rv r0, iv (own_n (2 * i + 1)), iv p2] []) _
    refine XS.aloadN X5.here hx rfl (hb hby d46_44) rfl rfl ?_
    refine XS.iloadN X5.here hx rfl (hb hby d46_45) rfl ?_
    refine XS.iloadN X5.here hx rfl (hb hby d46_46) rfl ?_
    exact kt
  obtain ⟨T7, X7, e7, st7⟩ := getS2 X5 hx hZ hown (host := "") (Or.inl (own_w hw 216 rfl)) Via.refl e5 (S_lo.ext (O0.keep K5 (allS g_r0 all0)).2) (g := (mkF m 47 #[rv r0, iv (own_n (2 * i + 1)), iv p2] [(.int p2), (.int (own_n (2 * i + 1))), (.ref r0)])) rfl (hb hby d46_47)
  have pre8 : ∀ t, Sx p e below T7 (mkF m 52 #[rv r0, iv (own_n (2 * i + 1)), iv p2] [(.int (own_u1 p2)), (.int (own_n (2 * i + 1))), (.ref r0)]) t → Sx p e below s₁ g₀ t := by
    intro t kt
    refine pre6 _ ?_
    refine st7 _ ?_
    show Sx p e below T7 (mkF m 50 #[rv r0, iv (own_n (2 * i + 1)), iv p2] [(.int (8 : Int32)), (.int p2), (.int (own_n (2 * i + 1))), (.ref r0)]) _
    refine XS.ishr X7.here hx rfl (hb hby d46_50) rfl ?_
    refine XS.i2b X7.here hx rfl (hb hby d46_51) rfl ?_
    show Sx p e below T7 (mkF m 52 #[rv r0, iv (own_n (2 * i + 1)), iv p2] [(.int ((p2 >>> ((8 : Int32) &&& 31)).toInt8.toInt32)), (.int (own_n (2 * i + 1))), (.ref r0)]) _
    rw [show ((p2 >>> ((8 : Int32) &&& 31)).toInt8.toInt32) = (own_u1 p2) from rfl]
    exact kt
  obtain ⟨cl9, Ar9, q9, S9, M9, H9, G9⟩ := id V5
  have hin9 : ¬ ((own_n (2 * i + 1)) < 0 ∨ cl9.slots.size ≤ ((own_n (2 * i + 1))).toNatClampNeg) := inb_of S9 ⟨own_nP (by omega), own_ltz hz (by omega)⟩
  obtain ⟨T9, h9, X9, e9, W9, st9⟩ := stB X7 hx hZ e7 Ar9 (j := (own_n (2 * i + 1))) hin9 (g := (mkF m 52 #[rv r0, iv (own_n (2 * i + 1)), iv p2] [(.int (own_u1 p2)), (.int (own_n (2 * i + 1))), (.ref r0)])) rfl rfl (hb hby d46_52)
  have nn9 : nar .byte (own_u1 p2) = (own_u1 p2) := (own_nb _)
  rw [nn9] at W9
  have V9 : Arv Z h9 r0 kc .byte z (own_M (LL ++ [(own_u0 p2)] ++ [(own_u1 p2)])) (.int (0 : Int32)) := own_push Ar9 q9 S9 M9 H9 G9 (own_fb nn9) W9 (by rw [own_nN (by omega), List.length_append, hLL]; rfl)
  have K9 : Keep h0 h9 [r0] := K5.wr W9 (Or.inl (List.mem_of_getElem? (i := 0) rfl))
  have N9 := Fr.snoc X9 N5 g_r0
  have pre10 : ∀ t, Sx p e below T9 (mkF m 53 #[rv r0, iv (own_n (2 * i + 1)), iv p2] []) t → Sx p e below s₁ g₀ t := by
    intro t kt
    refine pre8 _ ?_
    refine st9 _ ?_
    exact kt
  obtain ⟨fs, hr, hrun, hended, hW, hsame⟩ := X9.leave (v := none) (fun _ => rfl)
  refine ⟨_, _, _, pre10 _ ?_, hrun, hended, ?_, ⟨_, rfl⟩, hW, hsame.mono (by decide) (by decide)⟩
  · show Steps p.tables e below (T9.setTop (mkF m 53 #[rv r0, iv (own_n (2 * i + 1)), iv p2] [])) _
    exact X9.returnOut hx Bd.returns (hb hby d46_53) hr
  · show Q46 Z r0 p2 kc z i LL h0 n0 _ T9.heap _
    rw [e9]
    exact ⟨rfl, N9, K9, V9⟩
abbrev D43 (q : Nat) (i : Instr) (k : Nat) : Prop := decode jdk_52_method_14_code q = .ok (i, k)
theorem d43_8 : D43 8 (.iload 4) 2 := by decide +kernel
theorem d43_10 : D43 10 (.iload_n 2) 1 := by decide +kernel
theorem d43_11 : D43 11 (.if_icmp .ge 21) 3 := by decide +kernel
theorem d43_14 : D43 14 (.aload_n 3) 1 := by decide +kernel
theorem d43_15 : D43 15 (.iload 4) 2 := by decide +kernel
theorem d43_17 : D43 17 (.aload_n 0) 1 := by decide +kernel
theorem d43_18 : D43 18 (.iload_n 1) 1 := by decide +kernel
theorem d43_19 : D43 19 (.caload) 1 := by decide +kernel
theorem pd13 : parseMethodDescriptor "([BII)V" = some ⟨[(.array .byte), .int, .int], none⟩ := by decide +kernel
theorem d43_20 : D43 20 (.invokestatic 111) 3 := by decide +kernel
theorem d43_23 : D43 23 (.iinc 1 1) 3 := by decide +kernel
theorem d43_26 : D43 26 (.iinc 4 1) 3 := by decide +kernel
theorem d43_29 : D43 29 (.goto (-21)) 3 := by decide +kernel
theorem own_t43 {p : Program} {l : Launch} {e : Env} {s : State} {m : MethodId} {args : Array Value} {below : List Frame} {meth : Method} {c : Code} {T0 : State} {locs : List Loc} {Z : State} {a0 : Array Value} {h0 : Heap} {n0 : Nat} (r0 d : Addr) (i : Nat) (xx : Int32) (kc kd : ClassId) (cs_ : List Int32)
    (X0 : Stand p l e ({ frames := 3, cells := 1, slots := 10, locals := 60 } : Room) s m args below meth c T0 locs 1 10) (hx : p.tables.exec = Jvm.exec) (hZ : Z.Warmed39 s.vm) (hw : ∀ d ∈ tables_1, d.before a0 Z = true) (hby : c.code = jdk_52_method_14_code) (hml : c.maxLocals = 5) (hown : s.vm.findClass "java/lang/StringUTF16" = some m.cls) (e0 : T0.heap = h0) (Z0 : n0 ≤ h0.size) (N0 : Fr n0 locs) (V_r0 : Arv Z h0 r0 kc .char (own_len cs_) (own_M cs_) (.int (0 : Int32))) (V_d : Arv Z h0 d kd .byte (own_n (2 * cs_.length)) (own_M (own_U (cs_.take i))) (.int (0 : Int32))) (g_d : n0 ≤ d) (hne : r0 ≠ d) (hxx : cs_[i]? = some xx) (hi : i < cs_.length) (hl5 : cs_.length ≤ 5) (O0 : Old Z n0 h0) (S_ad : Sta Z Z.heap "java/lang/StringUTF16" "$assertionsDisabled" "Z" (.int (1 : Int32))) (S_hi : Sta Z Z.heap "java/lang/StringUTF16" "HI_BYTE_SHIFT" "I" (.int (0 : Int32))) (S_lo : Sta Z Z.heap "java/lang/StringUTF16" "LO_BYTE_SHIFT" "I" (.int (8 : Int32))) :
    ∃ (T' : State) (h' : Heap) (Ls : List Loc), Stand p l e ({ frames := 3, cells := 1, slots := 10, locals := 60 } : Room) s m args below meth c T' Ls 1 10 ∧ T'.heap = h' ∧ Fr n0 Ls ∧ Keep h0 h' [d] ∧ Arv Z h' d kd .byte (own_n (2 * cs_.length)) (own_M (own_U (cs_.take (i + 1)))) (.int (0 : Int32)) ∧ ∀ t, Steps p.tables e below (T'.setTop (mkF m 8 #[.val (.ref r0), .val (.int (own_n (i + 1))), .val (.int (own_len cs_)), .val (.ref d), .val (.int (own_n (i + 1)))] [])) t → Steps p.tables e below (T0.setTop (mkF m 8 #[.val (.ref r0), .val (.int (own_n i)), .val (.int (own_len cs_)), .val (.ref d), .val (.int (own_n i))] [])) t := by
  have pre0 : ∀ t, Steps p.tables e below (T0.setTop (mkF m 8 #[rv r0, iv (own_n i), iv (own_len cs_), rv d, iv (own_n i)] [])) t → Steps p.tables e below (T0.setTop (mkF m 8 #[rv r0, iv (own_n i), iv (own_len cs_), rv d, iv (own_n i)] [])) t := fun _ k => k
  have pre2 : ∀ t, Sx p e below T0 (mkF m 11 #[rv r0, iv (own_n i), iv (own_len cs_), rv d, iv (own_n i)] [(.int (own_len cs_)), (.int (own_n i))]) t → Steps p.tables e below (T0.setTop (mkF m 8 #[rv r0, iv (own_n i), iv (own_len cs_), rv d, iv (own_n i)] [])) t := by
    intro t kt
    refine pre0 _ ?_
    refine XS.iload X0.here hx rfl (hb hby d43_8) rfl ?_
    refine XS.iloadN X0.here hx rfl (hb hby d43_10) rfl ?_
    exact kt
  have hc11_1 : (own_n i) < (own_len cs_) := (own_nlt hi (by omega))
  obtain ⟨cl3, Ar3, q3, S3, M3, H3, G3⟩ := id V_r0
  have hin3 : ¬ ((own_n i) < 0 ∨ cl3.slots.size ≤ ((own_n i)).toNatClampNeg) := inb_of S3 ⟨own_nP (by omega), own_nlt hi (by omega)⟩
  have hat3 : cl3.slots[((own_n i)).toNatClampNeg]? = some (.int xx) := H3.at hin3 (by rw [own_nN (by omega)]; exact own_Mget _ _ _ hxx)
  have pre4 : ∀ t, Sx p e below T0 (mkF m 20 #[rv r0, iv (own_n i), iv (own_len cs_), rv d, iv (own_n i)] [(.int xx), (.int (own_n i)), (.ref d)]) t → Steps p.tables e below (T0.setTop (mkF m 8 #[rv r0, iv (own_n i), iv (own_len cs_), rv d, iv (own_n i)] [])) t := by
    intro t kt
    refine pre2 _ ?_
    refine XS.icmpNo X0.here hx rfl (hb hby d43_11) rfl (tlt hc11_1).2.1 ?_
    refine XS.aloadN X0.here hx rfl (hb hby d43_14) rfl rfl ?_
    refine XS.iload X0.here hx rfl (hb hby d43_15) rfl ?_
    refine XS.aloadN X0.here hx rfl (hb hby d43_17) rfl rfl ?_
    refine XS.iloadN X0.here hx rfl (hb hby d43_18) rfl ?_
    refine X0.caload hx (j := (own_n i)) (v := (.int xx)) (by rw [e0]; exact Ar3.1) (State.isArrayOf_alike hZ.alike Ar3.2.1) Ar3.2.2 hin3 hat3 (g := (mkF m 19 #[rv r0, iv (own_n i), iv (own_len cs_), rv d, iv (own_n i)] [(.int (own_n i)), (.ref r0), (.int (own_n i)), (.ref d)])) rfl rfl (hb hby d43_19) _ ?_
    exact kt
  obtain ⟨_, T5, Lc5, X5, hQ5, st5⟩ := own_cS X0 hx hZ (y := Y16) hown (own_w hw 211 rfl) (own_w hw 212 rfl) (own_w hw 27 rfl) (own_w hw 213 rfl) (by decide) (W := 0) (rm46 l Z a0 hw [] d xx kd (own_n (2 * cs_.length)) i (own_U (cs_.take i)) h0 n0 (Nat.le_trans Z0 (Keep.refl h0 [d]).1) V_d g_d (own_ULt (by omega)) (by rw [own_nN (by omega)]; omega) (by omega) (O0.keep (Keep.refl h0 [d]) (allS g_d all0)) S_ad S_hi S_lo) (by decide) (by decide) (g := (mkF m 20 #[rv r0, iv (own_n i), iv (own_len cs_), rv d, iv (own_n i)] [(.int xx), (.int (own_n i)), (.ref d)])) rfl hml.symm (argsL := [(.ref d), (.int (own_n i)), (.int xx)]) (rest := []) (lenOf pd13 rfl) rfl (Nat.le_of_eq rfl) (hb hby d43_20) rfl e0 (by decide) (by decide)
  obtain ⟨rfl, N5q, Kc5, Vp5⟩ := hQ5
  have N5 := Fr.app N0 N5q
  have K5 : Keep h0 T5.heap [d] := (Keep.refl h0 [d]).trans Kc5 (allS (Or.inl (List.mem_of_getElem? (i := 0) rfl)) all0)
  have pre6 : ∀ t, Sx p e below T5 (mkF m 8 #[rv r0, iv (own_n (i + 1)), iv (own_len cs_), rv d, iv (own_n (i + 1))] []) t → Steps p.tables e below (T0.setTop (mkF m 8 #[rv r0, iv (own_n i), iv (own_len cs_), rv d, iv (own_n i)] [])) t := by
    intro t kt
    refine pre4 _ ?_
    refine st5 _ ?_
    show Sx p e below T5 (mkF m 23 #[rv r0, iv (own_n i), iv (own_len cs_), rv d, iv (own_n i)] []) _
    refine XS.iinc X5.here hx rfl (hb hby d43_23) rfl (l' := #[rv r0, iv ((own_n i) + (1 : Int32)), iv (own_len cs_), rv d, iv (own_n i)]) rfl ?_
    refine XS.iinc X5.here hx rfl (hb hby d43_26) rfl (l' := #[rv r0, iv ((own_n i) + (1 : Int32)), iv (own_len cs_), rv d, iv ((own_n i) + (1 : Int32))]) rfl ?_
    show Sx p e below T5 (mkF m 29 #[rv r0, iv ((own_n i) + (1 : Int32)), iv (own_len cs_), rv d, iv ((own_n i) + (1 : Int32))] []) _
    rw [show ((own_n i) + (1 : Int32)) = (own_n (i + 1)) from (own_nS (by omega))]
    show Sx p e below T5 (mkF m 29 #[rv r0, iv (own_n (i + 1)), iv (own_len cs_), rv d, iv (own_n (i + 1))] []) _
    refine XS.goto X5.here hx rfl (pc0 := 29) (pc' := 8) rfl (hb hby d43_29) (by decide) (by decide) ?_
    exact kt
  exact ⟨T5, T5.heap, _, X5, rfl, N5, K5, own_US hxx ▸ Vp5, pre6⟩
theorem d43_0 : D43 0 (.iload_n 2) 1 := by decide +kernel
theorem pd14 : parseMethodDescriptor "(I)[B" = some ⟨[.int], some (.array .byte)⟩ := by decide +kernel
theorem d43_1 : D43 1 (.invokestatic 107) 3 := by decide +kernel
theorem d43_4 : D43 4 (.astore_n 3) 1 := by decide +kernel
theorem d43_5 : D43 5 (.iconst 0) 1 := by decide +kernel
theorem d43_6 : D43 6 (.istore 4) 2 := by decide +kernel
theorem d43_32 : D43 32 (.aload_n 3) 1 := by decide +kernel
theorem d43_33 : D43 33 (.areturn) 1 := by decide +kernel
theorem ef_43 (m : MethodId) (x0 : Addr) (x1 : Int32) (x2 : Int32) : entryFrame m #[(.ref x0), (.int x1), (.int x2)] 5 = mkF m 0 #[.val (.ref x0), .val (.int x1), .val (.int x2), .unset, .unset] [] := by first | (simp [entryFrame, mkF, argsToLocals, Value.category]; done) | rfl
def Q43 (Z : State) (r0 : Addr) (kc : ClassId) (cs_ : List Int32) (h0 : Heap) (n0 : Nat) (v : Option Value) (h : Heap) (L : List Loc) : Prop := ∃ y k, v = some (.ref y) ∧ Fr n0 L ∧ Keep h0 h [] ∧ h0.size ≤ y ∧ Arv Z h y k .byte (own_len (own_U cs_)) (own_M (own_U cs_)) (.int (0 : Int32)) ∧ Exa Z h y "[B"
abbrev R43 : Room := { frames := 3, cells := 1, slots := 10, locals := 60 }
theorem rm43 (l : Launch) (Z : State) (a0 : Array Value) (hw : ∀ d ∈ tables_1, d.before a0 Z = true) (ws : List Jvm.Cond) (r0 : Addr) (kc : ClassId) (cs_ : List Int32) (h0 : Heap) (n0 : Nat) (Z0 : n0 ≤ h0.size) (V_r0 : Arv Z h0 r0 kc .char (own_len cs_) (own_M cs_) (.int (0 : Int32))) (hl5 : cs_.length ≤ 5) (O0 : Old Z n0 h0) (S_ad : Sta Z Z.heap "java/lang/StringUTF16" "$assertionsDisabled" "Z" (.int (1 : Int32))) (S_hi : Sta Z Z.heap "java/lang/StringUTF16" "HI_BYTE_SHIFT" "I" (.int (0 : Int32))) (S_lo : Sta Z Z.heap "java/lang/StringUTF16" "LO_BYTE_SHIFT" "I" (.int (8 : Int32))) :
    MetFree l Y17 (head1 (Jvm.Cond.code Y17 jdk_52_method_14_code 5 (some (.array .byte)) :: ws) R43) (fun a U => a = #[(.ref r0), (.int (0 : Int32)), (.int (own_len cs_))] ∧ Z.Warmed39 U.vm ∧ U.heap = h0) (fun _ _ _ _ _ => True) (fun _ U o U' => ∃ v L, o = .returned v ∧ Q43 Z r0 kc cs_ h0 n0 v U'.heap L ∧ FrameEnd U o U' L R43.cells R43.slots) := by
  refine own_start (C := "java/lang/StringUTF16") (Q := Q43 Z r0 kc cs_ h0 n0) rfl (plainFor_of_name pn7) ?_
  intro p e s m below meth c s₁ g₀ hg₀ Bd hx hby hml hZ hown hnm X0 e0
  have N0 := Fr.nil n0
  have pre0 : ∀ t, Sx p e below s₁ (mkF m 0 #[rv r0, iv (0 : Int32), iv (own_len cs_), .unset, .unset] []) t → Sx p e below s₁ g₀ t := fun t k => by subst hg₀; exact castTop (ef_43 m r0 (0 : Int32) (own_len cs_)) k
  have pre1 : ∀ t, Sx p e below s₁ (mkF m 1 #[rv r0, iv (0 : Int32), iv (own_len cs_), .unset, .unset] [(.int (own_len cs_))]) t → Sx p e below s₁ g₀ t := by
    intro t kt
    refine pre0 _ ?_
    refine XS.iloadN X0.here hx rfl (hb hby d43_0) rfl ?_
    exact kt
  obtain ⟨_, T2, Lc2, X2, hQ2, st2⟩ := own_cS X0 hx hZ (y := Y14) hown (own_w hw 204 rfl) (own_w hw 205 rfl) (own_w hw 27 rfl) (own_w hw 206 rfl) (by decide) (W := 0) (rm44 l Z a0 hw [] cs_.length h0 n0 (Nat.le_trans Z0 (Keep.refl h0 []).1) hl5) (by decide) (by decide) (g := (mkF m 1 #[rv r0, iv (0 : Int32), iv (own_len cs_), .unset, .unset] [(.int (own_len cs_))])) rfl hml.symm (argsL := [(.int (own_len cs_))]) (rest := []) (lenOf pd14 rfl) rfl (Nat.le_of_eq rfl) (hb hby d43_1) rfl e0 (by decide) (by decide)
  obtain ⟨y2, ky2, rfl, N2q, Kc2, hy2, Vy2, Ey2⟩ := hQ2
  have N2 := Fr.app N0 N2q
  have K2 : Keep h0 T2.heap [] := (Keep.refl h0 []).trans Kc2 all0
  have g_y2 : n0 ≤ y2 := Nat.le_trans (Nat.le_trans Z0 (Keep.refl h0 []).1) hy2
  have sz_y2 : h0.size ≤ y2 := Nat.le_trans (Keep.refl h0 []).1 hy2
  have pre3 : ∀ t, Sx p e below T2 (mkF m 8 #[rv r0, iv (0 : Int32), iv (own_len cs_), rv y2, iv (0 : Int32)] []) t → Sx p e below s₁ g₀ t := by
    intro t kt
    refine pre1 _ ?_
    refine st2 _ ?_
    show Sx p e below T2 (mkF m 4 #[rv r0, iv (0 : Int32), iv (own_len cs_), .unset, .unset] [(.ref y2)]) _
    refine XS.astoreN X2.here hx rfl (hb hby d43_4) rfl rfl (l' := #[rv r0, iv (0 : Int32), iv (own_len cs_), rv y2, .unset]) rfl ?_
    refine XS.iconst X2.here hx rfl (hb hby d43_5) ?_
    refine XS.istore X2.here hx rfl (hb hby d43_6) rfl (l' := #[rv r0, iv (0 : Int32), iv (own_len cs_), rv y2, iv (0 : Int32)]) rfl ?_
    exact kt
  obtain ⟨T4, h4, L4, ⟨X4, e4, N4, zz4, Va4, Vb4, Oo4⟩, Kl4, st4⟩ := own_iter (tb := p.tables) (e := e) (below := below) (F := fun i => mkF m 8 #[.val (.ref r0), .val (.int (own_n i)), .val (.int (own_len cs_)), .val (.ref y2), .val (.int (own_n i))] []) (Inv := fun i T h Ls => Stand p l e R43 s m #[(.ref r0), (.int (0 : Int32)), (.int (own_len cs_))] below meth c T Ls 1 10 ∧ T.heap = h ∧ Fr n0 Ls ∧ n0 ≤ h.size ∧ Arv Z h r0 kc .char (own_len cs_) (own_M cs_) (.int (0 : Int32)) ∧ Arv Z h y2 ky2 .byte (own_n (2 * cs_.length)) (own_M (own_U (cs_.take i))) (.int (0 : Int32)) ∧ Old Z n0 h) (ws := [y2]) (n := cs_.length) (fun i T h Ls hi ⟨X, e1, N1, z1, Va, Vb, Oo⟩ => by
      have hne : r0 ≠ y2 := (Nat.ne_of_lt (Nat.lt_of_lt_of_le V_r0.lt hy2))
      obtain ⟨xx, xq⟩ : ∃ x, cs_[i]? = some x := ⟨_, List.getElem?_eq_getElem hi⟩
      obtain ⟨T', h', L', X', e', N', K', V', s'⟩ := own_t43 r0 y2 i xx kc ky2 cs_ X hx hZ hw hby hml hown e1 z1 N1 Va Vb g_y2 hne xq hi hl5 Oo S_ad S_hi S_lo
      exact ⟨T', h', L', ⟨X', e', N', Nat.le_trans z1 K'.1, Va.keep K' (ninS hne nin0), V', Oo.keep K' (allS g_y2 all0)⟩, K', s'⟩) (cs_.length) 0 T2 T2.heap _ (Nat.zero_add _) ⟨X2, rfl, N2, Nat.le_trans Z0 K2.1, (V_r0.keep Kc2 nin0), Vy2, (O0.keep K2 all0)⟩
  have K4 : Keep h0 h4 [] := K2.trans Kl4 (allS (Or.inr sz_y2) all0)
  have Vf4 : Arv Z h4 y2 ky2 .byte (own_len (own_U cs_)) (own_M (own_U cs_)) (.int (0 : Int32)) := own_Uall cs_ ▸ Vb4
  have pre6 : ∀ t, Sx p e below T4 (mkF m 11 #[rv r0, iv (own_n cs_.length), iv (own_len cs_), rv y2, iv (own_n cs_.length)] [(.int (own_len cs_)), (.int (own_n cs_.length))]) t → Sx p e below s₁ g₀ t := by
    intro t kt
    refine pre3 _ ?_
    refine st4 _ ?_
    show Sx p e below T4 (mkF m 8 #[rv r0, iv (own_n cs_.length), iv (own_len cs_), rv y2, iv (own_n cs_.length)] []) _
    refine XS.iload X4.here hx rfl (hb hby d43_8) rfl ?_
    refine XS.iloadN X4.here hx rfl (hb hby d43_10) rfl ?_
    exact kt
  have hc11_5 : ¬ ((own_n cs_.length) < (own_len cs_)) := (own_nge (Nat.le_refl _) (by omega))
  have pre7 : ∀ t, Sx p e below T4 (mkF m 33 #[rv r0, iv (own_n cs_.length), iv (own_len cs_), rv y2, iv (own_n cs_.length)] [(.ref y2)]) t → Sx p e below s₁ g₀ t := by
    intro t kt
    refine pre6 _ ?_
    refine XS.icmpYes X4.here hx rfl (pc0 := 11) (pc' := 32) rfl (hb hby d43_11) rfl (flt hc11_5).2.1 (by decide) (by decide) ?_
    refine XS.aloadN X4.here hx rfl (hb hby d43_32) rfl rfl ?_
    exact kt
  obtain ⟨fs, hr, hrun, hended, hW, hsame⟩ := X4.leave (v := some (.ref y2)) (fun h => by rw [Bd.returns] at h; cases h)
  refine ⟨_, _, _, pre7 _ ?_, hrun, hended, ?_, ⟨_, rfl⟩, hW, hsame.mono (by decide) (by decide)⟩
  · show Steps p.tables e below (T4.setTop (mkF m 33 #[rv r0, iv (own_n cs_.length), iv (own_len cs_), rv y2, iv (own_n cs_.length)] [(.ref y2)])) _
    jvm_step X4.here [X4.here.top, hx, (hb hby d43_33), X4.method', Bd.returns, Value.isRef, FieldType.isReference]
    first | (intro acts; rw [hr _ acts rfl rfl rfl]) | rw [hr _ _ rfl rfl rfl]
    exact Steps.refl _
  · show Q43 Z r0 kc cs_ h0 n0 _ T4.heap _
    rw [e4]
    exact ⟨y2, ky2, rfl, N4, K4, sz_y2, Vf4, (Ey2.keep Kl4)⟩
abbrev D7 (q : Nat) (i : Instr) (k : Nat) : Prop := decode jdk_52_method_21_code q = .ok (i, k)
theorem d7_15 : D7 15 (.iload 6) 2 := by decide +kernel
theorem d7_17 : D7 17 (.sipush 255) 3 := by decide +kernel
theorem d7_20 : D7 20 (.if_icmp .le 6) 3 := by decide +kernel
theorem d7_26 : D7 26 (.aload_n 2) 1 := by decide +kernel
theorem d7_27 : D7 27 (.iload_n 3) 1 := by decide +kernel
theorem d7_28 : D7 28 (.iload 6) 2 := by decide +kernel
theorem d7_30 : D7 30 (.i2b) 1 := by decide +kernel
theorem d7_31 : D7 31 (.bastore) 1 := by decide +kernel
theorem d7_32 : D7 32 (.iinc 1 1) 3 := by decide +kernel
theorem d7_35 : D7 35 (.iinc 3 1) 3 := by decide +kernel
theorem d7_38 : D7 38 (.iinc 5 1) 3 := by decide +kernel
theorem d7_41 : D7 41 (.goto (-38)) 3 := by decide +kernel
theorem d7_3 : D7 3 (.iload 5) 2 := by decide +kernel
theorem d7_5 : D7 5 (.iload 4) 2 := by decide +kernel
theorem d7_7 : D7 7 (.if_icmp .ge 37) 3 := by decide +kernel
theorem d7_10 : D7 10 (.aload_n 0) 1 := by decide +kernel
theorem d7_11 : D7 11 (.iload_n 1) 1 := by decide +kernel
theorem d7_12 : D7 12 (.caload) 1 := by decide +kernel
theorem d7_13 : D7 13 (.istore 6) 2 := by decide +kernel
theorem own_t7 {p : Program} {l : Launch} {e : Env} {s : State} {m : MethodId} {args : Array Value} {below : List Frame} {meth : Method} {c : Code} {T0 : State} {locs : List Loc} {Z : State} {a0 : Array Value} {h0 : Heap} {n0 : Nat} (r0 d : Addr) (i : Nat) (xx yy : Int32) (kc kd : ClassId) (cs_ : List Int32)
    (X0 : Stand p l e ({ frames := 0, cells := 0, slots := 0, locals := 0 } : Room) s m args below meth c T0 locs 0 0) (hx : p.tables.exec = Jvm.exec) (hZ : Z.Warmed39 s.vm) (hw : ∀ d ∈ tables_1, d.before a0 Z = true) (hby : c.code = jdk_52_method_21_code) (hml : c.maxLocals = 7) (hown : s.vm.findClass "java/lang/StringUTF16" = some m.cls) (e0 : T0.heap = h0) (Z0 : n0 ≤ h0.size) (N0 : Fr n0 locs) (V_r0 : Arv Z h0 r0 kc .char (own_len cs_) (own_M cs_) (.int (0 : Int32))) (V_d : Arv Z h0 d kd .byte (own_len cs_) (own_M (own_Lb (cs_.take i))) (.int (0 : Int32))) (g_d : n0 ≤ d) (hne : r0 ≠ d) (hxx : cs_[i]? = some xx) (hyy : cs_[i + 1]? = some yy) (hi : i + 1 < cs_.length) (hl5 : cs_.length ≤ 5) (hlat : ¬ ((255 : Int32) < xx)) :
    ∃ (T' : State) (h' : Heap) (Ls : List Loc), Stand p l e ({ frames := 0, cells := 0, slots := 0, locals := 0 } : Room) s m args below meth c T' Ls 0 0 ∧ T'.heap = h' ∧ Fr n0 Ls ∧ Keep h0 h' [d] ∧ Arv Z h' d kd .byte (own_len cs_) (own_M (own_Lb (cs_.take (i + 1)))) (.int (0 : Int32)) ∧ ∀ t, Steps p.tables e below (T'.setTop (mkF m 15 #[.val (.ref r0), .val (.int (own_n (i + 1))), .val (.ref d), .val (.int (own_n (i + 1))), .val (.int (own_len cs_)), .val (.int (own_n (i + 1))), .val (.int yy)] [])) t → Steps p.tables e below (T0.setTop (mkF m 15 #[.val (.ref r0), .val (.int (own_n i)), .val (.ref d), .val (.int (own_n i)), .val (.int (own_len cs_)), .val (.int (own_n i)), .val (.int xx)] [])) t := by
  have pre0 : ∀ t, Steps p.tables e below (T0.setTop (mkF m 15 #[rv r0, iv (own_n i), rv d, iv (own_n i), iv (own_len cs_), iv (own_n i), iv xx] [])) t → Steps p.tables e below (T0.setTop (mkF m 15 #[rv r0, iv (own_n i), rv d, iv (own_n i), iv (own_len cs_), iv (own_n i), iv xx] [])) t := fun _ k => k
  have pre2 : ∀ t, Sx p e below T0 (mkF m 20 #[rv r0, iv (own_n i), rv d, iv (own_n i), iv (own_len cs_), iv (own_n i), iv xx] [(.int (255 : Int32)), (.int xx)]) t → Steps p.tables e below (T0.setTop (mkF m 15 #[rv r0, iv (own_n i), rv d, iv (own_n i), iv (own_len cs_), iv (own_n i), iv xx] [])) t := by
    intro t kt
    refine pre0 _ ?_
    refine XS.iload X0.here hx rfl (hb hby d7_15) rfl ?_
    refine XS.sipush X0.here hx rfl (hb hby d7_17) ?_
    exact kt
  have hc20_1 : ¬ ((255 : Int32) < xx) := hlat
  have pre3 : ∀ t, Sx p e below T0 (mkF m 31 #[rv r0, iv (own_n i), rv d, iv (own_n i), iv (own_len cs_), iv (own_n i), iv xx] [(.int (xx.toInt8.toInt32)), (.int (own_n i)), (.ref d)]) t → Steps p.tables e below (T0.setTop (mkF m 15 #[rv r0, iv (own_n i), rv d, iv (own_n i), iv (own_len cs_), iv (own_n i), iv xx] [])) t := by
    intro t kt
    refine pre2 _ ?_
    refine XS.icmpYes X0.here hx rfl (pc0 := 20) (pc' := 26) rfl (hb hby d7_20) rfl (flt hc20_1).2.2.2 (by decide) (by decide) ?_
    refine XS.aloadN X0.here hx rfl (hb hby d7_26) rfl rfl ?_
    refine XS.iloadN X0.here hx rfl (hb hby d7_27) rfl ?_
    refine XS.iload X0.here hx rfl (hb hby d7_28) rfl ?_
    refine XS.i2b X0.here hx rfl (hb hby d7_30) rfl ?_
    exact kt
  obtain ⟨cl4, Ar4, q4, S4, M4, H4, G4⟩ := id V_d
  have hin4 : ¬ ((own_n i) < 0 ∨ cl4.slots.size ≤ ((own_n i)).toNatClampNeg) := inb_of S4 ⟨own_nP (by omega), own_nlt (by omega) (by omega)⟩
  obtain ⟨T4, h4, X4, e4, W4, st4⟩ := stB X0 hx hZ e0 Ar4 (j := (own_n i)) hin4 (g := (mkF m 31 #[rv r0, iv (own_n i), rv d, iv (own_n i), iv (own_len cs_), iv (own_n i), iv xx] [(.int (xx.toInt8.toInt32)), (.int (own_n i)), (.ref d)])) rfl rfl (hb hby d7_31)
  have nn4 : nar .byte (xx.toInt8.toInt32) = (xx.toInt8.toInt32) := (own_nb _)
  rw [nn4] at W4
  have V4 : Arv Z h4 d kd .byte (own_len cs_) (own_M (own_Lb (cs_.take i) ++ [(xx.toInt8.toInt32)])) (.int (0 : Int32)) := own_push Ar4 q4 S4 M4 H4 G4 (own_fb nn4) W4 (by rw [own_nN (by omega)]; exact (own_Lbt (by omega)).symm)
  have K4 : Keep h0 h4 [d] := (Keep.refl h0 [d]).wr W4 (Or.inl (List.mem_of_getElem? (i := 0) rfl))
  have N4 := Fr.snoc X4 N0 g_d
  have pre6 : ∀ t, Sx p e below T4 (mkF m 7 #[rv r0, iv (own_n (i + 1)), rv d, iv (own_n (i + 1)), iv (own_len cs_), iv (own_n (i + 1)), iv xx] [(.int (own_len cs_)), (.int (own_n (i + 1)))]) t → Steps p.tables e below (T0.setTop (mkF m 15 #[rv r0, iv (own_n i), rv d, iv (own_n i), iv (own_len cs_), iv (own_n i), iv xx] [])) t := by
    intro t kt
    refine pre3 _ ?_
    refine st4 _ ?_
    show Sx p e below T4 (mkF m 32 #[rv r0, iv (own_n i), rv d, iv (own_n i), iv (own_len cs_), iv (own_n i), iv xx] []) _
    refine XS.iinc X4.here hx rfl (hb hby d7_32) rfl (l' := #[rv r0, iv ((own_n i) + (1 : Int32)), rv d, iv (own_n i), iv (own_len cs_), iv (own_n i), iv xx]) rfl ?_
    refine XS.iinc X4.here hx rfl (hb hby d7_35) rfl (l' := #[rv r0, iv ((own_n i) + (1 : Int32)), rv d, iv ((own_n i) + (1 : Int32)), iv (own_len cs_), iv (own_n i), iv xx]) rfl ?_
    refine XS.iinc X4.here hx rfl (hb hby d7_38) rfl (l' := #[rv r0, iv ((own_n i) + (1 : Int32)), rv d, iv ((own_n i) + (1 : Int32)), iv (own_len cs_), iv ((own_n i) + (1 : Int32)), iv xx]) rfl ?_
    show Sx p e below T4 (mkF m 41 #[rv r0, iv ((own_n i) + (1 : Int32)), rv d, iv ((own_n i) + (1 : Int32)), iv (own_len cs_), iv ((own_n i) + (1 : Int32)), iv xx] []) _
    rw [show ((own_n i) + (1 : Int32)) = (own_n (i + 1)) from (own_nS (by omega))]
    show Sx p e below T4 (mkF m 41 #[rv r0, iv (own_n (i + 1)), rv d, iv (own_n (i + 1)), iv (own_len cs_), iv (own_n (i + 1)), iv xx] []) _
    refine XS.goto X4.here hx rfl (pc0 := 41) (pc' := 3) rfl (hb hby d7_41) (by decide) (by decide) ?_
    refine XS.iload X4.here hx rfl (hb hby d7_3) rfl ?_
    refine XS.iload X4.here hx rfl (hb hby d7_5) rfl ?_
    exact kt
  have hc7_5 : (own_n (i + 1)) < (own_len cs_) := (own_nlt hi (by omega))
  obtain ⟨cl7, Ar7, q7, S7, M7, H7, G7⟩ := id (V_r0.other W4 hne)
  have hin7 : ¬ ((own_n (i + 1)) < 0 ∨ cl7.slots.size ≤ ((own_n (i + 1))).toNatClampNeg) := inb_of S7 ⟨own_nP (by omega), own_nlt hi (by omega)⟩
  have hat7 : cl7.slots[((own_n (i + 1))).toNatClampNeg]? = some (.int yy) := H7.at hin7 (own_Mat hyy (by omega))
  have pre8 : ∀ t, Sx p e below T4 (mkF m 15 #[rv r0, iv (own_n (i + 1)), rv d, iv (own_n (i + 1)), iv (own_len cs_), iv (own_n (i + 1)), iv yy] []) t → Steps p.tables e below (T0.setTop (mkF m 15 #[rv r0, iv (own_n i), rv d, iv (own_n i), iv (own_len cs_), iv (own_n i), iv xx] [])) t := by
    intro t kt
    refine pre6 _ ?_
    refine XS.icmpNo X4.here hx rfl (hb hby d7_7) rfl (tlt hc7_5).2.1 ?_
    refine XS.aloadN X4.here hx rfl (hb hby d7_10) rfl rfl ?_
    refine XS.iloadN X4.here hx rfl (hb hby d7_11) rfl ?_
    refine X4.caload hx (j := (own_n (i + 1))) (v := (.int yy)) (by rw [e4]; exact Ar7.1) (State.isArrayOf_alike hZ.alike Ar7.2.1) Ar7.2.2 hin7 hat7 (g := (mkF m 12 #[rv r0, iv (own_n (i + 1)), rv d, iv (own_n (i + 1)), iv (own_len cs_), iv (own_n (i + 1)), iv xx] [(.int (own_n (i + 1))), (.ref r0)])) rfl rfl (hb hby d7_12) _ ?_
    show Sx p e below T4 (mkF m 13 #[rv r0, iv (own_n (i + 1)), rv d, iv (own_n (i + 1)), iv (own_len cs_), iv (own_n (i + 1)), iv xx] [(.int yy)]) _
    refine XS.istore X4.here hx rfl (hb hby d7_13) rfl (l' := #[rv r0, iv (own_n (i + 1)), rv d, iv (own_n (i + 1)), iv (own_len cs_), iv (own_n (i + 1)), iv yy]) rfl ?_
    exact kt
  exact ⟨T4, h4, _, X4, e4, N4, K4, own_LbS hxx ▸ V4, pre8⟩
theorem d7_0 : D7 0 (.iconst 0) 1 := by decide +kernel
theorem d7_1 : D7 1 (.istore 5) 2 := by decide +kernel
theorem d7_44 : D7 44 (.iload 4) 2 := by decide +kernel
theorem d7_46 : D7 46 (.ireturn) 1 := by decide +kernel
theorem d7_23 : D7 23 (.iload 5) 2 := by decide +kernel
theorem d7_25 : D7 25 (.ireturn) 1 := by decide +kernel
theorem ef_7 (m : MethodId) (x0 : Addr) (x1 : Int32) (x2 : Addr) (x3 : Int32) (x4 : Int32) : entryFrame m #[(.ref x0), (.int x1), (.ref x2), (.int x3), (.int x4)] 7 = mkF m 0 #[.val (.ref x0), .val (.int x1), .val (.ref x2), .val (.int x3), .val (.int x4), .unset, .unset] [] := by first | (simp [entryFrame, mkF, argsToLocals, Value.category]; done) | rfl
def Q7 (Z : State) (r0 : Addr) (r2 : Addr) (kc : ClassId) (kd : ClassId) (cs_ : List Int32) (h0 : Heap) (n0 : Nat) (v : Option Value) (h : Heap) (L : List Loc) : Prop := ∃ r us, v = some (.int r) ∧ Fr n0 L ∧ Keep h0 h [r2] ∧ Arv Z h r2 kd .byte (own_len cs_) us (.int (0 : Int32)) ∧ ((r = own_len cs_ ∧ us = own_M (own_Lb cs_) ∧ ∀ x ∈ cs_, ¬ ((255 : Int32) < x)) ∨ (∃ j x, r = own_n j ∧ cs_[j]? = some x ∧ (255 : Int32) < x))
abbrev R7 : Room := { frames := 0, cells := 0, slots := 0, locals := 0 }
theorem rm7 (l : Launch) (Z : State) (a0 : Array Value) (hw : ∀ d ∈ tables_1, d.before a0 Z = true) (ws : List Jvm.Cond) (r0 : Addr) (r2 : Addr) (kc : ClassId) (kd : ClassId) (cs_ : List Int32) (h0 : Heap) (n0 : Nat) (Z0 : n0 ≤ h0.size) (V_r0 : Arv Z h0 r0 kc .char (own_len cs_) (own_M cs_) (.int (0 : Int32))) (V_r2 : Arv Z h0 r2 kd .byte (own_len cs_) (own_M []) (.int (0 : Int32))) (g_r2 : n0 ≤ r2) (hne : r0 ≠ r2) (hl5 : cs_.length ≤ 5) (hpos : 0 < cs_.length) :
    MetFree l Y18 (head1 (Jvm.Cond.code Y18 jdk_52_method_21_code 7 (some .int) :: ws) R7) (fun a U => a = #[(.ref r0), (.int (0 : Int32)), (.ref r2), (.int (0 : Int32)), (.int (own_len cs_))] ∧ Z.Warmed39 U.vm ∧ U.heap = h0) (fun _ _ _ _ _ => True) (fun _ U o U' => ∃ v L, o = .returned v ∧ Q7 Z r0 r2 kc kd cs_ h0 n0 v U'.heap L ∧ FrameEnd U o U' L R7.cells R7.slots) := by
  refine own_start (C := "java/lang/StringUTF16") (Q := Q7 Z r0 r2 kc kd cs_ h0 n0) rfl (plainFor_of_name pn7) ?_
  intro p e s m below meth c s₁ g₀ hg₀ Bd hx hby hml hZ hown hnm X0 e0
  have N0 := Fr.nil n0
  have pre0 : ∀ t, Sx p e below s₁ (mkF m 0 #[rv r0, iv (0 : Int32), rv r2, iv (0 : Int32), iv (own_len cs_), .unset, .unset] []) t → Sx p e below s₁ g₀ t := fun t k => by subst hg₀; exact castTop (ef_7 m r0 (0 : Int32) r2 (0 : Int32) (own_len cs_)) k
  have pre2 : ∀ t, Sx p e below s₁ (mkF m 7 #[rv r0, iv (0 : Int32), rv r2, iv (0 : Int32), iv (own_len cs_), iv (0 : Int32), .unset] [(.int (own_len cs_)), (.int (0 : Int32))]) t → Sx p e below s₁ g₀ t := by
    intro t kt
    refine pre0 _ ?_
    refine XS.iconst X0.here hx rfl (hb hby d7_0) ?_
    refine XS.istore X0.here hx rfl (hb hby d7_1) rfl (l' := #[rv r0, iv (0 : Int32), rv r2, iv (0 : Int32), iv (own_len cs_), iv (0 : Int32), .unset]) rfl ?_
    refine XS.iload X0.here hx rfl (hb hby d7_3) rfl ?_
    refine XS.iload X0.here hx rfl (hb hby d7_5) rfl ?_
    exact kt
  have hc7_1 : (0 : Int32) < (own_len cs_) := (own_pos hpos (by omega))
  obtain ⟨cl3, Ar3, q3, S3, M3, H3, G3⟩ := id V_r0
  have hin3 : ¬ ((0 : Int32) < 0 ∨ cl3.slots.size ≤ ((0 : Int32)).toNatClampNeg) := inb_of S3 ⟨by decide, own_pos hpos (by omega)⟩
  have hat3 : cl3.slots[((0 : Int32)).toNatClampNeg]? = some (.int (cs_.getD 0 (0 : Int32))) := H3.at hin3 (own_Mat0 (own_get hpos))
  have pre4 : ∀ t, Sx p e below s₁ (mkF m 15 #[rv r0, iv (0 : Int32), rv r2, iv (0 : Int32), iv (own_len cs_), iv (0 : Int32), iv (cs_.getD 0 (0 : Int32))] []) t → Sx p e below s₁ g₀ t := by
    intro t kt
    refine pre2 _ ?_
    refine XS.icmpNo X0.here hx rfl (hb hby d7_7) rfl (tlt hc7_1).2.1 ?_
    refine XS.aloadN X0.here hx rfl (hb hby d7_10) rfl rfl ?_
    refine XS.iloadN X0.here hx rfl (hb hby d7_11) rfl ?_
    refine X0.caload hx (j := (0 : Int32)) (v := (.int (cs_.getD 0 (0 : Int32)))) (by rw [e0]; exact Ar3.1) (State.isArrayOf_alike hZ.alike Ar3.2.1) Ar3.2.2 hin3 hat3 (g := (mkF m 12 #[rv r0, iv (0 : Int32), rv r2, iv (0 : Int32), iv (own_len cs_), iv (0 : Int32), .unset] [(.int (0 : Int32)), (.ref r0)])) rfl rfl (hb hby d7_12) _ ?_
    show Sx p e below s₁ (mkF m 13 #[rv r0, iv (0 : Int32), rv r2, iv (0 : Int32), iv (own_len cs_), iv (0 : Int32), .unset] [(.int (cs_.getD 0 (0 : Int32)))]) _
    refine XS.istore X0.here hx rfl (hb hby d7_13) rfl (l' := #[rv r0, iv (0 : Int32), rv r2, iv (0 : Int32), iv (own_len cs_), iv (0 : Int32), iv (cs_.getD 0 (0 : Int32))]) rfl ?_
    exact kt
  obtain ⟨j, hj1, hj2, hj3⟩ := own_first (fun x => (255 : Int32) < x) cs_
  rcases hj3 with hj3 | ⟨x, hx1, hx2⟩
  · have hjl : j = cs_.length := hj3
    obtain ⟨T5, h5, L5, ⟨X5, e5, N5, zz5, Va5, Vb5⟩, Kl5, st5⟩ := own_iter (tb := p.tables) (e := e) (below := below) (F := fun i => mkF m 15 #[.val (.ref r0), .val (.int (own_n i)), .val (.ref r2), .val (.int (own_n i)), .val (.int (own_len cs_)), .val (.int (own_n i)), .val (.int (cs_.getD i (0 : Int32)))] []) (Inv := fun i T h Ls => Stand p l e R7 s m #[(.ref r0), (.int (0 : Int32)), (.ref r2), (.int (0 : Int32)), (.int (own_len cs_))] below meth c T Ls 0 0 ∧ T.heap = h ∧ Fr n0 Ls ∧ n0 ≤ h.size ∧ Arv Z h r0 kc .char (own_len cs_) (own_M cs_) (.int (0 : Int32)) ∧ Arv Z h r2 kd .byte (own_len cs_) (own_M (own_Lb (cs_.take i))) (.int (0 : Int32))) (ws := [r2]) (n := cs_.length - 1) (fun i T h Ls hi ⟨X, e1, N1, z1, Va, Vb⟩ => by
        obtain ⟨T', h', L', X', e', N', K', V', s'⟩ := own_t7 r0 r2 i (cs_.getD i (0 : Int32)) (cs_.getD (i + 1) (0 : Int32)) kc kd cs_  X hx hZ hw hby hml hown e1 z1 N1 Va Vb g_r2 hne (own_get (by omega)) (own_get (by omega)) (by omega) hl5 (hj2 i _ (by omega) (own_get (by omega))) 
        exact ⟨T', h', L', ⟨X', e', N', Nat.le_trans z1 K'.1, Va.keep K' (ninS hne nin0), V'⟩, K', s'⟩) (cs_.length - 1) 0 s₁ h0 _ (Nat.zero_add _) ⟨X0, e0, N0, Nat.le_trans Z0 (Keep.refl h0 [r2]).1, V_r0, V_r2⟩
    have K5 : Keep h0 h5 [r2] := (Keep.refl h0 [r2]).trans Kl5 (allS (Or.inl (List.mem_of_getElem? (i := 0) rfl)) all0)
    have pre7 : ∀ t, Sx p e below T5 (mkF m 20 #[rv r0, iv (own_n (cs_.length - 1)), rv r2, iv (own_n (cs_.length - 1)), iv (own_len cs_), iv (own_n (cs_.length - 1)), iv (cs_.getD (cs_.length - 1) (0 : Int32))] [(.int (255 : Int32)), (.int (cs_.getD (cs_.length - 1) (0 : Int32)))]) t → Sx p e below s₁ g₀ t := by
      intro t kt
      refine pre4 _ ?_
      refine st5 _ ?_
      show Sx p e below T5 (mkF m 15 #[rv r0, iv (own_n (cs_.length - 1)), rv r2, iv (own_n (cs_.length - 1)), iv (own_len cs_), iv (own_n (cs_.length - 1)), iv (cs_.getD (cs_.length - 1) (0 : Int32))] []) _
      refine XS.iload X5.here hx rfl (hb hby d7_15) rfl ?_
      refine XS.sipush X5.here hx rfl (hb hby d7_17) ?_
      exact kt
    have hc20_6 : ¬ ((255 : Int32) < (cs_.getD (cs_.length - 1) (0 : Int32))) := (hj2 (cs_.length - 1) _ (by omega) (own_get (by omega)))
    have pre8 : ∀ t, Sx p e below T5 (mkF m 31 #[rv r0, iv (own_n (cs_.length - 1)), rv r2, iv (own_n (cs_.length - 1)), iv (own_len cs_), iv (own_n (cs_.length - 1)), iv (cs_.getD (cs_.length - 1) (0 : Int32))] [(.int ((cs_.getD (cs_.length - 1) (0 : Int32)).toInt8.toInt32)), (.int (own_n (cs_.length - 1))), (.ref r2)]) t → Sx p e below s₁ g₀ t := by
      intro t kt
      refine pre7 _ ?_
      refine XS.icmpYes X5.here hx rfl (pc0 := 20) (pc' := 26) rfl (hb hby d7_20) rfl (flt hc20_6).2.2.2 (by decide) (by decide) ?_
      refine XS.aloadN X5.here hx rfl (hb hby d7_26) rfl rfl ?_
      refine XS.iloadN X5.here hx rfl (hb hby d7_27) rfl ?_
      refine XS.iload X5.here hx rfl (hb hby d7_28) rfl ?_
      refine XS.i2b X5.here hx rfl (hb hby d7_30) rfl ?_
      exact kt
    obtain ⟨cl9, Ar9, q9, S9, M9, H9, G9⟩ := id Vb5
    have hin9 : ¬ ((own_n (cs_.length - 1)) < 0 ∨ cl9.slots.size ≤ ((own_n (cs_.length - 1))).toNatClampNeg) := inb_of S9 ⟨own_nP (by omega), own_nlt (by omega) (by omega)⟩
    obtain ⟨T9, h9, X9, e9, W9, st9⟩ := stB X5 hx hZ e5 Ar9 (j := (own_n (cs_.length - 1))) hin9 (g := (mkF m 31 #[rv r0, iv (own_n (cs_.length - 1)), rv r2, iv (own_n (cs_.length - 1)), iv (own_len cs_), iv (own_n (cs_.length - 1)), iv (cs_.getD (cs_.length - 1) (0 : Int32))] [(.int ((cs_.getD (cs_.length - 1) (0 : Int32)).toInt8.toInt32)), (.int (own_n (cs_.length - 1))), (.ref r2)])) rfl rfl (hb hby d7_31)
    have nn9 : nar .byte ((cs_.getD (cs_.length - 1) (0 : Int32)).toInt8.toInt32) = ((cs_.getD (cs_.length - 1) (0 : Int32)).toInt8.toInt32) := (own_nb _)
    rw [nn9] at W9
    have V9 : Arv Z h9 r2 kd .byte (own_len cs_) (own_M (own_Lb (cs_.take (cs_.length - 1)) ++ [((cs_.getD (cs_.length - 1) (0 : Int32)).toInt8.toInt32)])) (.int (0 : Int32)) := own_push Ar9 q9 S9 M9 H9 G9 (own_fb nn9) W9 (by rw [own_nN (by omega)]; exact (own_Lbt (by omega)).symm)
    have K9 : Keep h0 h9 [r2] := K5.wr W9 (Or.inl (List.mem_of_getElem? (i := 0) rfl))
    have N9 := Fr.snoc X9 N5 g_r2
    have pre11 : ∀ t, Sx p e below T9 (mkF m 7 #[rv r0, iv (own_n cs_.length), rv r2, iv (own_n cs_.length), iv (own_len cs_), iv (own_n cs_.length), iv (cs_.getD (cs_.length - 1) (0 : Int32))] [(.int (own_len cs_)), (.int (own_n cs_.length))]) t → Sx p e below s₁ g₀ t := by
      intro t kt
      refine pre8 _ ?_
      refine st9 _ ?_
      show Sx p e below T9 (mkF m 32 #[rv r0, iv (own_n (cs_.length - 1)), rv r2, iv (own_n (cs_.length - 1)), iv (own_len cs_), iv (own_n (cs_.length - 1)), iv (cs_.getD (cs_.length - 1) (0 : Int32))] []) _
      refine XS.iinc X9.here hx rfl (hb hby d7_32) rfl (l' := #[rv r0, iv ((own_n (cs_.length - 1)) + (1 : Int32)), rv r2, iv (own_n (cs_.length - 1)), iv (own_len cs_), iv (own_n (cs_.length - 1)), iv (cs_.getD (cs_.length - 1) (0 : Int32))]) rfl ?_
      refine XS.iinc X9.here hx rfl (hb hby d7_35) rfl (l' := #[rv r0, iv ((own_n (cs_.length - 1)) + (1 : Int32)), rv r2, iv ((own_n (cs_.length - 1)) + (1 : Int32)), iv (own_len cs_), iv (own_n (cs_.length - 1)), iv (cs_.getD (cs_.length - 1) (0 : Int32))]) rfl ?_
      refine XS.iinc X9.here hx rfl (hb hby d7_38) rfl (l' := #[rv r0, iv ((own_n (cs_.length - 1)) + (1 : Int32)), rv r2, iv ((own_n (cs_.length - 1)) + (1 : Int32)), iv (own_len cs_), iv ((own_n (cs_.length - 1)) + (1 : Int32)), iv (cs_.getD (cs_.length - 1) (0 : Int32))]) rfl ?_
      show Sx p e below T9 (mkF m 41 #[rv r0, iv ((own_n (cs_.length - 1)) + (1 : Int32)), rv r2, iv ((own_n (cs_.length - 1)) + (1 : Int32)), iv (own_len cs_), iv ((own_n (cs_.length - 1)) + (1 : Int32)), iv (cs_.getD (cs_.length - 1) (0 : Int32))] []) _
      rw [show ((own_n (cs_.length - 1)) + (1 : Int32)) = (own_n (cs_.length - 1 + 1)) from (own_nS (by omega))]
      show Sx p e below T9 (mkF m 41 #[rv r0, iv (own_n (cs_.length - 1 + 1)), rv r2, iv (own_n (cs_.length - 1 + 1)), iv (own_len cs_), iv (own_n (cs_.length - 1 + 1)), iv (cs_.getD (cs_.length - 1) (0 : Int32))] []) _
      rw [show (own_n (cs_.length - 1 + 1)) = (own_n cs_.length) from (by rw [Nat.sub_add_cancel hpos])]
      show Sx p e below T9 (mkF m 41 #[rv r0, iv (own_n cs_.length), rv r2, iv (own_n cs_.length), iv (own_len cs_), iv (own_n cs_.length), iv (cs_.getD (cs_.length - 1) (0 : Int32))] []) _
      refine XS.goto X9.here hx rfl (pc0 := 41) (pc' := 3) rfl (hb hby d7_41) (by decide) (by decide) ?_
      refine XS.iload X9.here hx rfl (hb hby d7_3) rfl ?_
      refine XS.iload X9.here hx rfl (hb hby d7_5) rfl ?_
      exact kt
    have hc7_10 : ¬ ((own_n cs_.length) < (own_len cs_)) := (own_nge (Nat.le_refl _) (by omega))
    have pre12 : ∀ t, Sx p e below T9 (mkF m 46 #[rv r0, iv (own_n cs_.length), rv r2, iv (own_n cs_.length), iv (own_len cs_), iv (own_n cs_.length), iv (cs_.getD (cs_.length - 1) (0 : Int32))] [(.int (own_len cs_))]) t → Sx p e below s₁ g₀ t := by
      intro t kt
      refine pre11 _ ?_
      refine XS.icmpYes X9.here hx rfl (pc0 := 7) (pc' := 44) rfl (hb hby d7_7) rfl (flt hc7_10).2.1 (by decide) (by decide) ?_
      refine XS.iload X9.here hx rfl (hb hby d7_44) rfl ?_
      exact kt
    obtain ⟨fs, hr, hrun, hended, hW, hsame⟩ := X9.leave (v := some (.int (own_len cs_))) (fun h => by rw [Bd.returns] at h; cases h)
    refine ⟨_, _, _, pre12 _ ?_, hrun, hended, ?_, ⟨_, rfl⟩, hW, hsame.mono (by decide) (by decide)⟩
    · show Steps p.tables e below (T9.setTop (mkF m 46 #[rv r0, iv (own_n cs_.length), rv r2, iv (own_n cs_.length), iv (own_len cs_), iv (own_n cs_.length), iv (cs_.getD (cs_.length - 1) (0 : Int32))] [(.int (own_len cs_))])) _
      exact retI X9 hx Bd.returns (hb hby d7_46) hr
    · show Q7 Z r0 r2 kc kd cs_ h0 n0 _ T9.heap _
      rw [e9]
      exact ⟨_, _, rfl, N9, K9, V9, Or.inl ⟨rfl, own_Lbf hpos, own_all_of (fun i x h1 h2 => hj2 i x (by omega) h2)⟩⟩
  · have hjl : j < cs_.length := (List.getElem?_eq_some_iff.mp hx1).1
    obtain ⟨T13, h13, L13, ⟨X13, e13, N13, zz13, Va13, Vb13⟩, Kl13, st13⟩ := own_iter (tb := p.tables) (e := e) (below := below) (F := fun i => mkF m 15 #[.val (.ref r0), .val (.int (own_n i)), .val (.ref r2), .val (.int (own_n i)), .val (.int (own_len cs_)), .val (.int (own_n i)), .val (.int (cs_.getD i (0 : Int32)))] []) (Inv := fun i T h Ls => Stand p l e R7 s m #[(.ref r0), (.int (0 : Int32)), (.ref r2), (.int (0 : Int32)), (.int (own_len cs_))] below meth c T Ls 0 0 ∧ T.heap = h ∧ Fr n0 Ls ∧ n0 ≤ h.size ∧ Arv Z h r0 kc .char (own_len cs_) (own_M cs_) (.int (0 : Int32)) ∧ Arv Z h r2 kd .byte (own_len cs_) (own_M (own_Lb (cs_.take i))) (.int (0 : Int32))) (ws := [r2]) (n := j) (fun i T h Ls hi ⟨X, e1, N1, z1, Va, Vb⟩ => by
        obtain ⟨T', h', L', X', e', N', K', V', s'⟩ := own_t7 r0 r2 i (cs_.getD i (0 : Int32)) (cs_.getD (i + 1) (0 : Int32)) kc kd cs_  X hx hZ hw hby hml hown e1 z1 N1 Va Vb g_r2 hne (own_get (by omega)) (own_get (by omega)) (by omega) hl5 (hj2 i _ (by omega) (own_get (by omega))) 
        exact ⟨T', h', L', ⟨X', e', N', Nat.le_trans z1 K'.1, Va.keep K' (ninS hne nin0), V'⟩, K', s'⟩) (j) 0 s₁ h0 _ (Nat.zero_add _) ⟨X0, e0, N0, Nat.le_trans Z0 (Keep.refl h0 [r2]).1, V_r0, V_r2⟩
    have K13 : Keep h0 h13 [r2] := (Keep.refl h0 [r2]).trans Kl13 (allS (Or.inl (List.mem_of_getElem? (i := 0) rfl)) all0)
    have pre15 : ∀ t, Sx p e below T13 (mkF m 20 #[rv r0, iv (own_n (j)), rv r2, iv (own_n (j)), iv (own_len cs_), iv (own_n (j)), iv (cs_.getD (j) (0 : Int32))] [(.int (255 : Int32)), (.int (cs_.getD (j) (0 : Int32)))]) t → Sx p e below s₁ g₀ t := by
      intro t kt
      refine pre4 _ ?_
      refine st13 _ ?_
      show Sx p e below T13 (mkF m 15 #[rv r0, iv (own_n (j)), rv r2, iv (own_n (j)), iv (own_len cs_), iv (own_n (j)), iv (cs_.getD (j) (0 : Int32))] []) _
      refine XS.iload X13.here hx rfl (hb hby d7_15) rfl ?_
      refine XS.sipush X13.here hx rfl (hb hby d7_17) ?_
      exact kt
    have hc20_14 : (255 : Int32) < (cs_.getD (j) (0 : Int32)) := (by rw [own_getx hx1]; exact hx2)
    have pre16 : ∀ t, Sx p e below T13 (mkF m 25 #[rv r0, iv (own_n (j)), rv r2, iv (own_n (j)), iv (own_len cs_), iv (own_n (j)), iv (cs_.getD (j) (0 : Int32))] [(.int (own_n (j)))]) t → Sx p e below s₁ g₀ t := by
      intro t kt
      refine pre15 _ ?_
      refine XS.icmpNo X13.here hx rfl (hb hby d7_20) rfl (tlt hc20_14).2.2.2 ?_
      refine XS.iload X13.here hx rfl (hb hby d7_23) rfl ?_
      exact kt
    obtain ⟨fs, hr, hrun, hended, hW, hsame⟩ := X13.leave (v := some (.int (own_n (j)))) (fun h => by rw [Bd.returns] at h; cases h)
    refine ⟨_, _, _, pre16 _ ?_, hrun, hended, ?_, ⟨_, rfl⟩, hW, hsame.mono (by decide) (by decide)⟩
    · show Steps p.tables e below (T13.setTop (mkF m 25 #[rv r0, iv (own_n (j)), rv r2, iv (own_n (j)), iv (own_len cs_), iv (own_n (j)), iv (cs_.getD (j) (0 : Int32))] [(.int (own_n (j)))])) _
      exact retI X13 hx Bd.returns (hb hby d7_25) hr
    · show Q7 Z r0 r2 kc kd cs_ h0 n0 _ T13.heap _
      rw [e13]
      exact ⟨_, _, rfl, N13, K13, Vb13, Or.inr ⟨j, x, rfl, hx1, hx2⟩⟩
abbrev D55 (q : Nat) (i : Instr) (k : Nat) : Prop := decode jdk_52_method_22_code q = .ok (i, k)
theorem d55_24 : D55 24 (.iload 6) 2 := by decide +kernel
theorem d55_26 : D55 26 (.sipush 255) 3 := by decide +kernel
theorem d55_29 : D55 29 (.if_icmp .le 6) 3 := by decide +kernel
theorem d55_35 : D55 35 (.aload_n 2) 1 := by decide +kernel
theorem d55_36 : D55 36 (.iload_n 3) 1 := by decide +kernel
theorem d55_37 : D55 37 (.iload 6) 2 := by decide +kernel
theorem d55_39 : D55 39 (.i2b) 1 := by decide +kernel
theorem d55_40 : D55 40 (.bastore) 1 := by decide +kernel
theorem d55_41 : D55 41 (.iinc 1 1) 3 := by decide +kernel
theorem d55_44 : D55 44 (.iinc 3 1) 3 := by decide +kernel
theorem d55_47 : D55 47 (.iinc 5 1) 3 := by decide +kernel
theorem d55_50 : D55 50 (.goto (-40)) 3 := by decide +kernel
theorem d55_10 : D55 10 (.iload 5) 2 := by decide +kernel
theorem d55_12 : D55 12 (.iload 4) 2 := by decide +kernel
theorem d55_14 : D55 14 (.if_icmp .ge 39) 3 := by decide +kernel
theorem d55_17 : D55 17 (.aload_n 0) 1 := by decide +kernel
theorem d55_18 : D55 18 (.iload_n 1) 1 := by decide +kernel
theorem pd15 : parseMethodDescriptor "([BI)C" = some ⟨[(.array .byte), .int], some .char⟩ := by decide +kernel
theorem d55_19 : D55 19 (.invokestatic 71) 3 := by decide +kernel
theorem d55_22 : D55 22 (.istore 6) 2 := by decide +kernel
theorem own_t55 {p : Program} {l : Launch} {e : Env} {s : State} {m : MethodId} {args : Array Value} {below : List Frame} {meth : Method} {c : Code} {T0 : State} {locs : List Loc} {Z : State} {a0 : Array Value} {h0 : Heap} {n0 : Nat} (r0 d : Addr) (i : Nat) (xx yy : Int32) (kc kd : ClassId) (cs_ : List Int32) (ts_ : List Int32) (f : Nat)
    (X0 : Stand p l e ({ frames := 4, cells := 0, slots := 0, locals := 90 } : Room) s m args below meth c T0 locs 0 0) (hx : p.tables.exec = Jvm.exec) (hZ : Z.Warmed39 s.vm) (hw : ∀ d ∈ tables_1, d.before a0 Z = true) (hby : c.code = jdk_52_method_22_code) (hml : c.maxLocals = 7) (hown : s.vm.findClass "java/lang/StringUTF16" = some m.cls) (e0 : T0.heap = h0) (Z0 : n0 ≤ h0.size) (N0 : Fr n0 locs) (V_r0 : Arv Z h0 r0 kc .byte (own_len (own_U ts_)) (own_M (own_U ts_)) (.int (0 : Int32))) (V_d : Arv Z h0 d kd .byte (own_len cs_) (own_M (own_Lb (cs_.take i))) (.int (0 : Int32))) (g_d : n0 ≤ d) (hne : r0 ≠ d) (hxx : cs_[i]? = some xx) (hyy : cs_[i + 1]? = some yy) (hi : i + 1 < cs_.length) (hl5 : cs_.length ≤ 5) (hlat : ¬ ((255 : Int32) < xx)) (hss : ∀ j x, cs_[j]? = some x → ts_[f + j]? = some x ∧ own_ch x) (hts : ts_.length ≤ 5) (hfl : f + cs_.length ≤ ts_.length) (O0 : Old Z n0 h0) (S_ad : Sta Z Z.heap "java/lang/StringUTF16" "$assertionsDisabled" "Z" (.int (1 : Int32))) (S_hi : Sta Z Z.heap "java/lang/StringUTF16" "HI_BYTE_SHIFT" "I" (.int (0 : Int32))) (S_lo : Sta Z Z.heap "java/lang/StringUTF16" "LO_BYTE_SHIFT" "I" (.int (8 : Int32))) :
    ∃ (T' : State) (h' : Heap) (Ls : List Loc), Stand p l e ({ frames := 4, cells := 0, slots := 0, locals := 90 } : Room) s m args below meth c T' Ls 0 0 ∧ T'.heap = h' ∧ Fr n0 Ls ∧ Keep h0 h' [d] ∧ Arv Z h' d kd .byte (own_len cs_) (own_M (own_Lb (cs_.take (i + 1)))) (.int (0 : Int32)) ∧ ∀ t, Steps p.tables e below (T'.setTop (mkF m 24 #[.val (.ref r0), .val (.int (own_n (f + (i + 1)))), .val (.ref d), .val (.int (own_n (i + 1))), .val (.int (own_len cs_)), .val (.int (own_n (i + 1))), .val (.int yy)] [])) t → Steps p.tables e below (T0.setTop (mkF m 24 #[.val (.ref r0), .val (.int (own_n (f + i))), .val (.ref d), .val (.int (own_n i)), .val (.int (own_len cs_)), .val (.int (own_n i)), .val (.int xx)] [])) t := by
  have pre0 : ∀ t, Steps p.tables e below (T0.setTop (mkF m 24 #[rv r0, iv (own_n (f + i)), rv d, iv (own_n i), iv (own_len cs_), iv (own_n i), iv xx] [])) t → Steps p.tables e below (T0.setTop (mkF m 24 #[rv r0, iv (own_n (f + i)), rv d, iv (own_n i), iv (own_len cs_), iv (own_n i), iv xx] [])) t := fun _ k => k
  have pre2 : ∀ t, Sx p e below T0 (mkF m 29 #[rv r0, iv (own_n (f + i)), rv d, iv (own_n i), iv (own_len cs_), iv (own_n i), iv xx] [(.int (255 : Int32)), (.int xx)]) t → Steps p.tables e below (T0.setTop (mkF m 24 #[rv r0, iv (own_n (f + i)), rv d, iv (own_n i), iv (own_len cs_), iv (own_n i), iv xx] [])) t := by
    intro t kt
    refine pre0 _ ?_
    refine XS.iload X0.here hx rfl (hb hby d55_24) rfl ?_
    refine XS.sipush X0.here hx rfl (hb hby d55_26) ?_
    exact kt
  have hc29_1 : ¬ ((255 : Int32) < xx) := hlat
  have pre3 : ∀ t, Sx p e below T0 (mkF m 40 #[rv r0, iv (own_n (f + i)), rv d, iv (own_n i), iv (own_len cs_), iv (own_n i), iv xx] [(.int (xx.toInt8.toInt32)), (.int (own_n i)), (.ref d)]) t → Steps p.tables e below (T0.setTop (mkF m 24 #[rv r0, iv (own_n (f + i)), rv d, iv (own_n i), iv (own_len cs_), iv (own_n i), iv xx] [])) t := by
    intro t kt
    refine pre2 _ ?_
    refine XS.icmpYes X0.here hx rfl (pc0 := 29) (pc' := 35) rfl (hb hby d55_29) rfl (flt hc29_1).2.2.2 (by decide) (by decide) ?_
    refine XS.aloadN X0.here hx rfl (hb hby d55_35) rfl rfl ?_
    refine XS.iloadN X0.here hx rfl (hb hby d55_36) rfl ?_
    refine XS.iload X0.here hx rfl (hb hby d55_37) rfl ?_
    refine XS.i2b X0.here hx rfl (hb hby d55_39) rfl ?_
    exact kt
  obtain ⟨cl4, Ar4, q4, S4, M4, H4, G4⟩ := id V_d
  have hin4 : ¬ ((own_n i) < 0 ∨ cl4.slots.size ≤ ((own_n i)).toNatClampNeg) := inb_of S4 ⟨own_nP (by omega), own_nlt (by omega) (by omega)⟩
  obtain ⟨T4, h4, X4, e4, W4, st4⟩ := stB X0 hx hZ e0 Ar4 (j := (own_n i)) hin4 (g := (mkF m 40 #[rv r0, iv (own_n (f + i)), rv d, iv (own_n i), iv (own_len cs_), iv (own_n i), iv xx] [(.int (xx.toInt8.toInt32)), (.int (own_n i)), (.ref d)])) rfl rfl (hb hby d55_40)
  have nn4 : nar .byte (xx.toInt8.toInt32) = (xx.toInt8.toInt32) := (own_nb _)
  rw [nn4] at W4
  have V4 : Arv Z h4 d kd .byte (own_len cs_) (own_M (own_Lb (cs_.take i) ++ [(xx.toInt8.toInt32)])) (.int (0 : Int32)) := own_push Ar4 q4 S4 M4 H4 G4 (own_fb nn4) W4 (by rw [own_nN (by omega)]; exact (own_Lbt (by omega)).symm)
  have K4 : Keep h0 h4 [d] := (Keep.refl h0 [d]).wr W4 (Or.inl (List.mem_of_getElem? (i := 0) rfl))
  have N4 := Fr.snoc X4 N0 g_d
  have pre6 : ∀ t, Sx p e below T4 (mkF m 14 #[rv r0, iv (own_n (f + (i + 1))), rv d, iv (own_n (i + 1)), iv (own_len cs_), iv (own_n (i + 1)), iv xx] [(.int (own_len cs_)), (.int (own_n (i + 1)))]) t → Steps p.tables e below (T0.setTop (mkF m 24 #[rv r0, iv (own_n (f + i)), rv d, iv (own_n i), iv (own_len cs_), iv (own_n i), iv xx] [])) t := by
    intro t kt
    refine pre3 _ ?_
    refine st4 _ ?_
    show Sx p e below T4 (mkF m 41 #[rv r0, iv (own_n (f + i)), rv d, iv (own_n i), iv (own_len cs_), iv (own_n i), iv xx] []) _
    refine XS.iinc X4.here hx rfl (hb hby d55_41) rfl (l' := #[rv r0, iv ((own_n (f + i)) + (1 : Int32)), rv d, iv (own_n i), iv (own_len cs_), iv (own_n i), iv xx]) rfl ?_
    refine XS.iinc X4.here hx rfl (hb hby d55_44) rfl (l' := #[rv r0, iv ((own_n (f + i)) + (1 : Int32)), rv d, iv ((own_n i) + (1 : Int32)), iv (own_len cs_), iv (own_n i), iv xx]) rfl ?_
    refine XS.iinc X4.here hx rfl (hb hby d55_47) rfl (l' := #[rv r0, iv ((own_n (f + i)) + (1 : Int32)), rv d, iv ((own_n i) + (1 : Int32)), iv (own_len cs_), iv ((own_n i) + (1 : Int32)), iv xx]) rfl ?_
    show Sx p e below T4 (mkF m 50 #[rv r0, iv ((own_n (f + i)) + (1 : Int32)), rv d, iv ((own_n i) + (1 : Int32)), iv (own_len cs_), iv ((own_n i) + (1 : Int32)), iv xx] []) _
    rw [show ((own_n (f + i)) + (1 : Int32)) = (own_n (f + (i + 1))) from (own_nS (by omega))]
    show Sx p e below T4 (mkF m 50 #[rv r0, iv (own_n (f + (i + 1))), rv d, iv ((own_n i) + (1 : Int32)), iv (own_len cs_), iv ((own_n i) + (1 : Int32)), iv xx] []) _
    rw [show ((own_n i) + (1 : Int32)) = (own_n (i + 1)) from (own_nS (by omega))]
    show Sx p e below T4 (mkF m 50 #[rv r0, iv (own_n (f + (i + 1))), rv d, iv (own_n (i + 1)), iv (own_len cs_), iv (own_n (i + 1)), iv xx] []) _
    refine XS.goto X4.here hx rfl (pc0 := 50) (pc' := 10) rfl (hb hby d55_50) (by decide) (by decide) ?_
    refine XS.iload X4.here hx rfl (hb hby d55_10) rfl ?_
    refine XS.iload X4.here hx rfl (hb hby d55_12) rfl ?_
    exact kt
  have hc14_5 : (own_n (i + 1)) < (own_len cs_) := (own_nlt hi (by omega))
  have pre7 : ∀ t, Sx p e below T4 (mkF m 19 #[rv r0, iv (own_n (f + (i + 1))), rv d, iv (own_n (i + 1)), iv (own_len cs_), iv (own_n (i + 1)), iv xx] [(.int (own_n (f + (i + 1)))), (.ref r0)]) t → Steps p.tables e below (T0.setTop (mkF m 24 #[rv r0, iv (own_n (f + i)), rv d, iv (own_n i), iv (own_len cs_), iv (own_n i), iv xx] [])) t := by
    intro t kt
    refine pre6 _ ?_
    refine XS.icmpNo X4.here hx rfl (hb hby d55_14) rfl (tlt hc14_5).2.1 ?_
    refine XS.aloadN X4.here hx rfl (hb hby d55_17) rfl rfl ?_
    refine XS.iloadN X4.here hx rfl (hb hby d55_18) rfl ?_
    exact kt
  obtain ⟨_, T8, Lc8, X8, hQ8, st8⟩ := own_cS X4 hx hZ (y := Y15) hown (own_w hw 217 rfl) (own_w hw 218 rfl) (own_w hw 27 rfl) (own_w hw 219 rfl) (by decide) (W := 0) (rm47 l Z a0 hw [] r0 (own_n (f + (i + 1))) kc (own_len (own_U ts_)) (own_M (own_U ts_)) yy (2 * (f + (i + 1))) h4 n0 (Nat.le_trans Z0 K4.1) (V_r0.other W4 hne) (own_atU (hss _ _ hyy).1 (by omega) (hss _ _ hyy).2) (O0.keep K4 (allS g_d all0)) S_ad S_hi S_lo) (by decide) (by decide) (g := (mkF m 19 #[rv r0, iv (own_n (f + (i + 1))), rv d, iv (own_n (i + 1)), iv (own_len cs_), iv (own_n (i + 1)), iv xx] [(.int (own_n (f + (i + 1)))), (.ref r0)])) rfl hml.symm (argsL := [(.ref r0), (.int (own_n (f + (i + 1))))]) (rest := []) (lenOf pd15 rfl) rfl (Nat.le_of_eq rfl) (hb hby d55_19) rfl e4 (by decide) (by decide)
  obtain ⟨rfl, N8q, hh8⟩ := hQ8
  have N8 := Fr.app N4 N8q
  have pre9 : ∀ t, Sx p e below T8 (mkF m 24 #[rv r0, iv (own_n (f + (i + 1))), rv d, iv (own_n (i + 1)), iv (own_len cs_), iv (own_n (i + 1)), iv yy] []) t → Steps p.tables e below (T0.setTop (mkF m 24 #[rv r0, iv (own_n (f + i)), rv d, iv (own_n i), iv (own_len cs_), iv (own_n i), iv xx] [])) t := by
    intro t kt
    refine pre7 _ ?_
    refine st8 _ ?_
    show Sx p e below T8 (mkF m 22 #[rv r0, iv (own_n (f + (i + 1))), rv d, iv (own_n (i + 1)), iv (own_len cs_), iv (own_n (i + 1)), iv xx] [(.int yy)]) _
    refine XS.istore X8.here hx rfl (hb hby d55_22) rfl (l' := #[rv r0, iv (own_n (f + (i + 1))), rv d, iv (own_n (i + 1)), iv (own_len cs_), iv (own_n (i + 1)), iv yy]) rfl ?_
    exact kt
  exact ⟨T8, h4, _, X8, hh8, N8, K4, own_LbS hxx ▸ V4, pre9⟩
theorem d55_0 : D55 0 (.iload_n 1) 1 := by decide +kernel
theorem d55_1 : D55 1 (.iload 4) 2 := by decide +kernel
theorem d55_3 : D55 3 (.aload_n 0) 1 := by decide +kernel
theorem pd16 : parseMethodDescriptor "(II[B)V" = some ⟨[.int, .int, (.array .byte)], none⟩ := by decide +kernel
theorem d55_4 : D55 4 (.invokestatic 173) 3 := by decide +kernel
theorem d55_7 : D55 7 (.iconst 0) 1 := by decide +kernel
theorem d55_8 : D55 8 (.istore 5) 2 := by decide +kernel
theorem d55_53 : D55 53 (.iload 4) 2 := by decide +kernel
theorem d55_55 : D55 55 (.ireturn) 1 := by decide +kernel
theorem d55_32 : D55 32 (.iload 5) 2 := by decide +kernel
theorem d55_34 : D55 34 (.ireturn) 1 := by decide +kernel
theorem ef_55 (m : MethodId) (x0 : Addr) (x1 : Int32) (x2 : Addr) (x3 : Int32) (x4 : Int32) : entryFrame m #[(.ref x0), (.int x1), (.ref x2), (.int x3), (.int x4)] 7 = mkF m 0 #[.val (.ref x0), .val (.int x1), .val (.ref x2), .val (.int x3), .val (.int x4), .unset, .unset] [] := by first | (simp [entryFrame, mkF, argsToLocals, Value.category]; done) | rfl
def Q55 (Z : State) (r0 : Addr) (r2 : Addr) (kc : ClassId) (kd : ClassId) (cs_ : List Int32) (ts_ : List Int32) (f : Nat) (fm : Value) (h0 : Heap) (n0 : Nat) (v : Option Value) (h : Heap) (L : List Loc) : Prop := ∃ r us, v = some (.int r) ∧ Fr n0 L ∧ Keep h0 h [r2] ∧ Arv Z h r2 kd .byte (own_len cs_) us (.int (0 : Int32)) ∧ ((r = own_len cs_ ∧ us = own_M (own_Lb cs_) ∧ ∀ x ∈ cs_, ¬ ((255 : Int32) < x)) ∨ (∃ j x, r = own_n j ∧ cs_[j]? = some x ∧ (255 : Int32) < x))
abbrev R55 : Room := { frames := 4, cells := 0, slots := 0, locals := 90 }
theorem rm55 (l : Launch) (Z : State) (a0 : Array Value) (hw : ∀ d ∈ tables_1, d.before a0 Z = true) (ws : List Jvm.Cond) (r0 : Addr) (r2 : Addr) (kc : ClassId) (kd : ClassId) (cs_ : List Int32) (ts_ : List Int32) (f : Nat) (fm : Value) (h0 : Heap) (n0 : Nat) (Z0 : n0 ≤ h0.size) (V_r0 : Arv Z h0 r0 kc .byte (own_len (own_U ts_)) (own_M (own_U ts_)) (.int (0 : Int32))) (V_r2 : Arv Z h0 r2 kd .byte (own_len cs_) (own_M []) (.int (0 : Int32))) (g_r2 : n0 ≤ r2) (hne : r0 ≠ r2) (hl5 : cs_.length ≤ 5) (hpos : 0 < cs_.length) (hss : ∀ j x, cs_[j]? = some x → ts_[f + j]? = some x ∧ own_ch x) (hts : ts_.length ≤ 5) (hfl : f + cs_.length ≤ ts_.length) (O0 : Old Z n0 h0) (S_fm : Sta Z Z.heap "jdk/internal/util/Preconditions" "SIOOBE_FORMATTER" "Ljava/util/function/BiFunction;" fm) (hr_fm : fm.isRef = true) (S_ad : Sta Z Z.heap "java/lang/StringUTF16" "$assertionsDisabled" "Z" (.int (1 : Int32))) (S_hi : Sta Z Z.heap "java/lang/StringUTF16" "HI_BYTE_SHIFT" "I" (.int (0 : Int32))) (S_lo : Sta Z Z.heap "java/lang/StringUTF16" "LO_BYTE_SHIFT" "I" (.int (8 : Int32))) :
    MetFree l Y19 (head1 (Jvm.Cond.code Y19 jdk_52_method_22_code 7 (some .int) :: ws) R55) (fun a U => a = #[(.ref r0), (.int (own_n f)), (.ref r2), (.int (0 : Int32)), (.int (own_len cs_))] ∧ Z.Warmed39 U.vm ∧ U.heap = h0) (fun _ _ _ _ _ => True) (fun _ U o U' => ∃ v L, o = .returned v ∧ Q55 Z r0 r2 kc kd cs_ ts_ f fm h0 n0 v U'.heap L ∧ FrameEnd U o U' L R55.cells R55.slots) := by
  refine own_start (C := "java/lang/StringUTF16") (Q := Q55 Z r0 r2 kc kd cs_ ts_ f fm h0 n0) rfl (plainFor_of_name pn7) ?_
  intro p e s m below meth c s₁ g₀ hg₀ Bd hx hby hml hZ hown hnm X0 e0
  have N0 := Fr.nil n0
  have pre0 : ∀ t, Sx p e below s₁ (mkF m 0 #[rv r0, iv (own_n f), rv r2, iv (0 : Int32), iv (own_len cs_), .unset, .unset] []) t → Sx p e below s₁ g₀ t := fun t k => by subst hg₀; exact castTop (ef_55 m r0 (own_n f) r2 (0 : Int32) (own_len cs_)) k
  have pre1 : ∀ t, Sx p e below s₁ (mkF m 4 #[rv r0, iv (own_n f), rv r2, iv (0 : Int32), iv (own_len cs_), .unset, .unset] [(.ref r0), (.int (own_len cs_)), (.int (own_n f))]) t → Sx p e below s₁ g₀ t := by
    intro t kt
    refine pre0 _ ?_
    refine XS.iloadN X0.here hx rfl (hb hby d55_0) rfl ?_
    refine XS.iload X0.here hx rfl (hb hby d55_1) rfl ?_
    refine XS.aloadN X0.here hx rfl (hb hby d55_3) rfl rfl ?_
    exact kt
  obtain ⟨_, T2, Lc2, X2, hQ2, st2⟩ := own_cS X0 hx hZ (y := Y10) hown (own_w hw 249 rfl) (own_w hw 250 rfl) (own_w hw 27 rfl) (own_w hw 251 rfl) (by decide) (W := 0) (rm56 l Z a0 hw [] (own_n f) (own_len cs_) r0 kc (own_len (own_U ts_)) (own_M (own_U ts_)) (own_n ts_.length) fm h0 n0 (Nat.le_trans Z0 (Keep.refl h0 [r2]).1) V_r0 (O0.keep (Keep.refl h0 [r2]) (allS g_r2 all0)) S_fm hr_fm (own_Uh (by omega)) (own_or3 (by omega) (by omega) (by omega)) (own_sb (by omega) (by omega))) (by decide) (by decide) (g := (mkF m 4 #[rv r0, iv (own_n f), rv r2, iv (0 : Int32), iv (own_len cs_), .unset, .unset] [(.ref r0), (.int (own_len cs_)), (.int (own_n f))])) rfl hml.symm (argsL := [(.int (own_n f)), (.int (own_len cs_)), (.ref r0)]) (rest := []) (lenOf pd16 rfl) rfl (Nat.le_of_eq rfl) (hb hby d55_4) rfl e0 (by decide) (by decide)
  obtain ⟨rfl, N2q, hh2⟩ := hQ2
  have N2 := Fr.app N0 N2q
  have pre4 : ∀ t, Sx p e below T2 (mkF m 14 #[rv r0, iv (own_n f), rv r2, iv (0 : Int32), iv (own_len cs_), iv (0 : Int32), .unset] [(.int (own_len cs_)), (.int (0 : Int32))]) t → Sx p e below s₁ g₀ t := by
    intro t kt
    refine pre1 _ ?_
    refine st2 _ ?_
    show Sx p e below T2 (mkF m 7 #[rv r0, iv (own_n f), rv r2, iv (0 : Int32), iv (own_len cs_), .unset, .unset] []) _
    refine XS.iconst X2.here hx rfl (hb hby d55_7) ?_
    refine XS.istore X2.here hx rfl (hb hby d55_8) rfl (l' := #[rv r0, iv (own_n f), rv r2, iv (0 : Int32), iv (own_len cs_), iv (0 : Int32), .unset]) rfl ?_
    refine XS.iload X2.here hx rfl (hb hby d55_10) rfl ?_
    refine XS.iload X2.here hx rfl (hb hby d55_12) rfl ?_
    exact kt
  have hc14_3 : (0 : Int32) < (own_len cs_) := (own_pos hpos (by omega))
  have pre5 : ∀ t, Sx p e below T2 (mkF m 19 #[rv r0, iv (own_n f), rv r2, iv (0 : Int32), iv (own_len cs_), iv (0 : Int32), .unset] [(.int (own_n f)), (.ref r0)]) t → Sx p e below s₁ g₀ t := by
    intro t kt
    refine pre4 _ ?_
    refine XS.icmpNo X2.here hx rfl (hb hby d55_14) rfl (tlt hc14_3).2.1 ?_
    refine XS.aloadN X2.here hx rfl (hb hby d55_17) rfl rfl ?_
    refine XS.iloadN X2.here hx rfl (hb hby d55_18) rfl ?_
    exact kt
  obtain ⟨_, T6, Lc6, X6, hQ6, st6⟩ := own_cS X2 hx hZ (y := Y15) hown (own_w hw 217 rfl) (own_w hw 218 rfl) (own_w hw 27 rfl) (own_w hw 219 rfl) (by decide) (W := 0) (rm47 l Z a0 hw [] r0 (own_n f) kc (own_len (own_U ts_)) (own_M (own_U ts_)) (cs_.getD 0 (0 : Int32)) (2 * f) h0 n0 (Nat.le_trans Z0 (Keep.refl h0 [r2]).1) V_r0 (own_atU (hss _ _ (own_get hpos)).1 (by omega) (hss _ _ (own_get hpos)).2) (O0.keep (Keep.refl h0 [r2]) (allS g_r2 all0)) S_ad S_hi S_lo) (by decide) (by decide) (g := (mkF m 19 #[rv r0, iv (own_n f), rv r2, iv (0 : Int32), iv (own_len cs_), iv (0 : Int32), .unset] [(.int (own_n f)), (.ref r0)])) rfl hml.symm (argsL := [(.ref r0), (.int (own_n f))]) (rest := []) (lenOf pd15 rfl) rfl (Nat.le_of_eq rfl) (hb hby d55_19) rfl hh2 (by decide) (by decide)
  obtain ⟨rfl, N6q, hh6⟩ := hQ6
  have N6 := Fr.app N2 N6q
  have pre7 : ∀ t, Sx p e below T6 (mkF m 24 #[rv r0, iv (own_n f), rv r2, iv (0 : Int32), iv (own_len cs_), iv (0 : Int32), iv (cs_.getD 0 (0 : Int32))] []) t → Sx p e below s₁ g₀ t := by
    intro t kt
    refine pre5 _ ?_
    refine st6 _ ?_
    show Sx p e below T6 (mkF m 22 #[rv r0, iv (own_n f), rv r2, iv (0 : Int32), iv (own_len cs_), iv (0 : Int32), .unset] [(.int (cs_.getD 0 (0 : Int32)))]) _
    refine XS.istore X6.here hx rfl (hb hby d55_22) rfl (l' := #[rv r0, iv (own_n f), rv r2, iv (0 : Int32), iv (own_len cs_), iv (0 : Int32), iv (cs_.getD 0 (0 : Int32))]) rfl ?_
    exact kt
  obtain ⟨j, hj1, hj2, hj3⟩ := own_first (fun x => (255 : Int32) < x) cs_
  rcases hj3 with hj3 | ⟨x, hx1, hx2⟩
  · have hjl : j = cs_.length := hj3
    obtain ⟨T8, h8, L8, ⟨X8, e8, N8, zz8, Va8, Vb8, Oo8⟩, Kl8, st8⟩ := own_iter (tb := p.tables) (e := e) (below := below) (F := fun i => mkF m 24 #[.val (.ref r0), .val (.int (own_n (f + i))), .val (.ref r2), .val (.int (own_n i)), .val (.int (own_len cs_)), .val (.int (own_n i)), .val (.int (cs_.getD i (0 : Int32)))] []) (Inv := fun i T h Ls => Stand p l e R55 s m #[(.ref r0), (.int (own_n f)), (.ref r2), (.int (0 : Int32)), (.int (own_len cs_))] below meth c T Ls 0 0 ∧ T.heap = h ∧ Fr n0 Ls ∧ n0 ≤ h.size ∧ Arv Z h r0 kc .byte (own_len (own_U ts_)) (own_M (own_U ts_)) (.int (0 : Int32)) ∧ Arv Z h r2 kd .byte (own_len cs_) (own_M (own_Lb (cs_.take i))) (.int (0 : Int32)) ∧ Old Z n0 h) (ws := [r2]) (n := cs_.length - 1) (fun i T h Ls hi ⟨X, e1, N1, z1, Va, Vb, Oo⟩ => by
        obtain ⟨T', h', L', X', e', N', K', V', s'⟩ := own_t55 r0 r2 i (cs_.getD i (0 : Int32)) (cs_.getD (i + 1) (0 : Int32)) kc kd cs_ ts_ f  X hx hZ hw hby hml hown e1 z1 N1 Va Vb g_r2 hne (own_get (by omega)) (own_get (by omega)) (by omega) hl5 (hj2 i _ (by omega) (own_get (by omega))) hss hts hfl Oo S_ad S_hi S_lo
        exact ⟨T', h', L', ⟨X', e', N', Nat.le_trans z1 K'.1, Va.keep K' (ninS hne nin0), V', Oo.keep K' (allS g_r2 all0)⟩, K', s'⟩) (cs_.length - 1) 0 T6 h0 _ (Nat.zero_add _) ⟨X6, hh6, N6, Nat.le_trans Z0 (Keep.refl h0 [r2]).1, V_r0, V_r2, (O0.keep (Keep.refl h0 [r2]) (allS g_r2 all0))⟩
    have K8 : Keep h0 h8 [r2] := (Keep.refl h0 [r2]).trans Kl8 (allS (Or.inl (List.mem_of_getElem? (i := 0) rfl)) all0)
    have pre10 : ∀ t, Sx p e below T8 (mkF m 29 #[rv r0, iv (own_n (f + (cs_.length - 1))), rv r2, iv (own_n (cs_.length - 1)), iv (own_len cs_), iv (own_n (cs_.length - 1)), iv (cs_.getD (cs_.length - 1) (0 : Int32))] [(.int (255 : Int32)), (.int (cs_.getD (cs_.length - 1) (0 : Int32)))]) t → Sx p e below s₁ g₀ t := by
      intro t kt
      refine pre7 _ ?_
      refine st8 _ ?_
      show Sx p e below T8 (mkF m 24 #[rv r0, iv (own_n (f + (cs_.length - 1))), rv r2, iv (own_n (cs_.length - 1)), iv (own_len cs_), iv (own_n (cs_.length - 1)), iv (cs_.getD (cs_.length - 1) (0 : Int32))] []) _
      refine XS.iload X8.here hx rfl (hb hby d55_24) rfl ?_
      refine XS.sipush X8.here hx rfl (hb hby d55_26) ?_
      exact kt
    have hc29_9 : ¬ ((255 : Int32) < (cs_.getD (cs_.length - 1) (0 : Int32))) := (hj2 (cs_.length - 1) _ (by omega) (own_get (by omega)))
    have pre11 : ∀ t, Sx p e below T8 (mkF m 40 #[rv r0, iv (own_n (f + (cs_.length - 1))), rv r2, iv (own_n (cs_.length - 1)), iv (own_len cs_), iv (own_n (cs_.length - 1)), iv (cs_.getD (cs_.length - 1) (0 : Int32))] [(.int ((cs_.getD (cs_.length - 1) (0 : Int32)).toInt8.toInt32)), (.int (own_n (cs_.length - 1))), (.ref r2)]) t → Sx p e below s₁ g₀ t := by
      intro t kt
      refine pre10 _ ?_
      refine XS.icmpYes X8.here hx rfl (pc0 := 29) (pc' := 35) rfl (hb hby d55_29) rfl (flt hc29_9).2.2.2 (by decide) (by decide) ?_
      refine XS.aloadN X8.here hx rfl (hb hby d55_35) rfl rfl ?_
      refine XS.iloadN X8.here hx rfl (hb hby d55_36) rfl ?_
      refine XS.iload X8.here hx rfl (hb hby d55_37) rfl ?_
      refine XS.i2b X8.here hx rfl (hb hby d55_39) rfl ?_
      exact kt
    obtain ⟨cl12, Ar12, q12, S12, M12, H12, G12⟩ := id Vb8
    have hin12 : ¬ ((own_n (cs_.length - 1)) < 0 ∨ cl12.slots.size ≤ ((own_n (cs_.length - 1))).toNatClampNeg) := inb_of S12 ⟨own_nP (by omega), own_nlt (by omega) (by omega)⟩
    obtain ⟨T12, h12, X12, e12, W12, st12⟩ := stB X8 hx hZ e8 Ar12 (j := (own_n (cs_.length - 1))) hin12 (g := (mkF m 40 #[rv r0, iv (own_n (f + (cs_.length - 1))), rv r2, iv (own_n (cs_.length - 1)), iv (own_len cs_), iv (own_n (cs_.length - 1)), iv (cs_.getD (cs_.length - 1) (0 : Int32))] [(.int ((cs_.getD (cs_.length - 1) (0 : Int32)).toInt8.toInt32)), (.int (own_n (cs_.length - 1))), (.ref r2)])) rfl rfl (hb hby d55_40)
    have nn12 : nar .byte ((cs_.getD (cs_.length - 1) (0 : Int32)).toInt8.toInt32) = ((cs_.getD (cs_.length - 1) (0 : Int32)).toInt8.toInt32) := (own_nb _)
    rw [nn12] at W12
    have V12 : Arv Z h12 r2 kd .byte (own_len cs_) (own_M (own_Lb (cs_.take (cs_.length - 1)) ++ [((cs_.getD (cs_.length - 1) (0 : Int32)).toInt8.toInt32)])) (.int (0 : Int32)) := own_push Ar12 q12 S12 M12 H12 G12 (own_fb nn12) W12 (by rw [own_nN (by omega)]; exact (own_Lbt (by omega)).symm)
    have K12 : Keep h0 h12 [r2] := K8.wr W12 (Or.inl (List.mem_of_getElem? (i := 0) rfl))
    have N12 := Fr.snoc X12 N8 g_r2
    have pre14 : ∀ t, Sx p e below T12 (mkF m 14 #[rv r0, iv (own_n (f + (cs_.length - 1) + 1)), rv r2, iv (own_n cs_.length), iv (own_len cs_), iv (own_n cs_.length), iv (cs_.getD (cs_.length - 1) (0 : Int32))] [(.int (own_len cs_)), (.int (own_n cs_.length))]) t → Sx p e below s₁ g₀ t := by
      intro t kt
      refine pre11 _ ?_
      refine st12 _ ?_
      show Sx p e below T12 (mkF m 41 #[rv r0, iv (own_n (f + (cs_.length - 1))), rv r2, iv (own_n (cs_.length - 1)), iv (own_len cs_), iv (own_n (cs_.length - 1)), iv (cs_.getD (cs_.length - 1) (0 : Int32))] []) _
      refine XS.iinc X12.here hx rfl (hb hby d55_41) rfl (l' := #[rv r0, iv ((own_n (f + (cs_.length - 1))) + (1 : Int32)), rv r2, iv (own_n (cs_.length - 1)), iv (own_len cs_), iv (own_n (cs_.length - 1)), iv (cs_.getD (cs_.length - 1) (0 : Int32))]) rfl ?_
      refine XS.iinc X12.here hx rfl (hb hby d55_44) rfl (l' := #[rv r0, iv ((own_n (f + (cs_.length - 1))) + (1 : Int32)), rv r2, iv ((own_n (cs_.length - 1)) + (1 : Int32)), iv (own_len cs_), iv (own_n (cs_.length - 1)), iv (cs_.getD (cs_.length - 1) (0 : Int32))]) rfl ?_
      refine XS.iinc X12.here hx rfl (hb hby d55_47) rfl (l' := #[rv r0, iv ((own_n (f + (cs_.length - 1))) + (1 : Int32)), rv r2, iv ((own_n (cs_.length - 1)) + (1 : Int32)), iv (own_len cs_), iv ((own_n (cs_.length - 1)) + (1 : Int32)), iv (cs_.getD (cs_.length - 1) (0 : Int32))]) rfl ?_
      show Sx p e below T12 (mkF m 50 #[rv r0, iv ((own_n (f + (cs_.length - 1))) + (1 : Int32)), rv r2, iv ((own_n (cs_.length - 1)) + (1 : Int32)), iv (own_len cs_), iv ((own_n (cs_.length - 1)) + (1 : Int32)), iv (cs_.getD (cs_.length - 1) (0 : Int32))] []) _
      rw [show ((own_n (f + (cs_.length - 1))) + (1 : Int32)) = (own_n (f + (cs_.length - 1) + 1)) from (own_nS (by omega))]
      show Sx p e below T12 (mkF m 50 #[rv r0, iv (own_n (f + (cs_.length - 1) + 1)), rv r2, iv ((own_n (cs_.length - 1)) + (1 : Int32)), iv (own_len cs_), iv ((own_n (cs_.length - 1)) + (1 : Int32)), iv (cs_.getD (cs_.length - 1) (0 : Int32))] []) _
      rw [show ((own_n (cs_.length - 1)) + (1 : Int32)) = (own_n (cs_.length - 1 + 1)) from (own_nS (by omega))]
      show Sx p e below T12 (mkF m 50 #[rv r0, iv (own_n (f + (cs_.length - 1) + 1)), rv r2, iv (own_n (cs_.length - 1 + 1)), iv (own_len cs_), iv (own_n (cs_.length - 1 + 1)), iv (cs_.getD (cs_.length - 1) (0 : Int32))] []) _
      rw [show (own_n (cs_.length - 1 + 1)) = (own_n cs_.length) from (by rw [Nat.sub_add_cancel hpos])]
      show Sx p e below T12 (mkF m 50 #[rv r0, iv (own_n (f + (cs_.length - 1) + 1)), rv r2, iv (own_n cs_.length), iv (own_len cs_), iv (own_n cs_.length), iv (cs_.getD (cs_.length - 1) (0 : Int32))] []) _
      refine XS.goto X12.here hx rfl (pc0 := 50) (pc' := 10) rfl (hb hby d55_50) (by decide) (by decide) ?_
      refine XS.iload X12.here hx rfl (hb hby d55_10) rfl ?_
      refine XS.iload X12.here hx rfl (hb hby d55_12) rfl ?_
      exact kt
    have hc14_13 : ¬ ((own_n cs_.length) < (own_len cs_)) := (own_nge (Nat.le_refl _) (by omega))
    have pre15 : ∀ t, Sx p e below T12 (mkF m 55 #[rv r0, iv (own_n (f + (cs_.length - 1) + 1)), rv r2, iv (own_n cs_.length), iv (own_len cs_), iv (own_n cs_.length), iv (cs_.getD (cs_.length - 1) (0 : Int32))] [(.int (own_len cs_))]) t → Sx p e below s₁ g₀ t := by
      intro t kt
      refine pre14 _ ?_
      refine XS.icmpYes X12.here hx rfl (pc0 := 14) (pc' := 53) rfl (hb hby d55_14) rfl (flt hc14_13).2.1 (by decide) (by decide) ?_
      refine XS.iload X12.here hx rfl (hb hby d55_53) rfl ?_
      exact kt
    obtain ⟨fs, hr, hrun, hended, hW, hsame⟩ := X12.leave (v := some (.int (own_len cs_))) (fun h => by rw [Bd.returns] at h; cases h)
    refine ⟨_, _, _, pre15 _ ?_, hrun, hended, ?_, ⟨_, rfl⟩, hW, hsame.mono (by decide) (by decide)⟩
    · show Steps p.tables e below (T12.setTop (mkF m 55 #[rv r0, iv (own_n (f + (cs_.length - 1) + 1)), rv r2, iv (own_n cs_.length), iv (own_len cs_), iv (own_n cs_.length), iv (cs_.getD (cs_.length - 1) (0 : Int32))] [(.int (own_len cs_))])) _
      exact retI X12 hx Bd.returns (hb hby d55_55) hr
    · show Q55 Z r0 r2 kc kd cs_ ts_ f fm h0 n0 _ T12.heap _
      rw [e12]
      exact ⟨_, _, rfl, N12, K12, V12, Or.inl ⟨rfl, own_Lbf hpos, own_all_of (fun i x h1 h2 => hj2 i x (by omega) h2)⟩⟩
  · have hjl : j < cs_.length := (List.getElem?_eq_some_iff.mp hx1).1
    obtain ⟨T16, h16, L16, ⟨X16, e16, N16, zz16, Va16, Vb16, Oo16⟩, Kl16, st16⟩ := own_iter (tb := p.tables) (e := e) (below := below) (F := fun i => mkF m 24 #[.val (.ref r0), .val (.int (own_n (f + i))), .val (.ref r2), .val (.int (own_n i)), .val (.int (own_len cs_)), .val (.int (own_n i)), .val (.int (cs_.getD i (0 : Int32)))] []) (Inv := fun i T h Ls => Stand p l e R55 s m #[(.ref r0), (.int (own_n f)), (.ref r2), (.int (0 : Int32)), (.int (own_len cs_))] below meth c T Ls 0 0 ∧ T.heap = h ∧ Fr n0 Ls ∧ n0 ≤ h.size ∧ Arv Z h r0 kc .byte (own_len (own_U ts_)) (own_M (own_U ts_)) (.int (0 : Int32)) ∧ Arv Z h r2 kd .byte (own_len cs_) (own_M (own_Lb (cs_.take i))) (.int (0 : Int32)) ∧ Old Z n0 h) (ws := [r2]) (n := j) (fun i T h Ls hi ⟨X, e1, N1, z1, Va, Vb, Oo⟩ => by
        obtain ⟨T', h', L', X', e', N', K', V', s'⟩ := own_t55 r0 r2 i (cs_.getD i (0 : Int32)) (cs_.getD (i + 1) (0 : Int32)) kc kd cs_ ts_ f  X hx hZ hw hby hml hown e1 z1 N1 Va Vb g_r2 hne (own_get (by omega)) (own_get (by omega)) (by omega) hl5 (hj2 i _ (by omega) (own_get (by omega))) hss hts hfl Oo S_ad S_hi S_lo
        exact ⟨T', h', L', ⟨X', e', N', Nat.le_trans z1 K'.1, Va.keep K' (ninS hne nin0), V', Oo.keep K' (allS g_r2 all0)⟩, K', s'⟩) (j) 0 T6 h0 _ (Nat.zero_add _) ⟨X6, hh6, N6, Nat.le_trans Z0 (Keep.refl h0 [r2]).1, V_r0, V_r2, (O0.keep (Keep.refl h0 [r2]) (allS g_r2 all0))⟩
    have K16 : Keep h0 h16 [r2] := (Keep.refl h0 [r2]).trans Kl16 (allS (Or.inl (List.mem_of_getElem? (i := 0) rfl)) all0)
    have pre18 : ∀ t, Sx p e below T16 (mkF m 29 #[rv r0, iv (own_n (f + (j))), rv r2, iv (own_n (j)), iv (own_len cs_), iv (own_n (j)), iv (cs_.getD (j) (0 : Int32))] [(.int (255 : Int32)), (.int (cs_.getD (j) (0 : Int32)))]) t → Sx p e below s₁ g₀ t := by
      intro t kt
      refine pre7 _ ?_
      refine st16 _ ?_
      show Sx p e below T16 (mkF m 24 #[rv r0, iv (own_n (f + (j))), rv r2, iv (own_n (j)), iv (own_len cs_), iv (own_n (j)), iv (cs_.getD (j) (0 : Int32))] []) _
      refine XS.iload X16.here hx rfl (hb hby d55_24) rfl ?_
      refine XS.sipush X16.here hx rfl (hb hby d55_26) ?_
      exact kt
    have hc29_17 : (255 : Int32) < (cs_.getD (j) (0 : Int32)) := (by rw [own_getx hx1]; exact hx2)
    have pre19 : ∀ t, Sx p e below T16 (mkF m 34 #[rv r0, iv (own_n (f + (j))), rv r2, iv (own_n (j)), iv (own_len cs_), iv (own_n (j)), iv (cs_.getD (j) (0 : Int32))] [(.int (own_n (j)))]) t → Sx p e below s₁ g₀ t := by
      intro t kt
      refine pre18 _ ?_
      refine XS.icmpNo X16.here hx rfl (hb hby d55_29) rfl (tlt hc29_17).2.2.2 ?_
      refine XS.iload X16.here hx rfl (hb hby d55_32) rfl ?_
      exact kt
    obtain ⟨fs, hr, hrun, hended, hW, hsame⟩ := X16.leave (v := some (.int (own_n (j)))) (fun h => by rw [Bd.returns] at h; cases h)
    refine ⟨_, _, _, pre19 _ ?_, hrun, hended, ?_, ⟨_, rfl⟩, hW, hsame.mono (by decide) (by decide)⟩
    · show Steps p.tables e below (T16.setTop (mkF m 34 #[rv r0, iv (own_n (f + (j))), rv r2, iv (own_n (j)), iv (own_len cs_), iv (own_n (j)), iv (cs_.getD (j) (0 : Int32))] [(.int (own_n (j)))])) _
      exact retI X16 hx Bd.returns (hb hby d55_34) hr
    · show Q55 Z r0 r2 kc kd cs_ ts_ f fm h0 n0 _ T16.heap _
      rw [e16]
      exact ⟨_, _, rfl, N16, K16, Vb16, Or.inr ⟨j, x, rfl, hx1, hx2⟩⟩
abbrev D6 (q : Nat) (i : Instr) (k : Nat) : Prop := decode jdk_52_method_16_code q = .ok (i, k)
theorem d6_0 : D6 0 (.iload_n 2) 1 := by decide +kernel
theorem d6_1 : D6 1 (.newarray .byte) 2 := by decide +kernel
theorem d6_3 : D6 3 (.astore_n 3) 1 := by decide +kernel
theorem d6_4 : D6 4 (.aload_n 0) 1 := by decide +kernel
theorem d6_5 : D6 5 (.iload_n 1) 1 := by decide +kernel
theorem d6_6 : D6 6 (.aload_n 3) 1 := by decide +kernel
theorem d6_7 : D6 7 (.iconst 0) 1 := by decide +kernel
theorem d6_8 : D6 8 (.iload_n 2) 1 := by decide +kernel
theorem pd17 : parseMethodDescriptor "([CI[BII)I" = some ⟨[(.array .char), .int, (.array .byte), .int, .int], some .int⟩ := by decide +kernel
theorem d6_9 : D6 9 (.invokestatic 115) 3 := by decide +kernel
theorem d6_12 : D6 12 (.istore 4) 2 := by decide +kernel
theorem d6_14 : D6 14 (.iload 4) 2 := by decide +kernel
theorem d6_16 : D6 16 (.iload_n 2) 1 := by decide +kernel
theorem d6_17 : D6 17 (.if_icmp .eq 40) 3 := by decide +kernel
theorem d6_57 : D6 57 (.aload_n 3) 1 := by decide +kernel
theorem d6_58 : D6 58 (.areturn) 1 := by decide +kernel
theorem d6_20 : D6 20 (.aload_n 0) 1 := by decide +kernel
theorem d6_21 : D6 21 (.iload_n 1) 1 := by decide +kernel
theorem d6_22 : D6 22 (.iload_n 2) 1 := by decide +kernel
theorem pd18 : parseMethodDescriptor "([CII)[B" = some ⟨[(.array .char), .int, .int], some (.array .byte)⟩ := by decide +kernel
theorem d6_23 : D6 23 (.invokestatic 119) 3 := by decide +kernel
theorem d6_26 : D6 26 (.astore 5) 2 := by decide +kernel
theorem d6_28 : D6 28 (.aload 5) 2 := by decide +kernel
theorem d6_30 : D6 30 (.iload 4) 2 := by decide +kernel
theorem d6_32 : D6 32 (.invokestatic 71) 3 := by decide +kernel
theorem d6_35 : D6 35 (.sipush 255) 3 := by decide +kernel
theorem d6_38 : D6 38 (.if_icmp .gt 16) 3 := by decide +kernel
theorem d6_54 : D6 54 (.aload 5) 2 := by decide +kernel
theorem d6_56 : D6 56 (.areturn) 1 := by decide +kernel
theorem ef_6 (m : MethodId) (x0 : Addr) (x1 : Int32) (x2 : Int32) : entryFrame m #[(.ref x0), (.int x1), (.int x2)] 6 = mkF m 0 #[.val (.ref x0), .val (.int x1), .val (.int x2), .unset, .unset, .unset] [] := by first | (simp [entryFrame, mkF, argsToLocals, Value.category]; done) | rfl
def Q6 (Z : State) (r0 : Addr) (kc : ClassId) (cs_ : List Int32) (h0 : Heap) (n0 : Nat) (v : Option Value) (h : Heap) (L : List Loc) : Prop := ∃ y k, v = some (.ref y) ∧ Fr n0 L ∧ Keep h0 h [] ∧ h0.size ≤ y ∧ Exa Z h y "[B" ∧ (((∀ x ∈ cs_, ¬ ((255 : Int32) < x)) ∧ Arv Z h y k .byte (own_len cs_) (own_M (own_Lb cs_)) (.int (0 : Int32))) ∨ Arv Z h y k .byte (own_len (own_U cs_)) (own_M (own_U cs_)) (.int (0 : Int32)))
abbrev R6 : Room := { frames := 4, cells := 2, slots := 15, locals := 76 }
theorem rm6 (l : Launch) (Z : State) (a0 : Array Value) (hw : ∀ d ∈ tables_1, d.before a0 Z = true) (ws : List Jvm.Cond) (r0 : Addr) (kc : ClassId) (cs_ : List Int32) (h0 : Heap) (n0 : Nat) (Z0 : n0 ≤ h0.size) (V_r0 : Arv Z h0 r0 kc .char (own_len cs_) (own_M cs_) (.int (0 : Int32))) (hcs_ : ∀ x ∈ cs_, own_ch x) (hl5 : cs_.length ≤ 5) (hpos : 0 < cs_.length) (O0 : Old Z n0 h0) (S_ad : Sta Z Z.heap "java/lang/StringUTF16" "$assertionsDisabled" "Z" (.int (1 : Int32))) (S_hi : Sta Z Z.heap "java/lang/StringUTF16" "HI_BYTE_SHIFT" "I" (.int (0 : Int32))) (S_lo : Sta Z Z.heap "java/lang/StringUTF16" "LO_BYTE_SHIFT" "I" (.int (8 : Int32))) :
    MetFree l Y20 (head1 (Jvm.Cond.code Y20 jdk_52_method_16_code 6 (some (.array .byte)) :: ws) R6) (fun a U => a = #[(.ref r0), (.int (0 : Int32)), (.int (own_len cs_))] ∧ Z.Warmed39 U.vm ∧ U.heap = h0) (fun _ _ _ _ _ => True) (fun _ U o U' => ∃ v L, o = .returned v ∧ Q6 Z r0 kc cs_ h0 n0 v U'.heap L ∧ FrameEnd U o U' L R6.cells R6.slots) := by
  refine own_start (C := "java/lang/StringUTF16") (Q := Q6 Z r0 kc cs_ h0 n0) rfl (plainFor_of_name pn7) ?_
  intro p e s m below meth c s₁ g₀ hg₀ Bd hx hby hml hZ hown hnm X0 e0
  have N0 := Fr.nil n0
  have pre0 : ∀ t, Sx p e below s₁ (mkF m 0 #[rv r0, iv (0 : Int32), iv (own_len cs_), .unset, .unset, .unset] []) t → Sx p e below s₁ g₀ t := fun t k => by subst hg₀; exact castTop (ef_6 m r0 (0 : Int32) (own_len cs_)) k
  have pre1 : ∀ t, Sx p e below s₁ (mkF m 1 #[rv r0, iv (0 : Int32), iv (own_len cs_), .unset, .unset, .unset] [(.int (own_len cs_))]) t → Sx p e below s₁ g₀ t := by
    intro t kt
    refine pre0 _ ?_
    refine XS.iloadN X0.here hx rfl (hb hby d6_0) rfl ?_
    exact kt
  obtain ⟨T2, h2, k2, X2, e2, E2, A2, Ex2, st2⟩ := newPE X0 hx hZ (own_w hw 7 rfl) e0 (g := (mkF m 1 #[rv r0, iv (0 : Int32), iv (own_len cs_), .unset, .unset, .unset] [(.int (own_len cs_))])) rfl (hb hby d6_1) rfl (own_lenP cs_ (by omega)) (cap := 5) (by rw [own_lenN cs_ (by omega)]; omega) (by decide) (by decide) (by decide) (ad := "[B") rfl
  obtain ⟨b2, g2⟩ : ∃ z, z = h0.size := ⟨_, rfl⟩
  rw [← g2] at A2 Ex2 st2
  have g_b2 : n0 ≤ b2 := Nat.le_trans (Nat.le_trans Z0 (Keep.refl h0 []).1) (Nat.le_of_eq g2.symm)
  have sz_b2 : h0.size ≤ b2 := Nat.le_trans (Keep.refl h0 []).1 (Nat.le_of_eq g2.symm)
  have V_b2 : Arv Z h2 b2 k2 .byte (own_len cs_) (own_M []) (.int (0 : Int32)) := (Arv.new A2 (own_lenP cs_ (by omega)))
  have K2 : Keep h0 h2 [] := (Keep.refl h0 []).ext E2
  have pre3 : ∀ t, Sx p e below T2 (mkF m 9 #[rv r0, iv (0 : Int32), iv (own_len cs_), rv b2, .unset, .unset] [(.int (own_len cs_)), (.int (0 : Int32)), (.ref b2), (.int (0 : Int32)), (.ref r0)]) t → Sx p e below s₁ g₀ t := by
    intro t kt
    refine pre1 _ ?_
    refine st2 _ ?_
    show Sx p e below T2 (mkF m 3 #[rv r0, iv (0 : Int32), iv (own_len cs_), .unset, .unset, .unset] [(.ref b2)]) _
    refine XS.astoreN X2.here hx rfl (hb hby d6_3) rfl rfl (l' := #[rv r0, iv (0 : Int32), iv (own_len cs_), rv b2, .unset, .unset]) rfl ?_
    refine XS.aloadN X2.here hx rfl (hb hby d6_4) rfl rfl ?_
    refine XS.iloadN X2.here hx rfl (hb hby d6_5) rfl ?_
    refine XS.aloadN X2.here hx rfl (hb hby d6_6) rfl rfl ?_
    refine XS.iconst X2.here hx rfl (hb hby d6_7) ?_
    refine XS.iloadN X2.here hx rfl (hb hby d6_8) rfl ?_
    exact kt
  obtain ⟨_, T4, Lc4, X4, hQ4, st4⟩ := own_cS X2 hx hZ (y := Y18) hown (own_w hw 29 rfl) (own_w hw 30 rfl) (own_w hw 27 rfl) (own_w hw 31 rfl) (by decide) (W := 0) (rm7 l Z a0 hw [] r0 b2 kc k2 cs_ h2 n0 (Nat.le_trans Z0 K2.1) (V_r0.ext E2) V_b2 g_b2 (Nat.ne_of_lt (Nat.lt_of_lt_of_le V_r0.lt (Nat.le_of_eq g2.symm))) hl5 hpos) (by decide) (by decide) (g := (mkF m 9 #[rv r0, iv (0 : Int32), iv (own_len cs_), rv b2, .unset, .unset] [(.int (own_len cs_)), (.int (0 : Int32)), (.ref b2), (.int (0 : Int32)), (.ref r0)])) rfl hml.symm (argsL := [(.ref r0), (.int (0 : Int32)), (.ref b2), (.int (0 : Int32)), (.int (own_len cs_))]) (rest := []) (lenOf pd17 rfl) rfl (Nat.le_of_eq rfl) (hb hby d6_9) rfl e2 (by decide) (by decide)
  obtain ⟨r4, us4, rfl, N4q, Kc4, Vd4, hD4⟩ := hQ4
  have N4 := Fr.app N0 N4q
  have K4 : Keep h0 T4.heap [] := K2.trans Kc4 (allS (Or.inr sz_b2) all0)
  have pre5 : ∀ t, Sx p e below T4 (mkF m 12 #[rv r0, iv (0 : Int32), iv (own_len cs_), rv b2, .unset, .unset] [(.int r4)]) t → Sx p e below s₁ g₀ t := by
    intro t kt
    refine pre3 _ ?_
    refine st4 _ ?_
    exact kt
  rcases hD4 with ⟨rfl, rfl, hL⟩ | ⟨jj, xx, rfl, hx1, hx2⟩
  · have pre6 : ∀ t, Sx p e below T4 (mkF m 58 #[rv r0, iv (0 : Int32), iv (own_len cs_), rv b2, iv (own_len cs_), .unset] [(.ref b2)]) t → Sx p e below s₁ g₀ t := by
      intro t kt
      refine pre5 _ ?_
      refine XS.istore X4.here hx rfl (hb hby d6_12) rfl (l' := #[rv r0, iv (0 : Int32), iv (own_len cs_), rv b2, iv (own_len cs_), .unset]) rfl ?_
      refine XS.iload X4.here hx rfl (hb hby d6_14) rfl ?_
      refine XS.iloadN X4.here hx rfl (hb hby d6_16) rfl ?_
      refine XS.icmpYes X4.here hx rfl (pc0 := 17) (pc' := 57) rfl (hb hby d6_17) rfl (teq rfl).1 (by decide) (by decide) ?_
      refine XS.aloadN X4.here hx rfl (hb hby d6_57) rfl rfl ?_
      exact kt
    obtain ⟨fs, hr, hrun, hended, hW, hsame⟩ := X4.leave (v := some (.ref b2)) (fun h => by rw [Bd.returns] at h; cases h)
    refine ⟨_, _, _, pre6 _ ?_, hrun, hended, ?_, ⟨_, rfl⟩, hW, hsame.mono (by decide) (by decide)⟩
    · show Steps p.tables e below (T4.setTop (mkF m 58 #[rv r0, iv (0 : Int32), iv (own_len cs_), rv b2, iv (own_len cs_), .unset] [(.ref b2)])) _
      jvm_step X4.here [X4.here.top, hx, (hb hby d6_58), X4.method', Bd.returns, Value.isRef, FieldType.isReference]
      first | (intro acts; rw [hr _ acts rfl rfl rfl]) | rw [hr _ _ rfl rfl rfl]
      exact Steps.refl _
    · show Q6 Z r0 kc cs_ h0 n0 _ T4.heap _
      exact ⟨b2, k2, rfl, N4, K4, sz_b2, (Ex2.keep Kc4), Or.inl ⟨hL, Vd4⟩⟩
  · have pre8 : ∀ t, Sx p e below T4 (mkF m 17 #[rv r0, iv (0 : Int32), iv (own_len cs_), rv b2, iv (own_n jj), .unset] [(.int (own_len cs_)), (.int (own_n jj))]) t → Sx p e below s₁ g₀ t := by
      intro t kt
      refine pre5 _ ?_
      refine XS.istore X4.here hx rfl (hb hby d6_12) rfl (l' := #[rv r0, iv (0 : Int32), iv (own_len cs_), rv b2, iv (own_n jj), .unset]) rfl ?_
      refine XS.iload X4.here hx rfl (hb hby d6_14) rfl ?_
      refine XS.iloadN X4.here hx rfl (hb hby d6_16) rfl ?_
      exact kt
    have hc17_7 : ¬ ((own_n jj) = (own_len cs_)) := (own_nne (Nat.ne_of_lt (List.getElem?_eq_some_iff.mp hx1).1) (by have := (List.getElem?_eq_some_iff.mp hx1).1; omega) (by omega))
    have pre9 : ∀ t, Sx p e below T4 (mkF m 23 #[rv r0, iv (0 : Int32), iv (own_len cs_), rv b2, iv (own_n jj), .unset] [(.int (own_len cs_)), (.int (0 : Int32)), (.ref r0)]) t → Sx p e below s₁ g₀ t := by
      intro t kt
      refine pre8 _ ?_
      refine XS.icmpNo X4.here hx rfl (hb hby d6_17) rfl (feq hc17_7).1 ?_
      refine XS.aloadN X4.here hx rfl (hb hby d6_20) rfl rfl ?_
      refine XS.iloadN X4.here hx rfl (hb hby d6_21) rfl ?_
      refine XS.iloadN X4.here hx rfl (hb hby d6_22) rfl ?_
      exact kt
    obtain ⟨_, T10, Lc10, X10, hQ10, st10⟩ := own_cS X4 hx hZ (y := Y17) hown (own_w hw 201 rfl) (own_w hw 202 rfl) (own_w hw 27 rfl) (own_w hw 203 rfl) (by decide) (W := 0) (rm43 l Z a0 hw [] r0 kc cs_ T4.heap n0 (Nat.le_trans Z0 K4.1) ((V_r0.ext E2).keep Kc4 (ninS (Nat.ne_of_lt (Nat.lt_of_lt_of_le V_r0.lt (Nat.le_of_eq g2.symm))) nin0)) hl5 (O0.keep K4 all0) S_ad S_hi S_lo) (by decide) (by decide) (g := (mkF m 23 #[rv r0, iv (0 : Int32), iv (own_len cs_), rv b2, iv (own_n jj), .unset] [(.int (own_len cs_)), (.int (0 : Int32)), (.ref r0)])) rfl hml.symm (argsL := [(.ref r0), (.int (0 : Int32)), (.int (own_len cs_))]) (rest := []) (lenOf pd18 rfl) rfl (Nat.le_of_eq rfl) (hb hby d6_23) rfl rfl (by decide) (by decide)
    obtain ⟨y10, ky10, rfl, N10q, Kc10, hy10, Vy10, Ey10⟩ := hQ10
    have N10 := Fr.app N4 N10q
    have K10 : Keep h0 T10.heap [] := K4.trans Kc10 all0
    have g_y10 : n0 ≤ y10 := Nat.le_trans (Nat.le_trans Z0 K4.1) hy10
    have sz_y10 : h0.size ≤ y10 := Nat.le_trans K4.1 hy10
    have pre11 : ∀ t, Sx p e below T10 (mkF m 32 #[rv r0, iv (0 : Int32), iv (own_len cs_), rv b2, iv (own_n jj), rv y10] [(.int (own_n jj)), (.ref y10)]) t → Sx p e below s₁ g₀ t := by
      intro t kt
      refine pre9 _ ?_
      refine st10 _ ?_
      show Sx p e below T10 (mkF m 26 #[rv r0, iv (0 : Int32), iv (own_len cs_), rv b2, iv (own_n jj), .unset] [(.ref y10)]) _
      refine XS.astore X10.here hx rfl (hb hby d6_26) rfl rfl (l' := #[rv r0, iv (0 : Int32), iv (own_len cs_), rv b2, iv (own_n jj), rv y10]) rfl ?_
      refine XS.aload X10.here hx rfl (hb hby d6_28) rfl rfl ?_
      refine XS.iload X10.here hx rfl (hb hby d6_30) rfl ?_
      exact kt
    obtain ⟨_, T12, Lc12, X12, hQ12, st12⟩ := own_cS X10 hx hZ (y := Y15) hown (own_w hw 217 rfl) (own_w hw 218 rfl) (own_w hw 27 rfl) (own_w hw 219 rfl) (by decide) (W := 0) (rm47 l Z a0 hw [] y10 (own_n jj) ky10 (own_len (own_U cs_)) (own_M (own_U cs_)) xx (2 * jj) T10.heap n0 (Nat.le_trans Z0 K10.1) Vy10 (own_atU hx1 (by omega) (hcs_ _ (List.mem_of_getElem? hx1))) (O0.keep K10 all0) S_ad S_hi S_lo) (by decide) (by decide) (g := (mkF m 32 #[rv r0, iv (0 : Int32), iv (own_len cs_), rv b2, iv (own_n jj), rv y10] [(.int (own_n jj)), (.ref y10)])) rfl hml.symm (argsL := [(.ref y10), (.int (own_n jj))]) (rest := []) (lenOf pd15 rfl) rfl (Nat.le_of_eq rfl) (hb hby d6_32) rfl rfl (by decide) (by decide)
    obtain ⟨rfl, N12q, hh12⟩ := hQ12
    have N12 := Fr.app N10 N12q
    have pre13 : ∀ t, Sx p e below T12 (mkF m 56 #[rv r0, iv (0 : Int32), iv (own_len cs_), rv b2, iv (own_n jj), rv y10] [(.ref y10)]) t → Sx p e below s₁ g₀ t := by
      intro t kt
      refine pre11 _ ?_
      refine st12 _ ?_
      show Sx p e below T12 (mkF m 35 #[rv r0, iv (0 : Int32), iv (own_len cs_), rv b2, iv (own_n jj), rv y10] [(.int xx)]) _
      refine XS.sipush X12.here hx rfl (hb hby d6_35) ?_
      refine XS.icmpYes X12.here hx rfl (pc0 := 38) (pc' := 54) rfl (hb hby d6_38) rfl (tlt hx2).2.2.1 (by decide) (by decide) ?_
      refine XS.aload X12.here hx rfl (hb hby d6_54) rfl rfl ?_
      exact kt
    obtain ⟨fs, hr, hrun, hended, hW, hsame⟩ := X12.leave (v := some (.ref y10)) (fun h => by rw [Bd.returns] at h; cases h)
    refine ⟨_, _, _, pre13 _ ?_, hrun, hended, ?_, ⟨_, rfl⟩, hW, hsame.mono (by decide) (by decide)⟩
    · show Steps p.tables e below (T12.setTop (mkF m 56 #[rv r0, iv (0 : Int32), iv (own_len cs_), rv b2, iv (own_n jj), rv y10] [(.ref y10)])) _
      jvm_step X12.here [X12.here.top, hx, (hb hby d6_56), X12.method', Bd.returns, Value.isRef, FieldType.isReference]
      first | (intro acts; rw [hr _ acts rfl rfl rfl]) | rw [hr _ _ rfl rfl rfl]
      exact Steps.refl _
    · show Q6 Z r0 kc cs_ h0 n0 _ T12.heap _
      rw [hh12]
      exact ⟨y10, ky10, rfl, N12, K10, sz_y10, Ey10, Or.inr (Vy10)⟩
abbrev D8 (q : Nat) (i : Instr) (k : Nat) : Prop := decode jdk_52_method_15_code q = .ok (i, k)
theorem d8_0 : D8 0 (.iload_n 1) 1 := by decide +kernel
theorem d8_1 : D8 1 (.aload_n 0) 1 := by decide +kernel
theorem d8_2 : D8 2 (.arraylength) 1 := by decide +kernel
theorem d8_3 : D8 3 (.isub) 1 := by decide +kernel
theorem d8_4 : D8 4 (.bipush 31) 2 := by decide +kernel
theorem d8_6 : D8 6 (.iushr) 1 := by decide +kernel
theorem d8_7 : D8 7 (.i2b) 1 := by decide +kernel
theorem d8_8 : D8 8 (.ireturn) 1 := by decide +kernel
theorem ef_8 (m : MethodId) (x0 : Addr) (x1 : Int32) : entryFrame m #[(.ref x0), (.int x1)] 2 = mkF m 0 #[.val (.ref x0), .val (.int x1)] [] := by first | (simp [entryFrame, mkF, argsToLocals, Value.category]; done) | rfl
def Q8 (Z : State) (r0 : Addr) (p1 : Int32) (kc : ClassId) (z : Int32) (vs : List Value) (w : Int32) (h0 : Heap) (n0 : Nat) (v : Option Value) (h : Heap) (L : List Loc) : Prop := v = some (.int w) ∧ Fr n0 L ∧ h = h0
abbrev R8 : Room := { frames := 0, cells := 0, slots := 0, locals := 0 }
theorem rm8 (l : Launch) (Z : State) (a0 : Array Value) (hw : ∀ d ∈ tables_1, d.before a0 Z = true) (ws : List Jvm.Cond) (r0 : Addr) (p1 : Int32) (kc : ClassId) (z : Int32) (vs : List Value) (w : Int32) (h0 : Heap) (n0 : Nat) (Z0 : n0 ≤ h0.size) (V_r0 : Arv Z h0 r0 kc .byte z vs (.int (0 : Int32))) (hv : ((((p1 - z).toUInt32 >>> ((31 : Int32) &&& 31).toUInt32).toInt32).toInt8.toInt32) = w) (hnw : nar .byte w = w) :
    MetFree l Y21 (head1 (Jvm.Cond.code Y21 jdk_52_method_15_code 2 (some .byte) :: ws) R8) (fun a U => a = #[(.ref r0), (.int p1)] ∧ Z.Warmed39 U.vm ∧ U.heap = h0) (fun _ _ _ _ _ => True) (fun _ U o U' => ∃ v L, o = .returned v ∧ Q8 Z r0 p1 kc z vs w h0 n0 v U'.heap L ∧ FrameEnd U o U' L R8.cells R8.slots) := by
  refine own_start (C := "java/lang/StringUTF16") (Q := Q8 Z r0 p1 kc z vs w h0 n0) rfl (plainFor_of_name pn7) ?_
  intro p e s m below meth c s₁ g₀ hg₀ Bd hx hby hml hZ hown hnm X0 e0
  have N0 := Fr.nil n0
  have pre0 : ∀ t, Sx p e below s₁ (mkF m 0 #[rv r0, iv p1] []) t → Sx p e below s₁ g₀ t := fun t k => by subst hg₀; exact castTop (ef_8 m r0 p1) k
  obtain ⟨cl1, Ar1, -, S1, M1, -, -⟩ := id V_r0
  have pre2 : ∀ t, Sx p e below s₁ (mkF m 8 #[rv r0, iv p1] [(.int w)]) t → Sx p e below s₁ g₀ t := by
    intro t kt
    refine pre0 _ ?_
    refine XS.iloadN X0.here hx rfl (hb hby d8_0) rfl ?_
    refine XS.aloadN X0.here hx rfl (hb hby d8_1) rfl rfl ?_
    refine X0.arraylength hx (by rw [e0]; exact Ar1.1) (State.isArrayOf_alike hZ.alike Ar1.2.1) (g := (mkF m 2 #[rv r0, iv p1] [(.ref r0), (.int p1)])) rfl rfl (hb hby d8_2) _ ?_
    rw [len_of S1 M1]
    show Sx p e below s₁ (mkF m 3 #[rv r0, iv p1] [(.int z), (.int p1)]) _
    refine XS.isub X0.here hx rfl (hb hby d8_3) rfl ?_
    refine XS.bipush X0.here hx rfl (hb hby d8_4) ?_
    refine XS.iushr X0.here hx rfl (hb hby d8_6) rfl ?_
    refine XS.i2b X0.here hx rfl (hb hby d8_7) rfl ?_
    show Sx p e below s₁ (mkF m 8 #[rv r0, iv p1] [(.int ((((p1 - z).toUInt32 >>> ((31 : Int32) &&& 31).toUInt32).toInt32).toInt8.toInt32))]) _
    rw [show ((((p1 - z).toUInt32 >>> ((31 : Int32) &&& 31).toUInt32).toInt32).toInt8.toInt32) = w from hv]
    exact kt
  obtain ⟨fs, hr, hrun, hended, hW, hsame⟩ := X0.leave (v := some (.int (nar .byte w))) (fun h => by rw [Bd.returns] at h; cases h)
  refine ⟨_, _, _, pre2 _ ?_, hrun, hended, ?_, ⟨_, rfl⟩, hW, hsame.mono (by decide) (by decide)⟩
  · show Steps p.tables e below (s₁.setTop (mkF m 8 #[rv r0, iv p1] [(.int w)])) _
    exact retN X0 hx (t := .byte) Bd.returns (by simp) (hb hby d8_8) hr
  · show Q8 Z r0 p1 kc z vs w h0 n0 _ s₁.heap _
    rw [e0]
    exact ⟨congrArg (fun z => some (Value.int z)) (hnw), N0, rfl⟩
abbrev D28 (q : Nat) (i : Instr) (k : Nat) : Prop := decode jdk_42_method_151_code q = .ok (i, k)
theorem d28_0 : D28 0 (.aload_n 0) 1 := by decide +kernel
theorem d28_1 : D28 1 (.invokespecial 1) 3 := by decide +kernel
theorem d28_4 : D28 4 (.aload_n 0) 1 := by decide +kernel
theorem d28_5 : D28 5 (.aload_n 1) 1 := by decide +kernel
theorem d28_6 : D28 6 (.putfield 9) 3 := by decide +kernel
theorem d28_9 : D28 9 (.aload_n 0) 1 := by decide +kernel
theorem d28_10 : D28 10 (.iload_n 2) 1 := by decide +kernel
theorem d28_11 : D28 11 (.putfield 15) 3 := by decide +kernel
theorem d28_14 : D28 14 (.return_) 1 := by decide +kernel
theorem ef_28v0 (m : MethodId) (x0 : Addr) (x1 : Addr) (x2 : Int32) : entryFrame m #[(.ref x0), (.ref x1), (.int x2)] 3 = mkF m 0 #[.val (.ref x0), .val (.ref x1), .val (.int x2)] [] := by first | (simp [entryFrame, mkF, argsToLocals, Value.category]; done) | rfl
def Q28v0 (Z : State) (r0 : Addr) (r1 : Addr) (h0 : Heap) (n0 : Nat) (v : Option Value) (h : Heap) (L : List Loc) : Prop := v = none ∧ Fr n0 L ∧ Keep h0 h [r0] ∧ Fld Z h r0 "java/lang/String" "value" "[B" (.ref r1) ∧ Fld Z h r0 "java/lang/String" "coder" "B" (.int (0 : Int32))
abbrev R28v0 : Room := { frames := 1, cells := 0, slots := 0, locals := 12 }
theorem rm28v0 (l : Launch) (Z : State) (a0 : Array Value) (hw : ∀ d ∈ tables_1, d.before a0 Z = true) (ws : List Jvm.Cond) (r0 : Addr) (r1 : Addr) (h0 : Heap) (n0 : Nat) (Z0 : n0 ≤ h0.size) (F_value_r0 : Fld Z h0 r0 "java/lang/String" "value" "[B" .null) (F_coder_r0 : Fld Z h0 r0 "java/lang/String" "coder" "B" (.int (0 : Int32))) (E_r0 : Exa Z h0 r0 "java/lang/String") (g_r0 : n0 ≤ r0) :
    MetFree l Y22 (head1 (Jvm.Cond.code Y22 jdk_42_method_151_code 3 none :: ws) R28v0) (fun a U => a = #[(.ref r0), (.ref r1), (.int (0 : Int32))] ∧ Z.Warmed39 U.vm ∧ U.heap = h0) (fun _ _ _ _ _ => True) (fun _ U o U' => ∃ v L, o = .returned v ∧ Q28v0 Z r0 r1 h0 n0 v U'.heap L ∧ FrameEnd U o U' L R28v0.cells R28v0.slots) := by
  refine own_start (C := "java/lang/String") (Q := Q28v0 Z r0 r1 h0 n0) rfl (plainFor_of_name pn4) ?_
  intro p e s m below meth c s₁ g₀ hg₀ Bd hx hby hml hZ hown hnm X0 e0
  have N0 := Fr.nil n0
  have pre0 : ∀ t, Sx p e below s₁ (mkF m 0 #[rv r0, rv r1, iv (0 : Int32)] []) t → Sx p e below s₁ g₀ t := fun t k => by subst hg₀; exact castTop (ef_28v0 m r0 r1 (0 : Int32)) k
  have pre1 : ∀ t, Sx p e below s₁ (mkF m 1 #[rv r0, rv r1, iv (0 : Int32)] [(.ref r0)]) t → Sx p e below s₁ g₀ t := by
    intro t kt
    refine pre0 _ ?_
    refine XS.aloadN X0.here hx rfl (hb hby d28_0) rfl rfl ?_
    exact kt
  obtain ⟨T2, X2, e2, st2⟩ := initO X0 hx hZ hown (own_w hw 21 rfl) (own_w hw 22 rfl) (own_w hw 23 rfl) e0 (g := (mkF m 1 #[rv r0, rv r1, iv (0 : Int32)] [(.ref r0)])) rfl (by rw [hml]; rfl) rfl (hb hby d28_1) (by decide) (W := 0) (by show 2 * 0 + _ ≤ _; exact Nat.le_of_eq rfl) (by decide)
  have pre3 : ∀ t, Sx p e below T2 (mkF m 6 #[rv r0, rv r1, iv (0 : Int32)] [(.ref r1), (.ref r0)]) t → Sx p e below s₁ g₀ t := by
    intro t kt
    refine pre1 _ ?_
    refine st2 _ ?_
    show Sx p e below T2 (mkF m 4 #[rv r0, rv r1, iv (0 : Int32)] []) _
    refine XS.aloadN X2.here hx rfl (hb hby d28_4) rfl rfl ?_
    refine XS.aloadN X2.here hx rfl (hb hby d28_5) rfl rfl ?_
    exact kt
  obtain ⟨T4, h4, X4, e4, W4, st4⟩ := putF X2 hx hZ hown (host := "") (Or.inl (own_w hw 37 rfl)) Via.refl e2 F_value_r0 E_r0 (Or.inr ⟨(own_w hw 38 rfl), rfl, hnm⟩) (own_w hw 12 rfl) (ty := (.array .byte)) (by decide) rfl rfl (g := (mkF m 6 #[rv r0, rv r1, iv (0 : Int32)] [(.ref r1), (.ref r0)])) rfl rfl (hb hby d28_6)
  have Fw4 : Fld Z h4 r0 "java/lang/String" "value" "[B" (.ref r1) := F_value_r0.same W4
  have K4 : Keep h0 h4 [r0] := (Keep.refl h0 [r0]).wr W4 (Or.inl (List.mem_of_getElem? (i := 0) rfl))
  have N4 := Fr.snoc X4 N0 g_r0
  have pre5 : ∀ t, Sx p e below T4 (mkF m 11 #[rv r0, rv r1, iv (0 : Int32)] [(.int (0 : Int32)), (.ref r0)]) t → Sx p e below s₁ g₀ t := by
    intro t kt
    refine pre3 _ ?_
    refine st4 _ ?_
    show Sx p e below T4 (mkF m 9 #[rv r0, rv r1, iv (0 : Int32)] []) _
    refine XS.aloadN X4.here hx rfl (hb hby d28_9) rfl rfl ?_
    refine XS.iloadN X4.here hx rfl (hb hby d28_10) rfl ?_
    exact kt
  obtain ⟨T6, h6, X6, e6, W6, st6⟩ := putFN X4 hx hZ hown (own_w hw 35 rfl) Via.refl e4 (F_coder_r0.other W4 (Or.inr (slot_ne (Or.inr (own_w hw 36 rfl)) (Or.inr (own_w hw 38 rfl)) (by decide) (t := .byte) (t' := (.array .byte)) (by decide) (by decide)))) (E_r0.wr W4) (Or.inr ⟨(own_w hw 36 rfl), rfl, hnm⟩) (own_w hw 12 rfl) (ty := .byte) (v' := (.int (0 : Int32))) (by decide) rfl (by decide) (g := (mkF m 11 #[rv r0, rv r1, iv (0 : Int32)] [(.int (0 : Int32)), (.ref r0)])) rfl rfl (hb hby d28_11)
  have Fw6 : Fld Z h6 r0 "java/lang/String" "coder" "B" (.int (0 : Int32)) := (F_coder_r0.other W4 (Or.inr (slot_ne (Or.inr (own_w hw 36 rfl)) (Or.inr (own_w hw 38 rfl)) (by decide) (t := .byte) (t' := (.array .byte)) (by decide) (by decide)))).same W6
  have K6 : Keep h0 h6 [r0] := K4.wr W6 (Or.inl (List.mem_of_getElem? (i := 0) rfl))
  have N6 := Fr.snoc X6 N4 g_r0
  have pre7 : ∀ t, Sx p e below T6 (mkF m 14 #[rv r0, rv r1, iv (0 : Int32)] []) t → Sx p e below s₁ g₀ t := by
    intro t kt
    refine pre5 _ ?_
    refine st6 _ ?_
    exact kt
  obtain ⟨fs, hr, hrun, hended, hW, hsame⟩ := X6.leave (v := none) (fun _ => rfl)
  refine ⟨_, _, _, pre7 _ ?_, hrun, hended, ?_, ⟨_, rfl⟩, hW, hsame.mono (by decide) (by decide)⟩
  · show Steps p.tables e below (T6.setTop (mkF m 14 #[rv r0, rv r1, iv (0 : Int32)] [])) _
    exact X6.returnOut hx Bd.returns (hb hby d28_14) hr
  · show Q28v0 Z r0 r1 h0 n0 _ T6.heap _
    rw [e6]
    exact ⟨rfl, N6, K6, (Fw4.other W6 (Or.inr (slot_ne (Or.inr (own_w hw 38 rfl)) (Or.inr (own_w hw 36 rfl)) (by decide) (t := (.array .byte)) (t' := .byte) (by decide) (by decide)))), Fw6⟩

theorem ef_28v1 (m : MethodId) (x0 : Addr) (x1 : Addr) (x2 : Int32) : entryFrame m #[(.ref x0), (.ref x1), (.int x2)] 3 = mkF m 0 #[.val (.ref x0), .val (.ref x1), .val (.int x2)] [] := by first | (simp [entryFrame, mkF, argsToLocals, Value.category]; done) | rfl
def Q28v1 (Z : State) (r0 : Addr) (r1 : Addr) (h0 : Heap) (n0 : Nat) (v : Option Value) (h : Heap) (L : List Loc) : Prop := v = none ∧ Fr n0 L ∧ Keep h0 h [r0] ∧ Fld Z h r0 "java/lang/String" "value" "[B" (.ref r1) ∧ Fld Z h r0 "java/lang/String" "coder" "B" (.int (1 : Int32))
abbrev R28v1 : Room := { frames := 1, cells := 0, slots := 0, locals := 12 }
theorem rm28v1 (l : Launch) (Z : State) (a0 : Array Value) (hw : ∀ d ∈ tables_1, d.before a0 Z = true) (ws : List Jvm.Cond) (r0 : Addr) (r1 : Addr) (h0 : Heap) (n0 : Nat) (Z0 : n0 ≤ h0.size) (F_value_r0 : Fld Z h0 r0 "java/lang/String" "value" "[B" .null) (F_coder_r0 : Fld Z h0 r0 "java/lang/String" "coder" "B" (.int (0 : Int32))) (E_r0 : Exa Z h0 r0 "java/lang/String") (g_r0 : n0 ≤ r0) :
    MetFree l Y22 (head1 (Jvm.Cond.code Y22 jdk_42_method_151_code 3 none :: ws) R28v1) (fun a U => a = #[(.ref r0), (.ref r1), (.int (1 : Int32))] ∧ Z.Warmed39 U.vm ∧ U.heap = h0) (fun _ _ _ _ _ => True) (fun _ U o U' => ∃ v L, o = .returned v ∧ Q28v1 Z r0 r1 h0 n0 v U'.heap L ∧ FrameEnd U o U' L R28v1.cells R28v1.slots) := by
  refine own_start (C := "java/lang/String") (Q := Q28v1 Z r0 r1 h0 n0) rfl (plainFor_of_name pn4) ?_
  intro p e s m below meth c s₁ g₀ hg₀ Bd hx hby hml hZ hown hnm X0 e0
  have N0 := Fr.nil n0
  have pre0 : ∀ t, Sx p e below s₁ (mkF m 0 #[rv r0, rv r1, iv (1 : Int32)] []) t → Sx p e below s₁ g₀ t := fun t k => by subst hg₀; exact castTop (ef_28v1 m r0 r1 (1 : Int32)) k
  have pre1 : ∀ t, Sx p e below s₁ (mkF m 1 #[rv r0, rv r1, iv (1 : Int32)] [(.ref r0)]) t → Sx p e below s₁ g₀ t := by
    intro t kt
    refine pre0 _ ?_
    refine XS.aloadN X0.here hx rfl (hb hby d28_0) rfl rfl ?_
    exact kt
  obtain ⟨T2, X2, e2, st2⟩ := initO X0 hx hZ hown (own_w hw 21 rfl) (own_w hw 22 rfl) (own_w hw 23 rfl) e0 (g := (mkF m 1 #[rv r0, rv r1, iv (1 : Int32)] [(.ref r0)])) rfl (by rw [hml]; rfl) rfl (hb hby d28_1) (by decide) (W := 0) (by show 2 * 0 + _ ≤ _; exact Nat.le_of_eq rfl) (by decide)
  have pre3 : ∀ t, Sx p e below T2 (mkF m 6 #[rv r0, rv r1, iv (1 : Int32)] [(.ref r1), (.ref r0)]) t → Sx p e below s₁ g₀ t := by
    intro t kt
    refine pre1 _ ?_
    refine st2 _ ?_
    show Sx p e below T2 (mkF m 4 #[rv r0, rv r1, iv (1 : Int32)] []) _
    refine XS.aloadN X2.here hx rfl (hb hby d28_4) rfl rfl ?_
    refine XS.aloadN X2.here hx rfl (hb hby d28_5) rfl rfl ?_
    exact kt
  obtain ⟨T4, h4, X4, e4, W4, st4⟩ := putF X2 hx hZ hown (host := "") (Or.inl (own_w hw 37 rfl)) Via.refl e2 F_value_r0 E_r0 (Or.inr ⟨(own_w hw 38 rfl), rfl, hnm⟩) (own_w hw 12 rfl) (ty := (.array .byte)) (by decide) rfl rfl (g := (mkF m 6 #[rv r0, rv r1, iv (1 : Int32)] [(.ref r1), (.ref r0)])) rfl rfl (hb hby d28_6)
  have Fw4 : Fld Z h4 r0 "java/lang/String" "value" "[B" (.ref r1) := F_value_r0.same W4
  have K4 : Keep h0 h4 [r0] := (Keep.refl h0 [r0]).wr W4 (Or.inl (List.mem_of_getElem? (i := 0) rfl))
  have N4 := Fr.snoc X4 N0 g_r0
  have pre5 : ∀ t, Sx p e below T4 (mkF m 11 #[rv r0, rv r1, iv (1 : Int32)] [(.int (1 : Int32)), (.ref r0)]) t → Sx p e below s₁ g₀ t := by
    intro t kt
    refine pre3 _ ?_
    refine st4 _ ?_
    show Sx p e below T4 (mkF m 9 #[rv r0, rv r1, iv (1 : Int32)] []) _
    refine XS.aloadN X4.here hx rfl (hb hby d28_9) rfl rfl ?_
    refine XS.iloadN X4.here hx rfl (hb hby d28_10) rfl ?_
    exact kt
  obtain ⟨T6, h6, X6, e6, W6, st6⟩ := putFN X4 hx hZ hown (own_w hw 35 rfl) Via.refl e4 (F_coder_r0.other W4 (Or.inr (slot_ne (Or.inr (own_w hw 36 rfl)) (Or.inr (own_w hw 38 rfl)) (by decide) (t := .byte) (t' := (.array .byte)) (by decide) (by decide)))) (E_r0.wr W4) (Or.inr ⟨(own_w hw 36 rfl), rfl, hnm⟩) (own_w hw 12 rfl) (ty := .byte) (v' := (.int (1 : Int32))) (by decide) rfl (by decide) (g := (mkF m 11 #[rv r0, rv r1, iv (1 : Int32)] [(.int (1 : Int32)), (.ref r0)])) rfl rfl (hb hby d28_11)
  have Fw6 : Fld Z h6 r0 "java/lang/String" "coder" "B" (.int (1 : Int32)) := (F_coder_r0.other W4 (Or.inr (slot_ne (Or.inr (own_w hw 36 rfl)) (Or.inr (own_w hw 38 rfl)) (by decide) (t := .byte) (t' := (.array .byte)) (by decide) (by decide)))).same W6
  have K6 : Keep h0 h6 [r0] := K4.wr W6 (Or.inl (List.mem_of_getElem? (i := 0) rfl))
  have N6 := Fr.snoc X6 N4 g_r0
  have pre7 : ∀ t, Sx p e below T6 (mkF m 14 #[rv r0, rv r1, iv (1 : Int32)] []) t → Sx p e below s₁ g₀ t := by
    intro t kt
    refine pre5 _ ?_
    refine st6 _ ?_
    exact kt
  obtain ⟨fs, hr, hrun, hended, hW, hsame⟩ := X6.leave (v := none) (fun _ => rfl)
  refine ⟨_, _, _, pre7 _ ?_, hrun, hended, ?_, ⟨_, rfl⟩, hW, hsame.mono (by decide) (by decide)⟩
  · show Steps p.tables e below (T6.setTop (mkF m 14 #[rv r0, rv r1, iv (1 : Int32)] [])) _
    exact X6.returnOut hx Bd.returns (hb hby d28_14) hr
  · show Q28v1 Z r0 r1 h0 n0 _ T6.heap _
    rw [e6]
    exact ⟨rfl, N6, K6, (Fw4.other W6 (Or.inr (slot_ne (Or.inr (own_w hw 38 rfl)) (Or.inr (own_w hw 36 rfl)) (by decide) (t := (.array .byte)) (t' := .byte) (by decide) (by decide)))), Fw6⟩
def own_sf (Z : State) (h : Heap) (x y : Addr) (k : ClassId) (cs : List Int32) : Prop := (Fld Z h x "java/lang/String" "coder" "B" (.int (0 : Int32)) ∧ (∀ x ∈ cs, ¬ ((255 : Int32) < x)) ∧ Arv Z h y k .byte (own_len cs) (own_M (own_Lb cs)) (.int (0 : Int32))) ∨ (Fld Z h x "java/lang/String" "coder" "B" (.int (1 : Int32)) ∧ Arv Z h y k .byte (own_len (own_U cs)) (own_M (own_U cs)) (.int (0 : Int32)))
theorem own_sf.ext {Z : State} {h h' : Heap} {x y : Addr} {k : ClassId} {cs : List Int32} (D : own_sf Z h x y k cs) (E : Ext h h') : own_sf Z h' x y k cs := by
  rcases D with ⟨F, q, V⟩ | ⟨F, V⟩
  · exact Or.inl ⟨F.ext E, q, V.ext E⟩
  · exact Or.inr ⟨F.ext E, V.ext E⟩
theorem own_sf.keep {Z : State} {h h' : Heap} {x y : Addr} {k : ClassId} {cs : List Int32} {ws : List Addr} (D : own_sf Z h x y k cs) (E : Keep h h' ws) (nx : x ∉ ws) (ny : y ∉ ws) : own_sf Z h' x y k cs := by
  rcases D with ⟨F, q, V⟩ | ⟨F, V⟩
  · exact Or.inl ⟨F.keep E nx, q, V.keep E ny⟩
  · exact Or.inr ⟨F.keep E nx, V.keep E ny⟩
abbrev D4 (q : Nat) (i : Instr) (k : Nat) : Prop := decode jdk_42_method_149_code q = .ok (i, k)
theorem d4_0 : D4 0 (.aload_n 0) 1 := by decide +kernel
theorem d4_1 : D4 1 (.invokespecial 1) 3 := by decide +kernel
theorem d4_4 : D4 4 (.iload_n 3) 1 := by decide +kernel
theorem d4_5 : D4 5 (.ifCond .ne 22) 3 := by decide +kernel
theorem d4_27 : D4 27 (.getstatic 38) 3 := by decide +kernel
theorem d4_30 : D4 30 (.ifCond .eq 28) 3 := by decide +kernel
theorem d4_33 : D4 33 (.aload_n 1) 1 := by decide +kernel
theorem d4_34 : D4 34 (.iload_n 2) 1 := by decide +kernel
theorem d4_35 : D4 35 (.iload_n 3) 1 := by decide +kernel
theorem d4_36 : D4 36 (.invokestatic 177) 3 := by decide +kernel
theorem d4_39 : D4 39 (.astore 5) 2 := by decide +kernel
theorem d4_41 : D4 41 (.aload_n 0) 1 := by decide +kernel
theorem d4_42 : D4 42 (.aload 5) 2 := by decide +kernel
theorem d4_44 : D4 44 (.iload_n 3) 1 := by decide +kernel
theorem pd19 : parseMethodDescriptor "([BI)B" = some ⟨[(.array .byte), .int], some .byte⟩ := by decide +kernel
theorem d4_45 : D4 45 (.invokestatic 47) 3 := by decide +kernel
theorem d4_48 : D4 48 (.putfield 15) 3 := by decide +kernel
theorem d4_51 : D4 51 (.aload_n 0) 1 := by decide +kernel
theorem d4_52 : D4 52 (.aload 5) 2 := by decide +kernel
theorem d4_54 : D4 54 (.putfield 9) 3 := by decide +kernel
theorem d4_57 : D4 57 (.return_) 1 := by decide +kernel
theorem ef_4 (m : MethodId) (x0 : Addr) (x1 : Addr) (x2 : Int32) (x3 : Int32) : entryFrame m #[(.ref x0), (.ref x1), (.int x2), (.int x3), .null] 6 = mkF m 0 #[.val (.ref x0), .val (.ref x1), .val (.int x2), .val (.int x3), .val .null, .unset] [] := by first | (simp [entryFrame, mkF, argsToLocals, Value.category]; done) | rfl
def Q4 (Z : State) (r0 : Addr) (r1 : Addr) (kc : ClassId) (cs_ : List Int32) (cs : Int32) (h0 : Heap) (n0 : Nat) (v : Option Value) (h : Heap) (L : List Loc) : Prop := ∃ y k, v = none ∧ Fr n0 L ∧ Keep h0 h [r0] ∧ h0.size ≤ y ∧ Fld Z h r0 "java/lang/String" "value" "[B" (.ref y) ∧ Exa Z h y "[B" ∧ own_sf Z h r0 y k cs_
abbrev R4 : Room := { frames := 5, cells := 2, slots := 15, locals := 93 }
theorem rm4 (l : Launch) (Z : State) (a0 : Array Value) (hw : ∀ d ∈ tables_1, d.before a0 Z = true) (ws : List Jvm.Cond) (r0 : Addr) (r1 : Addr) (kc : ClassId) (cs_ : List Int32) (cs : Int32) (h0 : Heap) (n0 : Nat) (Z0 : n0 ≤ h0.size) (F_value_r0 : Fld Z h0 r0 "java/lang/String" "value" "[B" .null) (F_coder_r0 : Fld Z h0 r0 "java/lang/String" "coder" "B" (.int (0 : Int32))) (E_r0 : Exa Z h0 r0 "java/lang/String") (g_r0 : n0 ≤ r0) (V_r1 : Arv Z h0 r1 kc .char (own_len cs_) (own_M cs_) (.int (0 : Int32))) (hcs_ : ∀ x ∈ cs_, own_ch x) (hl5 : cs_.length ≤ 5) (hpos : 0 < cs_.length) (O0 : Old Z n0 h0) (S_cs : Sta Z Z.heap "java/lang/String" "COMPACT_STRINGS" "Z" (.int cs)) (hcs : ¬ (cs = (0 : Int32))) (S_ad : Sta Z Z.heap "java/lang/StringUTF16" "$assertionsDisabled" "Z" (.int (1 : Int32))) (S_hi : Sta Z Z.heap "java/lang/StringUTF16" "HI_BYTE_SHIFT" "I" (.int (0 : Int32))) (S_lo : Sta Z Z.heap "java/lang/StringUTF16" "LO_BYTE_SHIFT" "I" (.int (8 : Int32))) :
    MetFree l Y23 (head1 (Jvm.Cond.code Y23 jdk_42_method_149_code 6 none :: ws) R4) (fun a U => a = #[(.ref r0), (.ref r1), (.int (0 : Int32)), (.int (own_len cs_)), .null] ∧ Z.Warmed39 U.vm ∧ U.heap = h0) (fun _ _ _ _ _ => True) (fun _ U o U' => ∃ v L, o = .returned v ∧ Q4 Z r0 r1 kc cs_ cs h0 n0 v U'.heap L ∧ FrameEnd U o U' L R4.cells R4.slots) := by
  refine own_start (C := "java/lang/String") (Q := Q4 Z r0 r1 kc cs_ cs h0 n0) rfl (plainFor_of_name pn4) ?_
  intro p e s m below meth c s₁ g₀ hg₀ Bd hx hby hml hZ hown hnm X0 e0
  have N0 := Fr.nil n0
  have pre0 : ∀ t, Sx p e below s₁ (mkF m 0 #[rv r0, rv r1, iv (0 : Int32), iv (own_len cs_), .val .null, .unset] []) t → Sx p e below s₁ g₀ t := fun t k => by subst hg₀; exact castTop (ef_4 m r0 r1 (0 : Int32) (own_len cs_)) k
  have pre1 : ∀ t, Sx p e below s₁ (mkF m 1 #[rv r0, rv r1, iv (0 : Int32), iv (own_len cs_), .val .null, .unset] [(.ref r0)]) t → Sx p e below s₁ g₀ t := by
    intro t kt
    refine pre0 _ ?_
    refine XS.aloadN X0.here hx rfl (hb hby d4_0) rfl rfl ?_
    exact kt
  obtain ⟨T2, X2, e2, st2⟩ := initO X0 hx hZ hown (own_w hw 21 rfl) (own_w hw 22 rfl) (own_w hw 23 rfl) e0 (g := (mkF m 1 #[rv r0, rv r1, iv (0 : Int32), iv (own_len cs_), .val .null, .unset] [(.ref r0)])) rfl (by rw [hml]; rfl) rfl (hb hby d4_1) (by decide) (W := 0) (by show 2 * 0 + _ ≤ _; exact Nat.le_of_eq rfl) (by decide)
  have pre4 : ∀ t, Sx p e below T2 (mkF m 5 #[rv r0, rv r1, iv (0 : Int32), iv (own_len cs_), .val .null, .unset] [(.int (own_len cs_))]) t → Sx p e below s₁ g₀ t := by
    intro t kt
    refine pre1 _ ?_
    refine st2 _ ?_
    show Sx p e below T2 (mkF m 4 #[rv r0, rv r1, iv (0 : Int32), iv (own_len cs_), .val .null, .unset] []) _
    refine XS.iloadN X2.here hx rfl (hb hby d4_4) rfl ?_
    exact kt
  have hc5_3 : ¬ ((own_len cs_) = (0 : Int32)) := (own_nz hpos (by omega))
  have pre5 : ∀ t, Sx p e below T2 (mkF m 27 #[rv r0, rv r1, iv (0 : Int32), iv (own_len cs_), .val .null, .unset] []) t → Sx p e below s₁ g₀ t := by
    intro t kt
    refine pre4 _ ?_
    refine XS.ifYes X2.here hx rfl (pc0 := 5) (pc' := 27) rfl (hb hby d4_5) rfl ((if0 _ _).trans (feq hc5_3).2) (by decide) (by decide) ?_
    exact kt
  obtain ⟨T6, X6, e6, st6⟩ := getS2 X2 hx hZ hown (host := "") (Or.inl (own_w hw 24 rfl)) Via.refl e2 (S_cs.ext (O0.keep (Keep.refl h0 [r0]) (allS g_r0 all0)).2) (g := (mkF m 27 #[rv r0, rv r1, iv (0 : Int32), iv (own_len cs_), .val .null, .unset] [])) rfl (hb hby d4_27)
  have pre8 : ∀ t, Sx p e below T6 (mkF m 30 #[rv r0, rv r1, iv (0 : Int32), iv (own_len cs_), .val .null, .unset] [(.int cs)]) t → Sx p e below s₁ g₀ t := by
    intro t kt
    refine pre5 _ ?_
    refine st6 _ ?_
    exact kt
  have hc30_7 : ¬ (cs = (0 : Int32)) := hcs
  have pre9 : ∀ t, Sx p e below T6 (mkF m 36 #[rv r0, rv r1, iv (0 : Int32), iv (own_len cs_), .val .null, .unset] [(.int (own_len cs_)), (.int (0 : Int32)), (.ref r1)]) t → Sx p e below s₁ g₀ t := by
    intro t kt
    refine pre8 _ ?_
    refine XS.ifNo X6.here hx rfl (hb hby d4_30) rfl ((if0 _ _).trans (feq hc30_7).1) ?_
    refine XS.aloadN X6.here hx rfl (hb hby d4_33) rfl rfl ?_
    refine XS.iloadN X6.here hx rfl (hb hby d4_34) rfl ?_
    refine XS.iloadN X6.here hx rfl (hb hby d4_35) rfl ?_
    exact kt
  obtain ⟨_, T10, Lc10, X10, hQ10, st10⟩ := own_cS X6 hx hZ (y := Y20) hown (own_w hw 25 rfl) (own_w hw 26 rfl) (own_w hw 27 rfl) (own_w hw 28 rfl) (by decide) (W := 0) (rm6 l Z a0 hw [] r1 kc cs_ h0 n0 (Nat.le_trans Z0 (Keep.refl h0 [r0]).1) V_r1 hcs_ hl5 hpos (O0.keep (Keep.refl h0 [r0]) (allS g_r0 all0)) S_ad S_hi S_lo) (by decide) (by decide) (g := (mkF m 36 #[rv r0, rv r1, iv (0 : Int32), iv (own_len cs_), .val .null, .unset] [(.int (own_len cs_)), (.int (0 : Int32)), (.ref r1)])) rfl hml.symm (argsL := [(.ref r1), (.int (0 : Int32)), (.int (own_len cs_))]) (rest := []) (lenOf pd18 rfl) rfl (Nat.le_of_eq rfl) (hb hby d4_36) rfl e6 (by decide) (by decide)
  obtain ⟨y10, ky10, rfl, N10q, Kc10, hy10, Ey10, hD10⟩ := hQ10
  have N10 := Fr.app N0 N10q
  have K10 : Keep h0 T10.heap [r0] := (Keep.refl h0 [r0]).trans Kc10 all0
  have g_y10 : n0 ≤ y10 := Nat.le_trans (Nat.le_trans Z0 (Keep.refl h0 [r0]).1) hy10
  have sz_y10 : h0.size ≤ y10 := Nat.le_trans (Keep.refl h0 [r0]).1 hy10
  have pre11 : ∀ t, Sx p e below T10 (mkF m 39 #[rv r0, rv r1, iv (0 : Int32), iv (own_len cs_), .val .null, .unset] [(.ref y10)]) t → Sx p e below s₁ g₀ t := by
    intro t kt
    refine pre9 _ ?_
    refine st10 _ ?_
    exact kt
  rcases hD10 with ⟨hL, Vy10⟩ | Vy10
  · have pre12 : ∀ t, Sx p e below T10 (mkF m 45 #[rv r0, rv r1, iv (0 : Int32), iv (own_len cs_), .val .null, rv y10] [(.int (own_len cs_)), (.ref y10), (.ref r0)]) t → Sx p e below s₁ g₀ t := by
      intro t kt
      refine pre11 _ ?_
      refine XS.astore X10.here hx rfl (hb hby d4_39) rfl rfl (l' := #[rv r0, rv r1, iv (0 : Int32), iv (own_len cs_), .val .null, rv y10]) rfl ?_
      refine XS.aloadN X10.here hx rfl (hb hby d4_41) rfl rfl ?_
      refine XS.aload X10.here hx rfl (hb hby d4_42) rfl rfl ?_
      refine XS.iloadN X10.here hx rfl (hb hby d4_44) rfl ?_
      exact kt
    obtain ⟨_, T13, Lc13, X13, hQ13, st13⟩ := own_cS X10 hx hZ (y := Y21) hown (own_w hw 32 rfl) (own_w hw 33 rfl) (own_w hw 27 rfl) (own_w hw 34 rfl) (by decide) (W := 1) (rm8 l Z a0 hw [] y10 (own_len cs_) ky10 (own_len cs_) (own_M (own_Lb cs_)) (0 : Int32) T10.heap n0 (Nat.le_trans Z0 K10.1) Vy10 (own_cf0 _) (by decide)) (by decide) (by decide) (g := (mkF m 45 #[rv r0, rv r1, iv (0 : Int32), iv (own_len cs_), .val .null, rv y10] [(.int (own_len cs_)), (.ref y10), (.ref r0)])) rfl hml.symm (argsL := [(.ref y10), (.int (own_len cs_))]) (rest := [(.ref r0)]) (lenOf pd19 rfl) rfl (Nat.le_of_eq rfl) (hb hby d4_45) rfl rfl (by decide) (by decide)
    obtain ⟨rfl, N13q, hh13⟩ := hQ13
    have N13 := Fr.app N10 N13q
    have pre14 : ∀ t, Sx p e below T13 (mkF m 48 #[rv r0, rv r1, iv (0 : Int32), iv (own_len cs_), .val .null, rv y10] [(.int (0 : Int32)), (.ref r0)]) t → Sx p e below s₁ g₀ t := by
      intro t kt
      refine pre12 _ ?_
      refine st13 _ ?_
      exact kt
    obtain ⟨T15, h15, X15, e15, W15, st15⟩ := putFN X13 hx hZ hown (own_w hw 35 rfl) Via.refl hh13 (F_coder_r0.keep Kc10 nin0) (E_r0.keep Kc10) (Or.inr ⟨(own_w hw 36 rfl), rfl, hnm⟩) (own_w hw 12 rfl) (ty := .byte) (v' := (.int (0 : Int32))) (by decide) rfl (by decide) (g := (mkF m 48 #[rv r0, rv r1, iv (0 : Int32), iv (own_len cs_), .val .null, rv y10] [(.int (0 : Int32)), (.ref r0)])) rfl rfl (hb hby d4_48)
    have Fw15 : Fld Z h15 r0 "java/lang/String" "coder" "B" (.int (0 : Int32)) := (F_coder_r0.keep Kc10 nin0).same W15
    have K15 : Keep h0 h15 [r0] := K10.wr W15 (Or.inl (List.mem_of_getElem? (i := 0) rfl))
    have N15 := Fr.snoc X15 N13 g_r0
    have pre16 : ∀ t, Sx p e below T15 (mkF m 54 #[rv r0, rv r1, iv (0 : Int32), iv (own_len cs_), .val .null, rv y10] [(.ref y10), (.ref r0)]) t → Sx p e below s₁ g₀ t := by
      intro t kt
      refine pre14 _ ?_
      refine st15 _ ?_
      show Sx p e below T15 (mkF m 51 #[rv r0, rv r1, iv (0 : Int32), iv (own_len cs_), .val .null, rv y10] []) _
      refine XS.aloadN X15.here hx rfl (hb hby d4_51) rfl rfl ?_
      refine XS.aload X15.here hx rfl (hb hby d4_52) rfl rfl ?_
      exact kt
    obtain ⟨T17, h17, X17, e17, W17, st17⟩ := putF X15 hx hZ hown (host := "") (Or.inl (own_w hw 37 rfl)) Via.refl e15 ((F_value_r0.keep Kc10 nin0).other W15 (Or.inr (slot_ne (Or.inr (own_w hw 38 rfl)) (Or.inr (own_w hw 36 rfl)) (by decide) (t := (.array .byte)) (t' := .byte) (by decide) (by decide)))) ((E_r0.keep Kc10).wr W15) (Or.inr ⟨(own_w hw 38 rfl), rfl, hnm⟩) (own_w hw 12 rfl) (ty := (.array .byte)) (by decide) rfl rfl (g := (mkF m 54 #[rv r0, rv r1, iv (0 : Int32), iv (own_len cs_), .val .null, rv y10] [(.ref y10), (.ref r0)])) rfl rfl (hb hby d4_54)
    have Fw17 : Fld Z h17 r0 "java/lang/String" "value" "[B" (.ref y10) := ((F_value_r0.keep Kc10 nin0).other W15 (Or.inr (slot_ne (Or.inr (own_w hw 38 rfl)) (Or.inr (own_w hw 36 rfl)) (by decide) (t := (.array .byte)) (t' := .byte) (by decide) (by decide)))).same W17
    have K17 : Keep h0 h17 [r0] := K15.wr W17 (Or.inl (List.mem_of_getElem? (i := 0) rfl))
    have N17 := Fr.snoc X17 N15 g_r0
    have pre18 : ∀ t, Sx p e below T17 (mkF m 57 #[rv r0, rv r1, iv (0 : Int32), iv (own_len cs_), .val .null, rv y10] []) t → Sx p e below s₁ g₀ t := by
      intro t kt
      refine pre16 _ ?_
      refine st17 _ ?_
      exact kt
    obtain ⟨fs, hr, hrun, hended, hW, hsame⟩ := X17.leave (v := none) (fun _ => rfl)
    refine ⟨_, _, _, pre18 _ ?_, hrun, hended, ?_, ⟨_, rfl⟩, hW, hsame.mono (by decide) (by decide)⟩
    · show Steps p.tables e below (T17.setTop (mkF m 57 #[rv r0, rv r1, iv (0 : Int32), iv (own_len cs_), .val .null, rv y10] [])) _
      exact X17.returnOut hx Bd.returns (hb hby d4_57) hr
    · show Q4 Z r0 r1 kc cs_ cs h0 n0 _ T17.heap _
      rw [e17]
      exact ⟨y10, ky10, rfl, N17, K17, sz_y10, Fw17, ((Ey10.wr W15).wr W17), Or.inl ⟨(Fw15.other W17 (Or.inr (slot_ne (Or.inr (own_w hw 36 rfl)) (Or.inr (own_w hw 38 rfl)) (by decide) (t := .byte) (t' := (.array .byte)) (by decide) (by decide)))), hL, ((Vy10.other W15 (Ne.symm (Nat.ne_of_lt (Nat.lt_of_lt_of_le E_r0.lt hy10)))).other W17 (Ne.symm (Nat.ne_of_lt (Nat.lt_of_lt_of_le E_r0.lt hy10))))⟩⟩
  · have pre19 : ∀ t, Sx p e below T10 (mkF m 45 #[rv r0, rv r1, iv (0 : Int32), iv (own_len cs_), .val .null, rv y10] [(.int (own_len cs_)), (.ref y10), (.ref r0)]) t → Sx p e below s₁ g₀ t := by
      intro t kt
      refine pre11 _ ?_
      refine XS.astore X10.here hx rfl (hb hby d4_39) rfl rfl (l' := #[rv r0, rv r1, iv (0 : Int32), iv (own_len cs_), .val .null, rv y10]) rfl ?_
      refine XS.aloadN X10.here hx rfl (hb hby d4_41) rfl rfl ?_
      refine XS.aload X10.here hx rfl (hb hby d4_42) rfl rfl ?_
      refine XS.iloadN X10.here hx rfl (hb hby d4_44) rfl ?_
      exact kt
    obtain ⟨_, T20, Lc20, X20, hQ20, st20⟩ := own_cS X10 hx hZ (y := Y21) hown (own_w hw 32 rfl) (own_w hw 33 rfl) (own_w hw 27 rfl) (own_w hw 34 rfl) (by decide) (W := 1) (rm8 l Z a0 hw [] y10 (own_len cs_) ky10 (own_len (own_U cs_)) (own_M (own_U cs_)) (1 : Int32) T10.heap n0 (Nat.le_trans Z0 K10.1) Vy10 (own_cf1 hpos hl5) (by decide)) (by decide) (by decide) (g := (mkF m 45 #[rv r0, rv r1, iv (0 : Int32), iv (own_len cs_), .val .null, rv y10] [(.int (own_len cs_)), (.ref y10), (.ref r0)])) rfl hml.symm (argsL := [(.ref y10), (.int (own_len cs_))]) (rest := [(.ref r0)]) (lenOf pd19 rfl) rfl (Nat.le_of_eq rfl) (hb hby d4_45) rfl rfl (by decide) (by decide)
    obtain ⟨rfl, N20q, hh20⟩ := hQ20
    have N20 := Fr.app N10 N20q
    have pre21 : ∀ t, Sx p e below T20 (mkF m 48 #[rv r0, rv r1, iv (0 : Int32), iv (own_len cs_), .val .null, rv y10] [(.int (1 : Int32)), (.ref r0)]) t → Sx p e below s₁ g₀ t := by
      intro t kt
      refine pre19 _ ?_
      refine st20 _ ?_
      exact kt
    obtain ⟨T22, h22, X22, e22, W22, st22⟩ := putFN X20 hx hZ hown (own_w hw 35 rfl) Via.refl hh20 (F_coder_r0.keep Kc10 nin0) (E_r0.keep Kc10) (Or.inr ⟨(own_w hw 36 rfl), rfl, hnm⟩) (own_w hw 12 rfl) (ty := .byte) (v' := (.int (1 : Int32))) (by decide) rfl (by decide) (g := (mkF m 48 #[rv r0, rv r1, iv (0 : Int32), iv (own_len cs_), .val .null, rv y10] [(.int (1 : Int32)), (.ref r0)])) rfl rfl (hb hby d4_48)
    have Fw22 : Fld Z h22 r0 "java/lang/String" "coder" "B" (.int (1 : Int32)) := (F_coder_r0.keep Kc10 nin0).same W22
    have K22 : Keep h0 h22 [r0] := K10.wr W22 (Or.inl (List.mem_of_getElem? (i := 0) rfl))
    have N22 := Fr.snoc X22 N20 g_r0
    have pre23 : ∀ t, Sx p e below T22 (mkF m 54 #[rv r0, rv r1, iv (0 : Int32), iv (own_len cs_), .val .null, rv y10] [(.ref y10), (.ref r0)]) t → Sx p e below s₁ g₀ t := by
      intro t kt
      refine pre21 _ ?_
      refine st22 _ ?_
      show Sx p e below T22 (mkF m 51 #[rv r0, rv r1, iv (0 : Int32), iv (own_len cs_), .val .null, rv y10] []) _
      refine XS.aloadN X22.here hx rfl (hb hby d4_51) rfl rfl ?_
      refine XS.aload X22.here hx rfl (hb hby d4_52) rfl rfl ?_
      exact kt
    obtain ⟨T24, h24, X24, e24, W24, st24⟩ := putF X22 hx hZ hown (host := "") (Or.inl (own_w hw 37 rfl)) Via.refl e22 ((F_value_r0.keep Kc10 nin0).other W22 (Or.inr (slot_ne (Or.inr (own_w hw 38 rfl)) (Or.inr (own_w hw 36 rfl)) (by decide) (t := (.array .byte)) (t' := .byte) (by decide) (by decide)))) ((E_r0.keep Kc10).wr W22) (Or.inr ⟨(own_w hw 38 rfl), rfl, hnm⟩) (own_w hw 12 rfl) (ty := (.array .byte)) (by decide) rfl rfl (g := (mkF m 54 #[rv r0, rv r1, iv (0 : Int32), iv (own_len cs_), .val .null, rv y10] [(.ref y10), (.ref r0)])) rfl rfl (hb hby d4_54)
    have Fw24 : Fld Z h24 r0 "java/lang/String" "value" "[B" (.ref y10) := ((F_value_r0.keep Kc10 nin0).other W22 (Or.inr (slot_ne (Or.inr (own_w hw 38 rfl)) (Or.inr (own_w hw 36 rfl)) (by decide) (t := (.array .byte)) (t' := .byte) (by decide) (by decide)))).same W24
    have K24 : Keep h0 h24 [r0] := K22.wr W24 (Or.inl (List.mem_of_getElem? (i := 0) rfl))
    have N24 := Fr.snoc X24 N22 g_r0
    have pre25 : ∀ t, Sx p e below T24 (mkF m 57 #[rv r0, rv r1, iv (0 : Int32), iv (own_len cs_), .val .null, rv y10] []) t → Sx p e below s₁ g₀ t := by
      intro t kt
      refine pre23 _ ?_
      refine st24 _ ?_
      exact kt
    obtain ⟨fs, hr, hrun, hended, hW, hsame⟩ := X24.leave (v := none) (fun _ => rfl)
    refine ⟨_, _, _, pre25 _ ?_, hrun, hended, ?_, ⟨_, rfl⟩, hW, hsame.mono (by decide) (by decide)⟩
    · show Steps p.tables e below (T24.setTop (mkF m 57 #[rv r0, rv r1, iv (0 : Int32), iv (own_len cs_), .val .null, rv y10] [])) _
      exact X24.returnOut hx Bd.returns (hb hby d4_57) hr
    · show Q4 Z r0 r1 kc cs_ cs h0 n0 _ T24.heap _
      rw [e24]
      exact ⟨y10, ky10, rfl, N24, K24, sz_y10, Fw24, ((Ey10.wr W22).wr W24), Or.inr ⟨(Fw22.other W24 (Or.inr (slot_ne (Or.inr (own_w hw 36 rfl)) (Or.inr (own_w hw 38 rfl)) (by decide) (t := .byte) (t' := (.array .byte)) (by decide) (by decide)))), ((Vy10.other W22 (Ne.symm (Nat.ne_of_lt (Nat.lt_of_lt_of_le E_r0.lt hy10)))).other W24 (Ne.symm (Nat.ne_of_lt (Nat.lt_of_lt_of_le E_r0.lt hy10))))⟩⟩
abbrev D3 (q : Nat) (i : Instr) (k : Nat) : Prop := decode jdk_42_method_3_code q = .ok (i, k)
theorem d3_0 : D3 0 (.aload_n 0) 1 := by decide +kernel
theorem d3_1 : D3 1 (.aload_n 1) 1 := by decide +kernel
theorem d3_2 : D3 2 (.iconst 0) 1 := by decide +kernel
theorem d3_3 : D3 3 (.aload_n 1) 1 := by decide +kernel
theorem d3_4 : D3 4 (.arraylength) 1 := by decide +kernel
theorem d3_5 : D3 5 (.aconst_null) 1 := by decide +kernel
theorem pd20 : parseMethodDescriptor "([CIILjava/lang/Void;)V" = some ⟨[(.array .char), .int, .int, (.object "java/lang/Void")], none⟩ := by decide +kernel
theorem d3_6 : D3 6 (.invokespecial 27) 3 := by decide +kernel
theorem d3_9 : D3 9 (.return_) 1 := by decide +kernel
theorem ef_3 (m : MethodId) (x0 : Addr) (x1 : Addr) : entryFrame m #[(.ref x0), (.ref x1)] 2 = mkF m 0 #[.val (.ref x0), .val (.ref x1)] [] := by first | (simp [entryFrame, mkF, argsToLocals, Value.category]; done) | rfl
def Q3 (Z : State) (r0 : Addr) (r1 : Addr) (kc : ClassId) (cs_ : List Int32) (cs : Int32) (h0 : Heap) (n0 : Nat) (v : Option Value) (h : Heap) (L : List Loc) : Prop := ∃ y k, v = none ∧ Fr n0 L ∧ Keep h0 h [r0] ∧ h0.size ≤ y ∧ Fld Z h r0 "java/lang/String" "value" "[B" (.ref y) ∧ Exa Z h y "[B" ∧ own_sf Z h r0 y k cs_
abbrev R3 : Room := { frames := 6, cells := 2, slots := 15, locals := 110 }
theorem rm3 (l : Launch) (Z : State) (a0 : Array Value) (hw : ∀ d ∈ tables_1, d.before a0 Z = true) (ws : List Jvm.Cond) (r0 : Addr) (r1 : Addr) (kc : ClassId) (cs_ : List Int32) (cs : Int32) (h0 : Heap) (n0 : Nat) (Z0 : n0 ≤ h0.size) (F_value_r0 : Fld Z h0 r0 "java/lang/String" "value" "[B" .null) (F_coder_r0 : Fld Z h0 r0 "java/lang/String" "coder" "B" (.int (0 : Int32))) (E_r0 : Exa Z h0 r0 "java/lang/String") (g_r0 : n0 ≤ r0) (V_r1 : Arv Z h0 r1 kc .char (own_len cs_) (own_M cs_) (.int (0 : Int32))) (hcs_ : ∀ x ∈ cs_, own_ch x) (hl5 : cs_.length ≤ 5) (hpos : 0 < cs_.length) (O0 : Old Z n0 h0) (S_cs : Sta Z Z.heap "java/lang/String" "COMPACT_STRINGS" "Z" (.int cs)) (hcs : ¬ (cs = (0 : Int32))) (S_ad : Sta Z Z.heap "java/lang/StringUTF16" "$assertionsDisabled" "Z" (.int (1 : Int32))) (S_hi : Sta Z Z.heap "java/lang/StringUTF16" "HI_BYTE_SHIFT" "I" (.int (0 : Int32))) (S_lo : Sta Z Z.heap "java/lang/StringUTF16" "LO_BYTE_SHIFT" "I" (.int (8 : Int32))) :
    MetFree l Y24 (head1 (Jvm.Cond.code Y24 jdk_42_method_3_code 2 none :: ws) R3) (fun a U => a = #[(.ref r0), (.ref r1)] ∧ Z.Warmed39 U.vm ∧ U.heap = h0) (fun _ _ _ _ _ => True) (fun _ U o U' => ∃ v L, o = .returned v ∧ Q3 Z r0 r1 kc cs_ cs h0 n0 v U'.heap L ∧ FrameEnd U o U' L R3.cells R3.slots) := by
  refine own_start (C := "java/lang/String") (Q := Q3 Z r0 r1 kc cs_ cs h0 n0) rfl (plainFor_of_name pn4) ?_
  intro p e s m below meth c s₁ g₀ hg₀ Bd hx hby hml hZ hown hnm X0 e0
  have N0 := Fr.nil n0
  have pre0 : ∀ t, Sx p e below s₁ (mkF m 0 #[rv r0, rv r1] []) t → Sx p e below s₁ g₀ t := fun t k => by subst hg₀; exact castTop (ef_3 m r0 r1) k
  obtain ⟨cl1, Ar1, -, S1, M1, -, -⟩ := id V_r1
  have pre2 : ∀ t, Sx p e below s₁ (mkF m 6 #[rv r0, rv r1] [.null, (.int (own_len cs_)), (.int (0 : Int32)), (.ref r1), (.ref r0)]) t → Sx p e below s₁ g₀ t := by
    intro t kt
    refine pre0 _ ?_
    refine XS.aloadN X0.here hx rfl (hb hby d3_0) rfl rfl ?_
    refine XS.aloadN X0.here hx rfl (hb hby d3_1) rfl rfl ?_
    refine XS.iconst X0.here hx rfl (hb hby d3_2) ?_
    refine XS.aloadN X0.here hx rfl (hb hby d3_3) rfl rfl ?_
    refine X0.arraylength hx (by rw [e0]; exact Ar1.1) (State.isArrayOf_alike hZ.alike Ar1.2.1) (g := (mkF m 4 #[rv r0, rv r1] [(.ref r1), (.int (0 : Int32)), (.ref r1), (.ref r0)])) rfl rfl (hb hby d3_4) _ ?_
    rw [len_of S1 M1]
    show Sx p e below s₁ (mkF m 5 #[rv r0, rv r1] [(.int (own_len cs_)), (.int (0 : Int32)), (.ref r1), (.ref r0)]) _
    refine XS.aconstNull X0.here hx rfl (hb hby d3_5) ?_
    exact kt
  obtain ⟨_, _, ⟨T3, L3, k3, n3⟩, -, X3, ⟨Lc3, hQ3, l3, y3, z3⟩, st3⟩ := X0.specialBack hx (y := Y23) rfl hown (mvT hZ (own_w hw 17 rfl)) (mvT hZ (own_w hw 18 rfl)) (mvT hZ (own_w hw 20 rfl)) (by decide) (backOf (W := 0) (rm4 l Z a0 hw [] r0 r1 kc cs_ cs h0 n0 (Nat.le_trans Z0 (Keep.refl h0 [r0]).1) F_value_r0 F_coder_r0 E_r0 g_r0 V_r1 hcs_ hl5 hpos (O0.keep (Keep.refl h0 [r0]) (allS g_r0 all0)) S_cs hcs S_ad S_hi S_lo) hZ (own_w hw 20 rfl) (own_w hw 13 rfl) (by decide) (by decide)) (g := (mkF m 6 #[rv r0, rv r1] [.null, (.int (own_len cs_)), (.int (0 : Int32)), (.ref r1), (.ref r0)])) rfl (by rw [hml]; rfl) (Steps.refl _) (a := r0) (argsL := [(.ref r1), (.int (0 : Int32)), (.int (own_len cs_)), .null]) (rest := []) (lenOf pd20 rfl) rfl (by show 2 * 0 + _ ≤ _; exact Nat.le_of_eq rfl) (hb hby d3_6) (fun _ _ => ⟨rfl, e0, (by decide : 0 + 2 ≤ _), (by decide : 0 + 15 ≤ _)⟩)
  dsimp only [Pt.U, Pt.locs, Pt.cells, Pt.slots] at X3 l3 y3 z3 st3 hQ3
  subst l3 y3 z3
  obtain ⟨y3, ky3, rfl, N3q, Kc3, hy3, Fv3, Ey3, hD3⟩ := hQ3
  have N3 := Fr.app N0 N3q
  have K3 : Keep h0 T3.heap [r0] := (Keep.refl h0 [r0]).trans Kc3 (allS (Or.inl (List.mem_of_getElem? (i := 0) rfl)) all0)
  have pre4 : ∀ t, Sx p e below T3 (mkF m 9 #[rv r0, rv r1] []) t → Sx p e below s₁ g₀ t := by
    intro t kt
    refine pre2 _ ?_
    refine st3.trans ?_
    exact kt
  obtain ⟨fs, hr, hrun, hended, hW, hsame⟩ := X3.leave (v := none) (fun _ => rfl)
  refine ⟨_, _, _, pre4 _ ?_, hrun, hended, ?_, ⟨_, rfl⟩, hW, hsame.mono (by decide) (by decide)⟩
  · show Steps p.tables e below (T3.setTop (mkF m 9 #[rv r0, rv r1] [])) _
    exact X3.returnOut hx Bd.returns (hb hby d3_9) hr
  · show Q3 Z r0 r1 kc cs_ cs h0 n0 _ T3.heap _
    exact ⟨y3, ky3, rfl, N3, K3, hy3, Fv3, Ey3, hD3⟩
abbrev D14 (q : Nat) (i : Instr) (k : Nat) : Prop := decode jdk_42_method_152_code q = .ok (i, k)
theorem d14_0 : D14 0 (.getstatic 38) 3 := by decide +kernel
theorem d14_3 : D14 3 (.ifCond .eq 10) 3 := by decide +kernel
theorem d14_6 : D14 6 (.aload_n 0) 1 := by decide +kernel
theorem d14_7 : D14 7 (.getfield 15) 3 := by decide +kernel
theorem d14_10 : D14 10 (.goto 4) 3 := by decide +kernel
theorem d14_14 : D14 14 (.ireturn) 1 := by decide +kernel
theorem ef_14 (m : MethodId) (x0 : Addr) : entryFrame m #[(.ref x0)] 1 = mkF m 0 #[.val (.ref x0)] [] := by first | (simp [entryFrame, mkF, argsToLocals, Value.category]; done) | rfl
def Q14 (Z : State) (r0 : Addr) (va : Addr) (cd : Int32) (cs : Int32) (h0 : Heap) (n0 : Nat) (v : Option Value) (h : Heap) (L : List Loc) : Prop := v = some (.int cd) ∧ Fr n0 L ∧ h = h0
abbrev R14 : Room := { frames := 0, cells := 0, slots := 0, locals := 0 }
theorem rm14 (l : Launch) (Z : State) (a0 : Array Value) (hw : ∀ d ∈ tables_1, d.before a0 Z = true) (ws : List Jvm.Cond) (r0 : Addr) (va : Addr) (cd : Int32) (cs : Int32) (h0 : Heap) (n0 : Nat) (Z0 : n0 ≤ h0.size) (F_value_r0 : Fld Z h0 r0 "java/lang/String" "value" "[B" (.ref va)) (F_coder_r0 : Fld Z h0 r0 "java/lang/String" "coder" "B" (.int cd)) (E_r0 : Exa Z h0 r0 "java/lang/String") (hncd : nar .byte cd = cd) (O0 : Old Z n0 h0) (S_cs : Sta Z Z.heap "java/lang/String" "COMPACT_STRINGS" "Z" (.int cs)) (hcs : ¬ (cs = (0 : Int32))) :
    MetFree l Y25 (head1 (Jvm.Cond.code Y25 jdk_42_method_152_code 1 (some .byte) :: ws) R14) (fun a U => a = #[(.ref r0)] ∧ Z.Warmed39 U.vm ∧ U.heap = h0) (fun _ _ _ _ _ => True) (fun _ U o U' => ∃ v L, o = .returned v ∧ Q14 Z r0 va cd cs h0 n0 v U'.heap L ∧ FrameEnd U o U' L R14.cells R14.slots) := by
  refine own_start (C := "java/lang/String") (Q := Q14 Z r0 va cd cs h0 n0) rfl (plainFor_of_name pn4) ?_
  intro p e s m below meth c s₁ g₀ hg₀ Bd hx hby hml hZ hown hnm X0 e0
  have N0 := Fr.nil n0
  have pre0 : ∀ t, Sx p e below s₁ (mkF m 0 #[rv r0] []) t → Sx p e below s₁ g₀ t := fun t k => by subst hg₀; exact castTop (ef_14 m r0) k
  obtain ⟨T1, X1, e1, st1⟩ := getS2 X0 hx hZ hown (host := "") (Or.inl (own_w hw 24 rfl)) Via.refl e0 (S_cs.ext (O0.keep (Keep.refl h0 []) all0).2) (g := (mkF m 0 #[rv r0] [])) rfl (hb hby d14_0)
  have pre3 : ∀ t, Sx p e below T1 (mkF m 3 #[rv r0] [(.int cs)]) t → Sx p e below s₁ g₀ t := by
    intro t kt
    refine pre0 _ ?_
    refine st1 _ ?_
    exact kt
  have hc3_2 : ¬ (cs = (0 : Int32)) := hcs
  have pre4 : ∀ t, Sx p e below T1 (mkF m 7 #[rv r0] [(.ref r0)]) t → Sx p e below s₁ g₀ t := by
    intro t kt
    refine pre3 _ ?_
    refine XS.ifNo X1.here hx rfl (hb hby d14_3) rfl ((if0 _ _).trans (feq hc3_2).1) ?_
    refine XS.aloadN X1.here hx rfl (hb hby d14_6) rfl rfl ?_
    exact kt
  obtain ⟨T5, X5, e5, st5⟩ := getF X1 hx hZ hown (host := "") (Or.inl (own_w hw 35 rfl)) Via.refl e1 F_coder_r0 (g := (mkF m 7 #[rv r0] [(.ref r0)])) rfl rfl (hb hby d14_7)
  have pre6 : ∀ t, Sx p e below T5 (mkF m 14 #[rv r0] [(.int cd)]) t → Sx p e below s₁ g₀ t := by
    intro t kt
    refine pre4 _ ?_
    refine st5 _ ?_
    show Sx p e below T5 (mkF m 10 #[rv r0] [(.int cd)]) _
    refine XS.goto X5.here hx rfl (pc0 := 10) (pc' := 14) rfl (hb hby d14_10) (by decide) (by decide) ?_
    exact kt
  obtain ⟨fs, hr, hrun, hended, hW, hsame⟩ := X5.leave (v := some (.int (nar .byte cd))) (fun h => by rw [Bd.returns] at h; cases h)
  refine ⟨_, _, _, pre6 _ ?_, hrun, hended, ?_, ⟨_, rfl⟩, hW, hsame.mono (by decide) (by decide)⟩
  · show Steps p.tables e below (T5.setTop (mkF m 14 #[rv r0] [(.int cd)])) _
    exact retN X5 hx (t := .byte) Bd.returns (by simp) (hb hby d14_14) hr
  · show Q14 Z r0 va cd cs h0 n0 _ T5.heap _
    rw [e5]
    exact ⟨congrArg (fun z => some (Value.int z)) (hncd), N0, rfl⟩
abbrev D12 (q : Nat) (i : Instr) (k : Nat) : Prop := decode jdk_42_method_154_code q = .ok (i, k)
theorem d12_0 : D12 0 (.getstatic 38) 3 := by decide +kernel
theorem d12_3 : D12 3 (.ifCond .eq 14) 3 := by decide +kernel
theorem d12_6 : D12 6 (.aload_n 0) 1 := by decide +kernel
theorem d12_7 : D12 7 (.getfield 15) 3 := by decide +kernel
theorem d12_10 : D12 10 (.ifCond .ne 7) 3 := by decide +kernel
theorem d12_13 : D12 13 (.iconst 1) 1 := by decide +kernel
theorem d12_14 : D12 14 (.goto 4) 3 := by decide +kernel
theorem d12_18 : D12 18 (.ireturn) 1 := by decide +kernel
theorem ef_12v0 (m : MethodId) (x0 : Addr) : entryFrame m #[(.ref x0)] 1 = mkF m 0 #[.val (.ref x0)] [] := by first | (simp [entryFrame, mkF, argsToLocals, Value.category]; done) | rfl
def Q12v0 (Z : State) (r0 : Addr) (va : Addr) (cs : Int32) (h0 : Heap) (n0 : Nat) (v : Option Value) (h : Heap) (L : List Loc) : Prop := v = some (.int (1 : Int32)) ∧ Fr n0 L ∧ h = h0
abbrev R12v0 : Room := { frames := 0, cells := 0, slots := 0, locals := 0 }
theorem rm12v0 (l : Launch) (Z : State) (a0 : Array Value) (hw : ∀ d ∈ tables_1, d.before a0 Z = true) (ws : List Jvm.Cond) (r0 : Addr) (va : Addr) (cs : Int32) (h0 : Heap) (n0 : Nat) (Z0 : n0 ≤ h0.size) (F_value_r0 : Fld Z h0 r0 "java/lang/String" "value" "[B" (.ref va)) (F_coder_r0 : Fld Z h0 r0 "java/lang/String" "coder" "B" (.int (0 : Int32))) (E_r0 : Exa Z h0 r0 "java/lang/String") (O0 : Old Z n0 h0) (S_cs : Sta Z Z.heap "java/lang/String" "COMPACT_STRINGS" "Z" (.int cs)) (hcs : ¬ (cs = (0 : Int32))) :
    MetFree l Y26 (head1 (Jvm.Cond.code Y26 jdk_42_method_154_code 1 (some .boolean) :: ws) R12v0) (fun a U => a = #[(.ref r0)] ∧ Z.Warmed39 U.vm ∧ U.heap = h0) (fun _ _ _ _ _ => True) (fun _ U o U' => ∃ v L, o = .returned v ∧ Q12v0 Z r0 va cs h0 n0 v U'.heap L ∧ FrameEnd U o U' L R12v0.cells R12v0.slots) := by
  refine own_start (C := "java/lang/String") (Q := Q12v0 Z r0 va cs h0 n0) rfl (plainFor_of_name pn4) ?_
  intro p e s m below meth c s₁ g₀ hg₀ Bd hx hby hml hZ hown hnm X0 e0
  have N0 := Fr.nil n0
  have pre0 : ∀ t, Sx p e below s₁ (mkF m 0 #[rv r0] []) t → Sx p e below s₁ g₀ t := fun t k => by subst hg₀; exact castTop (ef_12v0 m r0) k
  obtain ⟨T1, X1, e1, st1⟩ := getS2 X0 hx hZ hown (host := "") (Or.inl (own_w hw 24 rfl)) Via.refl e0 (S_cs.ext (O0.keep (Keep.refl h0 []) all0).2) (g := (mkF m 0 #[rv r0] [])) rfl (hb hby d12_0)
  have pre3 : ∀ t, Sx p e below T1 (mkF m 3 #[rv r0] [(.int cs)]) t → Sx p e below s₁ g₀ t := by
    intro t kt
    refine pre0 _ ?_
    refine st1 _ ?_
    exact kt
  have hc3_2 : ¬ (cs = (0 : Int32)) := hcs
  have pre4 : ∀ t, Sx p e below T1 (mkF m 7 #[rv r0] [(.ref r0)]) t → Sx p e below s₁ g₀ t := by
    intro t kt
    refine pre3 _ ?_
    refine XS.ifNo X1.here hx rfl (hb hby d12_3) rfl ((if0 _ _).trans (feq hc3_2).1) ?_
    refine XS.aloadN X1.here hx rfl (hb hby d12_6) rfl rfl ?_
    exact kt
  obtain ⟨T5, X5, e5, st5⟩ := getF X1 hx hZ hown (host := "") (Or.inl (own_w hw 35 rfl)) Via.refl e1 F_coder_r0 (g := (mkF m 7 #[rv r0] [(.ref r0)])) rfl rfl (hb hby d12_7)
  have pre6 : ∀ t, Sx p e below T5 (mkF m 18 #[rv r0] [(.int (1 : Int32))]) t → Sx p e below s₁ g₀ t := by
    intro t kt
    refine pre4 _ ?_
    refine st5 _ ?_
    show Sx p e below T5 (mkF m 10 #[rv r0] [(.int (0 : Int32))]) _
    refine XS.ifNo X5.here hx rfl (hb hby d12_10) rfl ((if0 _ _).trans (teq (by decide)).2) ?_
    refine XS.iconst X5.here hx rfl (hb hby d12_13) ?_
    refine XS.goto X5.here hx rfl (pc0 := 14) (pc' := 18) rfl (hb hby d12_14) (by decide) (by decide) ?_
    exact kt
  obtain ⟨fs, hr, hrun, hended, hW, hsame⟩ := X5.leave (v := some (.int (1 : Int32))) (fun h => by rw [Bd.returns] at h; cases h)
  refine ⟨_, _, _, pre6 _ ?_, hrun, hended, ?_, ⟨_, rfl⟩, hW, hsame.mono (by decide) (by decide)⟩
  · show Steps p.tables e below (T5.setTop (mkF m 18 #[rv r0] [(.int (1 : Int32))])) _
    exact retN X5 hx (t := .boolean) Bd.returns (by simp) (hb hby d12_18) hr
  · show Q12v0 Z r0 va cs h0 n0 _ T5.heap _
    rw [e5]
    exact ⟨rfl, N0, rfl⟩
theorem d12_17 : D12 17 (.iconst 0) 1 := by decide +kernel
theorem ef_12v1 (m : MethodId) (x0 : Addr) : entryFrame m #[(.ref x0)] 1 = mkF m 0 #[.val (.ref x0)] [] := by first | (simp [entryFrame, mkF, argsToLocals, Value.category]; done) | rfl
def Q12v1 (Z : State) (r0 : Addr) (va : Addr) (cs : Int32) (h0 : Heap) (n0 : Nat) (v : Option Value) (h : Heap) (L : List Loc) : Prop := v = some (.int (0 : Int32)) ∧ Fr n0 L ∧ h = h0
abbrev R12v1 : Room := { frames := 0, cells := 0, slots := 0, locals := 0 }
theorem rm12v1 (l : Launch) (Z : State) (a0 : Array Value) (hw : ∀ d ∈ tables_1, d.before a0 Z = true) (ws : List Jvm.Cond) (r0 : Addr) (va : Addr) (cs : Int32) (h0 : Heap) (n0 : Nat) (Z0 : n0 ≤ h0.size) (F_value_r0 : Fld Z h0 r0 "java/lang/String" "value" "[B" (.ref va)) (F_coder_r0 : Fld Z h0 r0 "java/lang/String" "coder" "B" (.int (1 : Int32))) (E_r0 : Exa Z h0 r0 "java/lang/String") (O0 : Old Z n0 h0) (S_cs : Sta Z Z.heap "java/lang/String" "COMPACT_STRINGS" "Z" (.int cs)) (hcs : ¬ (cs = (0 : Int32))) :
    MetFree l Y26 (head1 (Jvm.Cond.code Y26 jdk_42_method_154_code 1 (some .boolean) :: ws) R12v1) (fun a U => a = #[(.ref r0)] ∧ Z.Warmed39 U.vm ∧ U.heap = h0) (fun _ _ _ _ _ => True) (fun _ U o U' => ∃ v L, o = .returned v ∧ Q12v1 Z r0 va cs h0 n0 v U'.heap L ∧ FrameEnd U o U' L R12v1.cells R12v1.slots) := by
  refine own_start (C := "java/lang/String") (Q := Q12v1 Z r0 va cs h0 n0) rfl (plainFor_of_name pn4) ?_
  intro p e s m below meth c s₁ g₀ hg₀ Bd hx hby hml hZ hown hnm X0 e0
  have N0 := Fr.nil n0
  have pre0 : ∀ t, Sx p e below s₁ (mkF m 0 #[rv r0] []) t → Sx p e below s₁ g₀ t := fun t k => by subst hg₀; exact castTop (ef_12v1 m r0) k
  obtain ⟨T1, X1, e1, st1⟩ := getS2 X0 hx hZ hown (host := "") (Or.inl (own_w hw 24 rfl)) Via.refl e0 (S_cs.ext (O0.keep (Keep.refl h0 []) all0).2) (g := (mkF m 0 #[rv r0] [])) rfl (hb hby d12_0)
  have pre3 : ∀ t, Sx p e below T1 (mkF m 3 #[rv r0] [(.int cs)]) t → Sx p e below s₁ g₀ t := by
    intro t kt
    refine pre0 _ ?_
    refine st1 _ ?_
    exact kt
  have hc3_2 : ¬ (cs = (0 : Int32)) := hcs
  have pre4 : ∀ t, Sx p e below T1 (mkF m 7 #[rv r0] [(.ref r0)]) t → Sx p e below s₁ g₀ t := by
    intro t kt
    refine pre3 _ ?_
    refine XS.ifNo X1.here hx rfl (hb hby d12_3) rfl ((if0 _ _).trans (feq hc3_2).1) ?_
    refine XS.aloadN X1.here hx rfl (hb hby d12_6) rfl rfl ?_
    exact kt
  obtain ⟨T5, X5, e5, st5⟩ := getF X1 hx hZ hown (host := "") (Or.inl (own_w hw 35 rfl)) Via.refl e1 F_coder_r0 (g := (mkF m 7 #[rv r0] [(.ref r0)])) rfl rfl (hb hby d12_7)
  have pre6 : ∀ t, Sx p e below T5 (mkF m 18 #[rv r0] [(.int (0 : Int32))]) t → Sx p e below s₁ g₀ t := by
    intro t kt
    refine pre4 _ ?_
    refine st5 _ ?_
    show Sx p e below T5 (mkF m 10 #[rv r0] [(.int (1 : Int32))]) _
    refine XS.ifYes X5.here hx rfl (pc0 := 10) (pc' := 17) rfl (hb hby d12_10) rfl ((if0 _ _).trans (feq (by decide)).2) (by decide) (by decide) ?_
    refine XS.iconst X5.here hx rfl (hb hby d12_17) ?_
    exact kt
  obtain ⟨fs, hr, hrun, hended, hW, hsame⟩ := X5.leave (v := some (.int (0 : Int32))) (fun h => by rw [Bd.returns] at h; cases h)
  refine ⟨_, _, _, pre6 _ ?_, hrun, hended, ?_, ⟨_, rfl⟩, hW, hsame.mono (by decide) (by decide)⟩
  · show Steps p.tables e below (T5.setTop (mkF m 18 #[rv r0] [(.int (0 : Int32))])) _
    exact retN X5 hx (t := .boolean) Bd.returns (by simp) (hb hby d12_18) hr
  · show Q12v1 Z r0 va cs h0 n0 _ T5.heap _
    rw [e5]
    exact ⟨rfl, N0, rfl⟩
abbrev D13 (q : Nat) (i : Instr) (k : Nat) : Prop := decode jdk_42_method_54_code q = .ok (i, k)
theorem d13_0 : D13 0 (.aload_n 0) 1 := by decide +kernel
theorem d13_1 : D13 1 (.getfield 9) 3 := by decide +kernel
theorem d13_4 : D13 4 (.arraylength) 1 := by decide +kernel
theorem d13_5 : D13 5 (.aload_n 0) 1 := by decide +kernel
theorem pd21 : parseMethodDescriptor "()B" = some ⟨[], some .byte⟩ := by decide +kernel
theorem d13_6 : D13 6 (.invokevirtual 335) 3 := by decide +kernel
theorem d13_9 : D13 9 (.ishr) 1 := by decide +kernel
theorem d13_10 : D13 10 (.ireturn) 1 := by decide +kernel
theorem ef_13 (m : MethodId) (x0 : Addr) : entryFrame m #[(.ref x0)] 1 = mkF m 0 #[.val (.ref x0)] [] := by first | (simp [entryFrame, mkF, argsToLocals, Value.category]; done) | rfl
def Q13 (Z : State) (r0 : Addr) (va : Addr) (kc : ClassId) (z : Int32) (vs : List Value) (cd : Int32) (w : Int32) (cs : Int32) (h0 : Heap) (n0 : Nat) (v : Option Value) (h : Heap) (L : List Loc) : Prop := v = some (.int w) ∧ Fr n0 L ∧ h = h0
abbrev R13 : Room := { frames := 1, cells := 0, slots := 0, locals := 13 }
theorem rm13 (l : Launch) (Z : State) (a0 : Array Value) (hw : ∀ d ∈ tables_1, d.before a0 Z = true) (ws : List Jvm.Cond) (r0 : Addr) (va : Addr) (kc : ClassId) (z : Int32) (vs : List Value) (cd : Int32) (w : Int32) (cs : Int32) (h0 : Heap) (n0 : Nat) (Z0 : n0 ≤ h0.size) (F_value_r0 : Fld Z h0 r0 "java/lang/String" "value" "[B" (.ref va)) (F_coder_r0 : Fld Z h0 r0 "java/lang/String" "coder" "B" (.int cd)) (E_r0 : Exa Z h0 r0 "java/lang/String") (V_va : Arv Z h0 va kc .byte z vs (.int (0 : Int32))) (hncd : nar .byte cd = cd) (hv : (z >>> (cd &&& 31)) = w) (O0 : Old Z n0 h0) (S_cs : Sta Z Z.heap "java/lang/String" "COMPACT_STRINGS" "Z" (.int cs)) (hcs : ¬ (cs = (0 : Int32))) :
    MetFree l Y27 (head1 (Jvm.Cond.code Y27 jdk_42_method_54_code 1 (some .int) :: ws) R13) (fun a U => a = #[(.ref r0)] ∧ Z.Warmed39 U.vm ∧ U.heap = h0) (fun _ _ _ _ _ => True) (fun _ U o U' => ∃ v L, o = .returned v ∧ Q13 Z r0 va kc z vs cd w cs h0 n0 v U'.heap L ∧ FrameEnd U o U' L R13.cells R13.slots) := by
  refine own_start (C := "java/lang/String") (Q := Q13 Z r0 va kc z vs cd w cs h0 n0) rfl (plainFor_of_name pn4) ?_
  intro p e s m below meth c s₁ g₀ hg₀ Bd hx hby hml hZ hown hnm X0 e0
  have N0 := Fr.nil n0
  have pre0 : ∀ t, Sx p e below s₁ (mkF m 0 #[rv r0] []) t → Sx p e below s₁ g₀ t := fun t k => by subst hg₀; exact castTop (ef_13 m r0) k
  have pre1 : ∀ t, Sx p e below s₁ (mkF m 1 #[rv r0] [(.ref r0)]) t → Sx p e below s₁ g₀ t := by
    intro t kt
    refine pre0 _ ?_
    refine XS.aloadN X0.here hx rfl (hb hby d13_0) rfl rfl ?_
    exact kt
  obtain ⟨T2, X2, e2, st2⟩ := getF X0 hx hZ hown (host := "") (Or.inl (own_w hw 37 rfl)) Via.refl e0 F_value_r0 (g := (mkF m 1 #[rv r0] [(.ref r0)])) rfl rfl (hb hby d13_1)
  obtain ⟨cl3, Ar3, -, S3, M3, -, -⟩ := id V_va
  have pre4 : ∀ t, Sx p e below T2 (mkF m 6 #[rv r0] [(.ref r0), (.int z)]) t → Sx p e below s₁ g₀ t := by
    intro t kt
    refine pre1 _ ?_
    refine st2 _ ?_
    show Sx p e below T2 (mkF m 4 #[rv r0] [(.ref va)]) _
    refine X2.arraylength hx (by rw [e2]; exact Ar3.1) (State.isArrayOf_alike hZ.alike Ar3.2.1) (g := (mkF m 4 #[rv r0] [(.ref va)])) rfl rfl (hb hby d13_4) _ ?_
    rw [len_of S3 M3]
    show Sx p e below T2 (mkF m 5 #[rv r0] [(.int z)]) _
    refine XS.aloadN X2.here hx rfl (hb hby d13_5) rfl rfl ?_
    exact kt
  obtain ⟨_, T5, Lc5, X5, hQ5, st5⟩ := own_cV X2 hx hZ (y := Y25) hown (own_w hw 63 rfl) (own_w hw 64 rfl) (own_w hw 66 rfl) (own_w hw 65 rfl) (own_w hw 67 rfl) (own_w hw 13 rfl) (by decide) (W := 1) (rm14 l Z a0 hw [] r0 va cd cs h0 n0 (Nat.le_trans Z0 (Keep.refl h0 []).1) F_value_r0 F_coder_r0 E_r0 hncd (O0.keep (Keep.refl h0 []) all0) S_cs hcs) (by decide) (by decide) E_r0 (g := (mkF m 6 #[rv r0] [(.ref r0), (.int z)])) rfl hml.symm (argsL := []) (rest := [(.int z)]) (lenOf pd21 rfl) rfl (Nat.le_of_eq rfl) (hb hby d13_6) rfl e2 (by decide) (by decide)
  obtain ⟨rfl, N5q, hh5⟩ := hQ5
  have N5 := Fr.app N0 N5q
  have pre6 : ∀ t, Sx p e below T5 (mkF m 10 #[rv r0] [(.int w)]) t → Sx p e below s₁ g₀ t := by
    intro t kt
    refine pre4 _ ?_
    refine st5.trans ?_
    show Sx p e below T5 (mkF m 9 #[rv r0] [(.int cd), (.int z)]) _
    refine XS.ishr X5.here hx rfl (hb hby d13_9) rfl ?_
    show Sx p e below T5 (mkF m 10 #[rv r0] [(.int (z >>> (cd &&& 31)))]) _
    rw [show (z >>> (cd &&& 31)) = w from hv]
    exact kt
  obtain ⟨fs, hr, hrun, hended, hW, hsame⟩ := X5.leave (v := some (.int w)) (fun h => by rw [Bd.returns] at h; cases h)
  refine ⟨_, _, _, pre6 _ ?_, hrun, hended, ?_, ⟨_, rfl⟩, hW, hsame.mono (by decide) (by decide)⟩
  · show Steps p.tables e below (T5.setTop (mkF m 10 #[rv r0] [(.int w)])) _
    exact retI X5 hx Bd.returns (hb hby d13_10) hr
  · show Q13 Z r0 va kc z vs cd w cs h0 n0 _ T5.heap _
    rw [hh5]
    exact ⟨rfl, N5, rfl⟩

theorem ef_13s (m : MethodId) (x0 : Addr) : entryFrame m #[(.ref x0)] 1 = mkF m 0 #[.val (.ref x0)] [] := by first | (simp [entryFrame, mkF, argsToLocals, Value.category]; done) | rfl
def Q13s (Z : State) (r0 : Addr) (va : Addr) (kc : ClassId) (ts_ : List Int32) (cs : Int32) (h0 : Heap) (n0 : Nat) (v : Option Value) (h : Heap) (L : List Loc) : Prop := v = some (.int (own_len ts_)) ∧ Fr n0 L ∧ h = h0
abbrev R13s : Room := { frames := 1, cells := 0, slots := 0, locals := 13 }
theorem rm13s (l : Launch) (Z : State) (a0 : Array Value) (hw : ∀ d ∈ tables_1, d.before a0 Z = true) (ws : List Jvm.Cond) (r0 : Addr) (va : Addr) (kc : ClassId) (ts_ : List Int32) (cs : Int32) (h0 : Heap) (n0 : Nat) (Z0 : n0 ≤ h0.size) (F_v : Fld Z h0 r0 "java/lang/String" "value" "[B" (.ref va)) (E_r0 : Exa Z h0 r0 "java/lang/String") (hD : own_sf Z h0 r0 va kc ts_) (ht5 : ts_.length ≤ 5) (O0 : Old Z n0 h0) (S_cs : Sta Z Z.heap "java/lang/String" "COMPACT_STRINGS" "Z" (.int cs)) (hcs : ¬ (cs = (0 : Int32))) :
    MetFree l Y27 (head1 (Jvm.Cond.code Y27 jdk_42_method_54_code 1 (some .int) :: ws) R13s) (fun a U => a = #[(.ref r0)] ∧ Z.Warmed39 U.vm ∧ U.heap = h0) (fun _ _ _ _ _ => True) (fun _ U o U' => ∃ v L, o = .returned v ∧ Q13s Z r0 va kc ts_ cs h0 n0 v U'.heap L ∧ FrameEnd U o U' L R13s.cells R13s.slots) := by
  rcases hD with ⟨Fc, hL, V_⟩ | ⟨Fc, V_⟩
  · exact rm13 l Z a0 hw ws r0 va kc (own_len ts_) (own_M (own_Lb ts_)) (0 : Int32) (own_len ts_) cs h0 n0 Z0 F_v Fc E_r0 V_ (by decide) (own_sh0 _) O0 S_cs hcs
  · exact rm13 l Z a0 hw ws r0 va kc (own_len (own_U ts_)) (own_M (own_U ts_)) (1 : Int32) (own_len ts_) cs h0 n0 Z0 F_v Fc E_r0 V_ (by decide) (own_Uh (by omega)) O0 S_cs hcs
abbrev D37 (q : Nat) (i : Instr) (k : Nat) : Prop := decode jdk_43_method_2_code q = .ok (i, k)
theorem d37_0 : D37 0 (.iload_n 1) 1 := by decide +kernel
theorem d37_1 : D37 1 (.aload_n 0) 1 := by decide +kernel
theorem d37_2 : D37 2 (.arraylength) 1 := by decide +kernel
theorem d37_3 : D37 3 (.invokestatic 9) 3 := by decide +kernel
theorem d37_6 : D37 6 (.aload_n 0) 1 := by decide +kernel
theorem d37_7 : D37 7 (.iload_n 1) 1 := by decide +kernel
theorem d37_8 : D37 8 (.baload) 1 := by decide +kernel
theorem d37_9 : D37 9 (.sipush 255) 3 := by decide +kernel
theorem d37_12 : D37 12 (.iand) 1 := by decide +kernel
theorem d37_13 : D37 13 (.i2c) 1 := by decide +kernel
theorem d37_14 : D37 14 (.ireturn) 1 := by decide +kernel
theorem ef_37 (m : MethodId) (x0 : Addr) (x1 : Int32) : entryFrame m #[(.ref x0), (.int x1)] 2 = mkF m 0 #[.val (.ref x0), .val (.int x1)] [] := by first | (simp [entryFrame, mkF, argsToLocals, Value.category]; done) | rfl
def Q37 (Z : State) (r0 : Addr) (p1 : Int32) (kc : ClassId) (z : Int32) (vs : List Value) (xx : Int32) (fm : Value) (h0 : Heap) (n0 : Nat) (v : Option Value) (h : Heap) (L : List Loc) : Prop := v = some (.int xx) ∧ Fr n0 L ∧ h = h0
abbrev R37 : Room := { frames := 2, cells := 0, slots := 0, locals := 27 }
theorem rm37 (l : Launch) (Z : State) (a0 : Array Value) (hw : ∀ d ∈ tables_1, d.before a0 Z = true) (ws : List Jvm.Cond) (r0 : Addr) (p1 : Int32) (kc : ClassId) (z : Int32) (vs : List Value) (xx : Int32) (fm : Value) (h0 : Heap) (n0 : Nat) (Z0 : n0 ≤ h0.size) (V_r0 : Arv Z h0 r0 kc .byte z vs (.int (0 : Int32))) (O0 : Old Z n0 h0) (S_fm : Sta Z Z.heap "jdk/internal/util/Preconditions" "SIOOBE_FORMATTER" "Ljava/util/function/BiFunction;" fm) (hr_fm : fm.isRef = true) (ha : ¬ (p1 < (0 : Int32))) (hb_ : p1 < z) (hget : vs.getD p1.toNatClampNeg (.int (0 : Int32)) = .int (xx.toInt8.toInt32)) (hch : own_ch xx) (hlat : ¬ ((255 : Int32) < xx)) :
    MetFree l Y28 (head1 (Jvm.Cond.code Y28 jdk_43_method_2_code 2 (some .char) :: ws) R37) (fun a U => a = #[(.ref r0), (.int p1)] ∧ Z.Warmed39 U.vm ∧ U.heap = h0) (fun _ _ _ _ _ => True) (fun _ U o U' => ∃ v L, o = .returned v ∧ Q37 Z r0 p1 kc z vs xx fm h0 n0 v U'.heap L ∧ FrameEnd U o U' L R37.cells R37.slots) := by
  refine own_start (C := "java/lang/StringLatin1") (Q := Q37 Z r0 p1 kc z vs xx fm h0 n0) rfl (plainFor_of_name pn2) ?_
  intro p e s m below meth c s₁ g₀ hg₀ Bd hx hby hml hZ hown hnm X0 e0
  have N0 := Fr.nil n0
  have pre0 : ∀ t, Sx p e below s₁ (mkF m 0 #[rv r0, iv p1] []) t → Sx p e below s₁ g₀ t := fun t k => by subst hg₀; exact castTop (ef_37 m r0 p1) k
  obtain ⟨cl1, Ar1, -, S1, M1, -, -⟩ := id V_r0
  have pre2 : ∀ t, Sx p e below s₁ (mkF m 3 #[rv r0, iv p1] [(.int z), (.int p1)]) t → Sx p e below s₁ g₀ t := by
    intro t kt
    refine pre0 _ ?_
    refine XS.iloadN X0.here hx rfl (hb hby d37_0) rfl ?_
    refine XS.aloadN X0.here hx rfl (hb hby d37_1) rfl rfl ?_
    refine X0.arraylength hx (by rw [e0]; exact Ar1.1) (State.isArrayOf_alike hZ.alike Ar1.2.1) (g := (mkF m 2 #[rv r0, iv p1] [(.ref r0), (.int p1)])) rfl rfl (hb hby d37_2) _ ?_
    rw [len_of S1 M1]
    exact kt
  obtain ⟨_, T3, Lc3, X3, hQ3, st3⟩ := own_cS X0 hx hZ (y := Y4) hown (own_w hw 182 rfl) (own_w hw 183 rfl) (own_w hw 13 rfl) (own_w hw 184 rfl) (by decide) (W := 0) (rm38 l Z a0 hw [] p1 z fm h0 n0 (Nat.le_trans Z0 (Keep.refl h0 []).1) (O0.keep (Keep.refl h0 []) all0) S_fm hr_fm ha hb_) (by decide) (by decide) (g := (mkF m 3 #[rv r0, iv p1] [(.int z), (.int p1)])) rfl hml.symm (argsL := [(.int p1), (.int z)]) (rest := []) (lenOf pd11 rfl) rfl (Nat.le_of_eq rfl) (hb hby d37_3) rfl e0 (by decide) (by decide)
  obtain ⟨rfl, N3q, hh3⟩ := hQ3
  have N3 := Fr.app N0 N3q
  obtain ⟨cl4, Ar4, q4, S4, M4, H4, G4⟩ := id V_r0
  have hin4 : ¬ (p1 < 0 ∨ cl4.slots.size ≤ (p1).toNatClampNeg) := inb_of S4 ⟨ha, hb_⟩
  have hat4 : cl4.slots[(p1).toNatClampNeg]? = some (.int (xx.toInt8.toInt32)) := H4.at hin4 hget
  have pre5 : ∀ t, Sx p e below T3 (mkF m 14 #[rv r0, iv p1] [(.int xx)]) t → Sx p e below s₁ g₀ t := by
    intro t kt
    refine pre2 _ ?_
    refine st3 _ ?_
    show Sx p e below T3 (mkF m 6 #[rv r0, iv p1] []) _
    refine XS.aloadN X3.here hx rfl (hb hby d37_6) rfl rfl ?_
    refine XS.iloadN X3.here hx rfl (hb hby d37_7) rfl ?_
    refine X3.baloadBytes hx (j := p1) (v := (.int (xx.toInt8.toInt32))) (by rw [hh3]; exact Ar4.1) (State.isArrayOf_alike hZ.alike Ar4.2.1) Ar4.2.2 hin4 hat4 (g := (mkF m 8 #[rv r0, iv p1] [(.int p1), (.ref r0)])) rfl rfl (hb hby d37_8) _ ?_
    show Sx p e below T3 (mkF m 9 #[rv r0, iv p1] [(.int (xx.toInt8.toInt32))]) _
    refine XS.sipush X3.here hx rfl (hb hby d37_9) ?_
    refine XS.iand X3.here hx rfl (hb hby d37_12) rfl ?_
    refine XS.i2c X3.here hx rfl (hb hby d37_13) rfl ?_
    show Sx p e below T3 (mkF m 14 #[rv r0, iv p1] [(.int (((xx.toInt8.toInt32) &&& (255 : Int32)).toUInt32.toUInt16.toUInt32.toInt32))]) _
    rw [show (((xx.toInt8.toInt32) &&& (255 : Int32)).toUInt32.toUInt16.toUInt32.toInt32) = xx from (own_lc xx hch hlat)]
    exact kt
  obtain ⟨fs, hr, hrun, hended, hW, hsame⟩ := X3.leave (v := some (.int (nar .char xx))) (fun h => by rw [Bd.returns] at h; cases h)
  refine ⟨_, _, _, pre5 _ ?_, hrun, hended, ?_, ⟨_, rfl⟩, hW, hsame.mono (by decide) (by decide)⟩
  · show Steps p.tables e below (T3.setTop (mkF m 14 #[rv r0, iv p1] [(.int xx)])) _
    exact retN X3 hx (t := .char) Bd.returns (by simp) (hb hby d37_14) hr
  · show Q37 Z r0 p1 kc z vs xx fm h0 n0 _ T3.heap _
    rw [hh3]
    exact ⟨congrArg (fun z => some (Value.int z)) (own_nrc xx hch), N3, rfl⟩
abbrev D61 (q : Nat) (i : Instr) (k : Nat) : Prop := decode jdk_52_method_83_code q = .ok (i, k)
theorem d61_0 : D61 0 (.iload_n 1) 1 := by decide +kernel
theorem d61_1 : D61 1 (.aload_n 0) 1 := by decide +kernel
theorem pd22 : parseMethodDescriptor "(I[B)V" = some ⟨[.int, (.array .byte)], none⟩ := by decide +kernel
theorem d61_2 : D61 2 (.invokestatic 67) 3 := by decide +kernel
theorem d61_5 : D61 5 (.aload_n 0) 1 := by decide +kernel
theorem d61_6 : D61 6 (.iload_n 1) 1 := by decide +kernel
theorem d61_7 : D61 7 (.invokestatic 71) 3 := by decide +kernel
theorem d61_10 : D61 10 (.ireturn) 1 := by decide +kernel
theorem ef_61 (m : MethodId) (x0 : Addr) (x1 : Int32) : entryFrame m #[(.ref x0), (.int x1)] 2 = mkF m 0 #[.val (.ref x0), .val (.int x1)] [] := by first | (simp [entryFrame, mkF, argsToLocals, Value.category]; done) | rfl
def Q61 (Z : State) (r0 : Addr) (p1 : Int32) (kc : ClassId) (z : Int32) (vs : List Value) (w : Int32) (xx : Int32) (ai : Nat) (fm : Value) (h0 : Heap) (n0 : Nat) (v : Option Value) (h : Heap) (L : List Loc) : Prop := v = some (.int xx) ∧ Fr n0 L ∧ h = h0
abbrev R61 : Room := { frames := 3, cells := 0, slots := 0, locals := 40 }
theorem rm61 (l : Launch) (Z : State) (a0 : Array Value) (hw : ∀ d ∈ tables_1, d.before a0 Z = true) (ws : List Jvm.Cond) (r0 : Addr) (p1 : Int32) (kc : ClassId) (z : Int32) (vs : List Value) (w : Int32) (xx : Int32) (ai : Nat) (fm : Value) (h0 : Heap) (n0 : Nat) (Z0 : n0 ≤ h0.size) (V_r0 : Arv Z h0 r0 kc .byte z vs (.int (0 : Int32))) (hv : (z >>> ((1 : Int32) &&& 31)) = w) (ha : ¬ (p1 < (0 : Int32))) (hb_ : p1 < w) (hat : own_at vs z p1 xx ai) (O0 : Old Z n0 h0) (S_fm : Sta Z Z.heap "jdk/internal/util/Preconditions" "SIOOBE_FORMATTER" "Ljava/util/function/BiFunction;" fm) (hr_fm : fm.isRef = true) (S_ad : Sta Z Z.heap "java/lang/StringUTF16" "$assertionsDisabled" "Z" (.int (1 : Int32))) (S_hi : Sta Z Z.heap "java/lang/StringUTF16" "HI_BYTE_SHIFT" "I" (.int (0 : Int32))) (S_lo : Sta Z Z.heap "java/lang/StringUTF16" "LO_BYTE_SHIFT" "I" (.int (8 : Int32))) :
    MetFree l Y29 (head1 (Jvm.Cond.code Y29 jdk_52_method_83_code 2 (some .char) :: ws) R61) (fun a U => a = #[(.ref r0), (.int p1)] ∧ Z.Warmed39 U.vm ∧ U.heap = h0) (fun _ _ _ _ _ => True) (fun _ U o U' => ∃ v L, o = .returned v ∧ Q61 Z r0 p1 kc z vs w xx ai fm h0 n0 v U'.heap L ∧ FrameEnd U o U' L R61.cells R61.slots) := by
  refine own_start (C := "java/lang/StringUTF16") (Q := Q61 Z r0 p1 kc z vs w xx ai fm h0 n0) rfl (plainFor_of_name pn7) ?_
  intro p e s m below meth c s₁ g₀ hg₀ Bd hx hby hml hZ hown hnm X0 e0
  have N0 := Fr.nil n0
  have pre0 : ∀ t, Sx p e below s₁ (mkF m 0 #[rv r0, iv p1] []) t → Sx p e below s₁ g₀ t := fun t k => by subst hg₀; exact castTop (ef_61 m r0 p1) k
  have pre1 : ∀ t, Sx p e below s₁ (mkF m 2 #[rv r0, iv p1] [(.ref r0), (.int p1)]) t → Sx p e below s₁ g₀ t := by
    intro t kt
    refine pre0 _ ?_
    refine XS.iloadN X0.here hx rfl (hb hby d61_0) rfl ?_
    refine XS.aloadN X0.here hx rfl (hb hby d61_1) rfl rfl ?_
    exact kt
  obtain ⟨_, T2, Lc2, X2, hQ2, st2⟩ := own_cS X0 hx hZ (y := Y12) hown (own_w hw 274 rfl) (own_w hw 275 rfl) (own_w hw 27 rfl) (own_w hw 276 rfl) (by decide) (W := 0) (rm62 l Z a0 hw [] p1 r0 kc z vs w fm h0 n0 (Nat.le_trans Z0 (Keep.refl h0 []).1) V_r0 (O0.keep (Keep.refl h0 []) all0) S_fm hr_fm hv ha hb_) (by decide) (by decide) (g := (mkF m 2 #[rv r0, iv p1] [(.ref r0), (.int p1)])) rfl hml.symm (argsL := [(.int p1), (.ref r0)]) (rest := []) (lenOf pd22 rfl) rfl (Nat.le_of_eq rfl) (hb hby d61_2) rfl e0 (by decide) (by decide)
  obtain ⟨rfl, N2q, hh2⟩ := hQ2
  have N2 := Fr.app N0 N2q
  have pre3 : ∀ t, Sx p e below T2 (mkF m 7 #[rv r0, iv p1] [(.int p1), (.ref r0)]) t → Sx p e below s₁ g₀ t := by
    intro t kt
    refine pre1 _ ?_
    refine st2 _ ?_
    show Sx p e below T2 (mkF m 5 #[rv r0, iv p1] []) _
    refine XS.aloadN X2.here hx rfl (hb hby d61_5) rfl rfl ?_
    refine XS.iloadN X2.here hx rfl (hb hby d61_6) rfl ?_
    exact kt
  obtain ⟨_, T4, Lc4, X4, hQ4, st4⟩ := own_cS X2 hx hZ (y := Y15) hown (own_w hw 217 rfl) (own_w hw 218 rfl) (own_w hw 27 rfl) (own_w hw 219 rfl) (by decide) (W := 0) (rm47 l Z a0 hw [] r0 p1 kc z vs xx ai h0 n0 (Nat.le_trans Z0 (Keep.refl h0 []).1) V_r0 hat (O0.keep (Keep.refl h0 []) all0) S_ad S_hi S_lo) (by decide) (by decide) (g := (mkF m 7 #[rv r0, iv p1] [(.int p1), (.ref r0)])) rfl hml.symm (argsL := [(.ref r0), (.int p1)]) (rest := []) (lenOf pd15 rfl) rfl (Nat.le_of_eq rfl) (hb hby d61_7) rfl hh2 (by decide) (by decide)
  obtain ⟨rfl, N4q, hh4⟩ := hQ4
  have N4 := Fr.app N2 N4q
  have pre5 : ∀ t, Sx p e below T4 (mkF m 10 #[rv r0, iv p1] [(.int xx)]) t → Sx p e below s₁ g₀ t := by
    intro t kt
    refine pre3 _ ?_
    refine st4 _ ?_
    exact kt
  obtain ⟨fs, hr, hrun, hended, hW, hsame⟩ := X4.leave (v := some (.int (nar .char xx))) (fun h => by rw [Bd.returns] at h; cases h)
  refine ⟨_, _, _, pre5 _ ?_, hrun, hended, ?_, ⟨_, rfl⟩, hW, hsame.mono (by decide) (by decide)⟩
  · show Steps p.tables e below (T4.setTop (mkF m 10 #[rv r0, iv p1] [(.int xx)])) _
    exact retN X4 hx (t := .char) Bd.returns (by simp) (hb hby d61_10) hr
  · show Q61 Z r0 p1 kc z vs w xx ai fm h0 n0 _ T4.heap _
    rw [hh4]
    exact ⟨congrArg (fun z => some (Value.int z)) (own_nrc xx (own_atc hat)), N4, rfl⟩
abbrev D36 (q : Nat) (i : Instr) (k : Nat) : Prop := decode jdk_42_method_56_code q = .ok (i, k)
theorem d36_0 : D36 0 (.aload_n 0) 1 := by decide +kernel
theorem pd23 : parseMethodDescriptor "()Z" = some ⟨[], some .boolean⟩ := by decide +kernel
theorem d36_1 : D36 1 (.invokevirtual 492) 3 := by decide +kernel
theorem d36_4 : D36 4 (.ifCond .eq 12) 3 := by decide +kernel
theorem d36_7 : D36 7 (.aload_n 0) 1 := by decide +kernel
theorem d36_8 : D36 8 (.getfield 9) 3 := by decide +kernel
theorem d36_11 : D36 11 (.iload_n 1) 1 := by decide +kernel
theorem d36_12 : D36 12 (.invokestatic 495) 3 := by decide +kernel
theorem d36_15 : D36 15 (.ireturn) 1 := by decide +kernel
theorem d36_16 : D36 16 (.aload_n 0) 1 := by decide +kernel
theorem d36_17 : D36 17 (.getfield 9) 3 := by decide +kernel
theorem d36_20 : D36 20 (.iload_n 1) 1 := by decide +kernel
theorem d36_21 : D36 21 (.invokestatic 498) 3 := by decide +kernel
theorem d36_24 : D36 24 (.ireturn) 1 := by decide +kernel
theorem ef_36s (m : MethodId) (x0 : Addr) (x1 : Int32) : entryFrame m #[(.ref x0), (.int x1)] 2 = mkF m 0 #[.val (.ref x0), .val (.int x1)] [] := by first | (simp [entryFrame, mkF, argsToLocals, Value.category]; done) | rfl
def Q36s (Z : State) (r0 : Addr) (va : Addr) (kc : ClassId) (ts_ : List Int32) (i : Nat) (xx : Int32) (cs : Int32) (fm : Value) (h0 : Heap) (n0 : Nat) (v : Option Value) (h : Heap) (L : List Loc) : Prop := v = some (.int xx) ∧ Fr n0 L ∧ h = h0
abbrev R36s : Room := { frames := 4, cells := 0, slots := 0, locals := 53 }
theorem rm36s (l : Launch) (Z : State) (a0 : Array Value) (hw : ∀ d ∈ tables_1, d.before a0 Z = true) (ws : List Jvm.Cond) (r0 : Addr) (va : Addr) (kc : ClassId) (ts_ : List Int32) (i : Nat) (xx : Int32) (cs : Int32) (fm : Value) (h0 : Heap) (n0 : Nat) (Z0 : n0 ≤ h0.size) (F_v : Fld Z h0 r0 "java/lang/String" "value" "[B" (.ref va)) (E_r0 : Exa Z h0 r0 "java/lang/String") (hD : own_sf Z h0 r0 va kc ts_) (ht5 : ts_.length ≤ 5) (hxx : ts_[i]? = some xx) (hch : own_ch xx) (hi : i < ts_.length) (O0 : Old Z n0 h0) (S_cs : Sta Z Z.heap "java/lang/String" "COMPACT_STRINGS" "Z" (.int cs)) (hcs : ¬ (cs = (0 : Int32))) (S_fm : Sta Z Z.heap "jdk/internal/util/Preconditions" "SIOOBE_FORMATTER" "Ljava/util/function/BiFunction;" fm) (hr_fm : fm.isRef = true) (S_ad : Sta Z Z.heap "java/lang/StringUTF16" "$assertionsDisabled" "Z" (.int (1 : Int32))) (S_hi : Sta Z Z.heap "java/lang/StringUTF16" "HI_BYTE_SHIFT" "I" (.int (0 : Int32))) (S_lo : Sta Z Z.heap "java/lang/StringUTF16" "LO_BYTE_SHIFT" "I" (.int (8 : Int32))) :
    MetFree l Y30 (head1 (Jvm.Cond.code Y30 jdk_42_method_56_code 2 (some .char) :: ws) R36s) (fun a U => a = #[(.ref r0), (.int (own_n i))] ∧ Z.Warmed39 U.vm ∧ U.heap = h0) (fun _ _ _ _ _ => True) (fun _ U o U' => ∃ v L, o = .returned v ∧ Q36s Z r0 va kc ts_ i xx cs fm h0 n0 v U'.heap L ∧ FrameEnd U o U' L R36s.cells R36s.slots) := by
  refine own_start (C := "java/lang/String") (Q := Q36s Z r0 va kc ts_ i xx cs fm h0 n0) rfl (plainFor_of_name pn4) ?_
  intro p e s m below meth c s₁ g₀ hg₀ Bd hx hby hml hZ hown hnm X0 e0
  have N0 := Fr.nil n0
  have pre0 : ∀ t, Sx p e below s₁ (mkF m 0 #[rv r0, iv (own_n i)] []) t → Sx p e below s₁ g₀ t := fun t k => by subst hg₀; exact castTop (ef_36s m r0 (own_n i)) k
  rcases hD with ⟨Fc, hL, V_⟩ | ⟨Fc, V_⟩
  · have pre1 : ∀ t, Sx p e below s₁ (mkF m 1 #[rv r0, iv (own_n i)] [(.ref r0)]) t → Sx p e below s₁ g₀ t := by
      intro t kt
      refine pre0 _ ?_
      refine XS.aloadN X0.here hx rfl (hb hby d36_0) rfl rfl ?_
      exact kt
    obtain ⟨_, T2, Lc2, X2, hQ2, st2⟩ := own_cV X0 hx hZ (y := Y26) hown (own_w hw 53 rfl) (own_w hw 54 rfl) (own_w hw 56 rfl) (own_w hw 55 rfl) (own_w hw 57 rfl) (own_w hw 13 rfl) (by decide) (W := 0) (rm12v0 l Z a0 hw [] r0 va cs h0 n0 (Nat.le_trans Z0 (Keep.refl h0 []).1) F_v Fc E_r0 (O0.keep (Keep.refl h0 []) all0) S_cs hcs) (by decide) (by decide) E_r0 (g := (mkF m 1 #[rv r0, iv (own_n i)] [(.ref r0)])) rfl hml.symm (argsL := []) (rest := []) (lenOf pd23 rfl) rfl (Nat.le_of_eq rfl) (hb hby d36_1) rfl e0 (by decide) (by decide)
    obtain ⟨rfl, N2q, hh2⟩ := hQ2
    have N2 := Fr.app N0 N2q
    have pre3 : ∀ t, Sx p e below T2 (mkF m 8 #[rv r0, iv (own_n i)] [(.ref r0)]) t → Sx p e below s₁ g₀ t := by
      intro t kt
      refine pre1 _ ?_
      refine st2.trans ?_
      show Sx p e below T2 (mkF m 4 #[rv r0, iv (own_n i)] [(.int (1 : Int32))]) _
      refine XS.ifNo X2.here hx rfl (hb hby d36_4) rfl ((if0 _ _).trans (feq (by decide)).1) ?_
      refine XS.aloadN X2.here hx rfl (hb hby d36_7) rfl rfl ?_
      exact kt
    obtain ⟨T4, X4, e4, st4⟩ := getF X2 hx hZ hown (host := "") (Or.inl (own_w hw 37 rfl)) Via.refl hh2 F_v (g := (mkF m 8 #[rv r0, iv (own_n i)] [(.ref r0)])) rfl rfl (hb hby d36_8)
    have pre5 : ∀ t, Sx p e below T4 (mkF m 12 #[rv r0, iv (own_n i)] [(.int (own_n i)), (.ref va)]) t → Sx p e below s₁ g₀ t := by
      intro t kt
      refine pre3 _ ?_
      refine st4 _ ?_
      show Sx p e below T4 (mkF m 11 #[rv r0, iv (own_n i)] [(.ref va)]) _
      refine XS.iloadN X4.here hx rfl (hb hby d36_11) rfl ?_
      exact kt
    obtain ⟨_, T6, Lc6, X6, hQ6, st6⟩ := own_cS X4 hx hZ (y := Y28) hown (own_w hw 179 rfl) (own_w hw 180 rfl) (own_w hw 70 rfl) (own_w hw 181 rfl) (by decide) (W := 0) (rm37 l Z a0 hw [] va (own_n i) kc (own_len ts_) (own_M (own_Lb ts_)) xx fm h0 n0 (Nat.le_trans Z0 (Keep.refl h0 []).1) V_ (O0.keep (Keep.refl h0 []) all0) S_fm hr_fm (own_nP (by omega)) (own_nlt hi (by omega)) (own_Mat (own_Lbat hxx) (by omega)) hch (hL _ (List.mem_of_getElem? hxx))) (by decide) (by decide) (g := (mkF m 12 #[rv r0, iv (own_n i)] [(.int (own_n i)), (.ref va)])) rfl hml.symm (argsL := [(.ref va), (.int (own_n i))]) (rest := []) (lenOf pd15 rfl) rfl (Nat.le_of_eq rfl) (hb hby d36_12) rfl e4 (by decide) (by decide)
    obtain ⟨rfl, N6q, hh6⟩ := hQ6
    have N6 := Fr.app N2 N6q
    have pre7 : ∀ t, Sx p e below T6 (mkF m 15 #[rv r0, iv (own_n i)] [(.int xx)]) t → Sx p e below s₁ g₀ t := by
      intro t kt
      refine pre5 _ ?_
      refine st6 _ ?_
      exact kt
    obtain ⟨fs, hr, hrun, hended, hW, hsame⟩ := X6.leave (v := some (.int (nar .char xx))) (fun h => by rw [Bd.returns] at h; cases h)
    refine ⟨_, _, _, pre7 _ ?_, hrun, hended, ?_, ⟨_, rfl⟩, hW, hsame.mono (by decide) (by decide)⟩
    · show Steps p.tables e below (T6.setTop (mkF m 15 #[rv r0, iv (own_n i)] [(.int xx)])) _
      exact retN X6 hx (t := .char) Bd.returns (by simp) (hb hby d36_15) hr
    · show Q36s Z r0 va kc ts_ i xx cs fm h0 n0 _ T6.heap _
      rw [hh6]
      exact ⟨congrArg (fun z => some (Value.int z)) (own_nrc xx hch), N6, rfl⟩
  · have pre8 : ∀ t, Sx p e below s₁ (mkF m 1 #[rv r0, iv (own_n i)] [(.ref r0)]) t → Sx p e below s₁ g₀ t := by
      intro t kt
      refine pre0 _ ?_
      refine XS.aloadN X0.here hx rfl (hb hby d36_0) rfl rfl ?_
      exact kt
    obtain ⟨_, T9, Lc9, X9, hQ9, st9⟩ := own_cV X0 hx hZ (y := Y26) hown (own_w hw 53 rfl) (own_w hw 54 rfl) (own_w hw 56 rfl) (own_w hw 55 rfl) (own_w hw 57 rfl) (own_w hw 13 rfl) (by decide) (W := 0) (rm12v1 l Z a0 hw [] r0 va cs h0 n0 (Nat.le_trans Z0 (Keep.refl h0 []).1) F_v Fc E_r0 (O0.keep (Keep.refl h0 []) all0) S_cs hcs) (by decide) (by decide) E_r0 (g := (mkF m 1 #[rv r0, iv (own_n i)] [(.ref r0)])) rfl hml.symm (argsL := []) (rest := []) (lenOf pd23 rfl) rfl (Nat.le_of_eq rfl) (hb hby d36_1) rfl e0 (by decide) (by decide)
    obtain ⟨rfl, N9q, hh9⟩ := hQ9
    have N9 := Fr.app N0 N9q
    have pre10 : ∀ t, Sx p e below T9 (mkF m 17 #[rv r0, iv (own_n i)] [(.ref r0)]) t → Sx p e below s₁ g₀ t := by
      intro t kt
      refine pre8 _ ?_
      refine st9.trans ?_
      show Sx p e below T9 (mkF m 4 #[rv r0, iv (own_n i)] [(.int (0 : Int32))]) _
      refine XS.ifYes X9.here hx rfl (pc0 := 4) (pc' := 16) rfl (hb hby d36_4) rfl ((if0 _ _).trans (teq (by decide)).1) (by decide) (by decide) ?_
      refine XS.aloadN X9.here hx rfl (hb hby d36_16) rfl rfl ?_
      exact kt
    obtain ⟨T11, X11, e11, st11⟩ := getF X9 hx hZ hown (host := "") (Or.inl (own_w hw 37 rfl)) Via.refl hh9 F_v (g := (mkF m 17 #[rv r0, iv (own_n i)] [(.ref r0)])) rfl rfl (hb hby d36_17)
    have pre12 : ∀ t, Sx p e below T11 (mkF m 21 #[rv r0, iv (own_n i)] [(.int (own_n i)), (.ref va)]) t → Sx p e below s₁ g₀ t := by
      intro t kt
      refine pre10 _ ?_
      refine st11 _ ?_
      show Sx p e below T11 (mkF m 20 #[rv r0, iv (own_n i)] [(.ref va)]) _
      refine XS.iloadN X11.here hx rfl (hb hby d36_20) rfl ?_
      exact kt
    obtain ⟨_, T13, Lc13, X13, hQ13, st13⟩ := own_cS X11 hx hZ (y := Y29) hown (own_w hw 271 rfl) (own_w hw 272 rfl) (own_w hw 27 rfl) (own_w hw 273 rfl) (by decide) (W := 0) (rm61 l Z a0 hw [] va (own_n i) kc (own_len (own_U ts_)) (own_M (own_U ts_)) (own_len ts_) xx (2 * i) fm h0 n0 (Nat.le_trans Z0 (Keep.refl h0 []).1) V_ (own_Uh (by omega)) (own_nP (by omega)) (own_nlt hi (by omega)) (own_atU hxx (by omega) hch) (O0.keep (Keep.refl h0 []) all0) S_fm hr_fm S_ad S_hi S_lo) (by decide) (by decide) (g := (mkF m 21 #[rv r0, iv (own_n i)] [(.int (own_n i)), (.ref va)])) rfl hml.symm (argsL := [(.ref va), (.int (own_n i))]) (rest := []) (lenOf pd15 rfl) rfl (Nat.le_of_eq rfl) (hb hby d36_21) rfl e11 (by decide) (by decide)
    obtain ⟨rfl, N13q, hh13⟩ := hQ13
    have N13 := Fr.app N9 N13q
    have pre14 : ∀ t, Sx p e below T13 (mkF m 24 #[rv r0, iv (own_n i)] [(.int xx)]) t → Sx p e below s₁ g₀ t := by
      intro t kt
      refine pre12 _ ?_
      refine st13 _ ?_
      exact kt
    obtain ⟨fs, hr, hrun, hended, hW, hsame⟩ := X13.leave (v := some (.int (nar .char xx))) (fun h => by rw [Bd.returns] at h; cases h)
    refine ⟨_, _, _, pre14 _ ?_, hrun, hended, ?_, ⟨_, rfl⟩, hW, hsame.mono (by decide) (by decide)⟩
    · show Steps p.tables e below (T13.setTop (mkF m 24 #[rv r0, iv (own_n i)] [(.int xx)])) _
      exact retN X13 hx (t := .char) Bd.returns (by simp) (hb hby d36_24) hr
    · show Q36s Z r0 va kc ts_ i xx cs fm h0 n0 _ T13.heap _
      rw [hh13]
      exact ⟨congrArg (fun z => some (Value.int z)) (own_nrc xx hch), N13, rfl⟩
abbrev D52 (q : Nat) (i : Instr) (k : Nat) : Prop := decode jdk_52_method_48_code q = .ok (i, k)
theorem d52_3 : D52 3 (.iload 4) 2 := by decide +kernel
theorem d52_5 : D52 5 (.iload_n 3) 1 := by decide +kernel
theorem d52_6 : D52 6 (.if_icmp .ge 22) 3 := by decide +kernel
theorem d52_9 : D52 9 (.aload_n 0) 1 := by decide +kernel
theorem d52_10 : D52 10 (.iload 4) 2 := by decide +kernel
theorem d52_12 : D52 12 (.invokestatic 71) 3 := by decide +kernel
theorem d52_15 : D52 15 (.iload_n 1) 1 := by decide +kernel
theorem d52_16 : D52 16 (.if_icmp .ne 6) 3 := by decide +kernel
theorem d52_22 : D52 22 (.iinc 4 1) 3 := by decide +kernel
theorem d52_25 : D52 25 (.goto (-22)) 3 := by decide +kernel
theorem own_t52 {p : Program} {l : Launch} {e : Env} {s : State} {m : MethodId} {args : Array Value} {below : List Frame} {meth : Method} {c : Code} {T0 : State} {locs : List Loc} {Z : State} {a0 : Array Value} {h0 : Heap} {n0 : Nat} (r0 : Addr) (i : Nat) (xx : Int32) (kc : ClassId) (cs_ : List Int32)
    (X0 : Stand p l e ({ frames := 1, cells := 0, slots := 0, locals := 60 } : Room) s m args below meth c T0 locs 0 0) (hx : p.tables.exec = Jvm.exec) (hZ : Z.Warmed39 s.vm) (hw : ∀ d ∈ tables_1, d.before a0 Z = true) (hby : c.code = jdk_52_method_48_code) (hml : c.maxLocals = 5) (hown : s.vm.findClass "java/lang/StringUTF16" = some m.cls) (e0 : T0.heap = h0) (Z0 : n0 ≤ h0.size) (N0 : Fr n0 locs) (V_r0 : Arv Z h0 r0 kc .byte (own_len (own_U cs_)) (own_M (own_U cs_)) (.int (0 : Int32))) (hxx : cs_[i]? = some xx) (hi : i < cs_.length) (hl5 : cs_.length ≤ 5) (hch : own_ch xx) (hne_ : ¬ (xx = (58 : Int32))) (O0 : Old Z n0 h0) (S_ad : Sta Z Z.heap "java/lang/StringUTF16" "$assertionsDisabled" "Z" (.int (1 : Int32))) (S_hi : Sta Z Z.heap "java/lang/StringUTF16" "HI_BYTE_SHIFT" "I" (.int (0 : Int32))) (S_lo : Sta Z Z.heap "java/lang/StringUTF16" "LO_BYTE_SHIFT" "I" (.int (8 : Int32))) :
    ∃ (T' : State) (h' : Heap) (Ls : List Loc), Stand p l e ({ frames := 1, cells := 0, slots := 0, locals := 60 } : Room) s m args below meth c T' Ls 0 0 ∧ T'.heap = h' ∧ Fr n0 Ls ∧ Keep h0 h' [] ∧ h' = h0 ∧ ∀ t, Steps p.tables e below (T'.setTop (mkF m 3 #[.val (.ref r0), .val (.int (58 : Int32)), .val (.int (0 : Int32)), .val (.int (own_len cs_)), .val (.int (own_n (i + 1)))] [])) t → Steps p.tables e below (T0.setTop (mkF m 3 #[.val (.ref r0), .val (.int (58 : Int32)), .val (.int (0 : Int32)), .val (.int (own_len cs_)), .val (.int (own_n i))] [])) t := by
  have pre0 : ∀ t, Steps p.tables e below (T0.setTop (mkF m 3 #[rv r0, iv (58 : Int32), iv (0 : Int32), iv (own_len cs_), iv (own_n i)] [])) t → Steps p.tables e below (T0.setTop (mkF m 3 #[rv r0, iv (58 : Int32), iv (0 : Int32), iv (own_len cs_), iv (own_n i)] [])) t := fun _ k => k
  have pre2 : ∀ t, Sx p e below T0 (mkF m 6 #[rv r0, iv (58 : Int32), iv (0 : Int32), iv (own_len cs_), iv (own_n i)] [(.int (own_len cs_)), (.int (own_n i))]) t → Steps p.tables e below (T0.setTop (mkF m 3 #[rv r0, iv (58 : Int32), iv (0 : Int32), iv (own_len cs_), iv (own_n i)] [])) t := by
    intro t kt
    refine pre0 _ ?_
    refine XS.iload X0.here hx rfl (hb hby d52_3) rfl ?_
    refine XS.iloadN X0.here hx rfl (hb hby d52_5) rfl ?_
    exact kt
  have hc6_1 : (own_n i) < (own_len cs_) := (own_nlt hi (by omega))
  have pre3 : ∀ t, Sx p e below T0 (mkF m 12 #[rv r0, iv (58 : Int32), iv (0 : Int32), iv (own_len cs_), iv (own_n i)] [(.int (own_n i)), (.ref r0)]) t → Steps p.tables e below (T0.setTop (mkF m 3 #[rv r0, iv (58 : Int32), iv (0 : Int32), iv (own_len cs_), iv (own_n i)] [])) t := by
    intro t kt
    refine pre2 _ ?_
    refine XS.icmpNo X0.here hx rfl (hb hby d52_6) rfl (tlt hc6_1).2.1 ?_
    refine XS.aloadN X0.here hx rfl (hb hby d52_9) rfl rfl ?_
    refine XS.iload X0.here hx rfl (hb hby d52_10) rfl ?_
    exact kt
  obtain ⟨_, T4, Lc4, X4, hQ4, st4⟩ := own_cS X0 hx hZ (y := Y15) hown (own_w hw 217 rfl) (own_w hw 218 rfl) (own_w hw 27 rfl) (own_w hw 219 rfl) (by decide) (W := 0) (rm47 l Z a0 hw [] r0 (own_n i) kc (own_len (own_U cs_)) (own_M (own_U cs_)) xx (2 * i) h0 n0 (Nat.le_trans Z0 (Keep.refl h0 []).1) V_r0 (own_atU hxx (by omega) hch) (O0.keep (Keep.refl h0 []) all0) S_ad S_hi S_lo) (by decide) (by decide) (g := (mkF m 12 #[rv r0, iv (58 : Int32), iv (0 : Int32), iv (own_len cs_), iv (own_n i)] [(.int (own_n i)), (.ref r0)])) rfl hml.symm (argsL := [(.ref r0), (.int (own_n i))]) (rest := []) (lenOf pd15 rfl) rfl (Nat.le_of_eq rfl) (hb hby d52_12) rfl e0 (by decide) (by decide)
  obtain ⟨rfl, N4q, hh4⟩ := hQ4
  have N4 := Fr.app N0 N4q
  have pre6 : ∀ t, Sx p e below T4 (mkF m 16 #[rv r0, iv (58 : Int32), iv (0 : Int32), iv (own_len cs_), iv (own_n i)] [(.int (58 : Int32)), (.int xx)]) t → Steps p.tables e below (T0.setTop (mkF m 3 #[rv r0, iv (58 : Int32), iv (0 : Int32), iv (own_len cs_), iv (own_n i)] [])) t := by
    intro t kt
    refine pre3 _ ?_
    refine st4 _ ?_
    show Sx p e below T4 (mkF m 15 #[rv r0, iv (58 : Int32), iv (0 : Int32), iv (own_len cs_), iv (own_n i)] [(.int xx)]) _
    refine XS.iloadN X4.here hx rfl (hb hby d52_15) rfl ?_
    exact kt
  have hc16_5 : ¬ (xx = (58 : Int32)) := hne_
  have pre7 : ∀ t, Sx p e below T4 (mkF m 3 #[rv r0, iv (58 : Int32), iv (0 : Int32), iv (own_len cs_), iv (own_n (i + 1))] []) t → Steps p.tables e below (T0.setTop (mkF m 3 #[rv r0, iv (58 : Int32), iv (0 : Int32), iv (own_len cs_), iv (own_n i)] [])) t := by
    intro t kt
    refine pre6 _ ?_
    refine XS.icmpYes X4.here hx rfl (pc0 := 16) (pc' := 22) rfl (hb hby d52_16) rfl (feq hc16_5).2 (by decide) (by decide) ?_
    refine XS.iinc X4.here hx rfl (hb hby d52_22) rfl (l' := #[rv r0, iv (58 : Int32), iv (0 : Int32), iv (own_len cs_), iv ((own_n i) + (1 : Int32))]) rfl ?_
    show Sx p e below T4 (mkF m 25 #[rv r0, iv (58 : Int32), iv (0 : Int32), iv (own_len cs_), iv ((own_n i) + (1 : Int32))] []) _
    rw [show ((own_n i) + (1 : Int32)) = (own_n (i + 1)) from (own_nS (by omega))]
    show Sx p e below T4 (mkF m 25 #[rv r0, iv (58 : Int32), iv (0 : Int32), iv (own_len cs_), iv (own_n (i + 1))] []) _
    refine XS.goto X4.here hx rfl (pc0 := 25) (pc' := 3) rfl (hb hby d52_25) (by decide) (by decide) ?_
    exact kt
  exact ⟨T4, h0, _, X4, hh4, N4, (Keep.refl h0 []), rfl, pre7⟩
theorem d52_0 : D52 0 (.iload_n 2) 1 := by decide +kernel
theorem d52_1 : D52 1 (.istore 4) 2 := by decide +kernel
theorem d52_19 : D52 19 (.iload 4) 2 := by decide +kernel
theorem d52_21 : D52 21 (.ireturn) 1 := by decide +kernel
theorem ef_52 (m : MethodId) (x0 : Addr) (x1 : Int32) (x2 : Int32) (x3 : Int32) : entryFrame m #[(.ref x0), (.int x1), (.int x2), (.int x3)] 5 = mkF m 0 #[.val (.ref x0), .val (.int x1), .val (.int x2), .val (.int x3), .unset] [] := by first | (simp [entryFrame, mkF, argsToLocals, Value.category]; done) | rfl
def Q52 (Z : State) (r0 : Addr) (kc : ClassId) (cs_ : List Int32) (jj : Nat) (h0 : Heap) (n0 : Nat) (v : Option Value) (h : Heap) (L : List Loc) : Prop := v = some (.int (own_n jj)) ∧ Fr n0 L ∧ h = h0
abbrev R52 : Room := { frames := 1, cells := 0, slots := 0, locals := 60 }
theorem rm52 (l : Launch) (Z : State) (a0 : Array Value) (hw : ∀ d ∈ tables_1, d.before a0 Z = true) (ws : List Jvm.Cond) (r0 : Addr) (kc : ClassId) (cs_ : List Int32) (jj : Nat) (h0 : Heap) (n0 : Nat) (Z0 : n0 ≤ h0.size) (V_r0 : Arv Z h0 r0 kc .byte (own_len (own_U cs_)) (own_M (own_U cs_)) (.int (0 : Int32))) (hjj : cs_[jj]? = some (58 : Int32)) (hbf : ∀ i x, i < jj → cs_[i]? = some x → ¬ (x = (58 : Int32))) (hj5 : jj < cs_.length) (hl5 : cs_.length ≤ 5) (hcs_ : ∀ x ∈ cs_, own_ch x) (O0 : Old Z n0 h0) (S_ad : Sta Z Z.heap "java/lang/StringUTF16" "$assertionsDisabled" "Z" (.int (1 : Int32))) (S_hi : Sta Z Z.heap "java/lang/StringUTF16" "HI_BYTE_SHIFT" "I" (.int (0 : Int32))) (S_lo : Sta Z Z.heap "java/lang/StringUTF16" "LO_BYTE_SHIFT" "I" (.int (8 : Int32))) :
    MetFree l Y31 (head1 (Jvm.Cond.code Y31 jdk_52_method_48_code 5 (some .int) :: ws) R52) (fun a U => a = #[(.ref r0), (.int (58 : Int32)), (.int (0 : Int32)), (.int (own_len cs_))] ∧ Z.Warmed39 U.vm ∧ U.heap = h0) (fun _ _ _ _ _ => True) (fun _ U o U' => ∃ v L, o = .returned v ∧ Q52 Z r0 kc cs_ jj h0 n0 v U'.heap L ∧ FrameEnd U o U' L R52.cells R52.slots) := by
  refine own_start (C := "java/lang/StringUTF16") (Q := Q52 Z r0 kc cs_ jj h0 n0) rfl (plainFor_of_name pn7) ?_
  intro p e s m below meth c s₁ g₀ hg₀ Bd hx hby hml hZ hown hnm X0 e0
  have N0 := Fr.nil n0
  have pre0 : ∀ t, Sx p e below s₁ (mkF m 0 #[rv r0, iv (58 : Int32), iv (0 : Int32), iv (own_len cs_), .unset] []) t → Sx p e below s₁ g₀ t := fun t k => by subst hg₀; exact castTop (ef_52 m r0 (58 : Int32) (0 : Int32) (own_len cs_)) k
  have pre1 : ∀ t, Sx p e below s₁ (mkF m 3 #[rv r0, iv (58 : Int32), iv (0 : Int32), iv (own_len cs_), iv (0 : Int32)] []) t → Sx p e below s₁ g₀ t := by
    intro t kt
    refine pre0 _ ?_
    refine XS.iloadN X0.here hx rfl (hb hby d52_0) rfl ?_
    refine XS.istore X0.here hx rfl (hb hby d52_1) rfl (l' := #[rv r0, iv (58 : Int32), iv (0 : Int32), iv (own_len cs_), iv (0 : Int32)]) rfl ?_
    exact kt
  obtain ⟨T2, h2, L2, ⟨X2, e2, N2, zz2, Va2, hq2, Oo2⟩, Kl2, st2⟩ := own_iter (tb := p.tables) (e := e) (below := below) (F := fun i => mkF m 3 #[.val (.ref r0), .val (.int (58 : Int32)), .val (.int (0 : Int32)), .val (.int (own_len cs_)), .val (.int (own_n i))] []) (Inv := fun i T h Ls => Stand p l e R52 s m #[(.ref r0), (.int (58 : Int32)), (.int (0 : Int32)), (.int (own_len cs_))] below meth c T Ls 0 0 ∧ T.heap = h ∧ Fr n0 Ls ∧ n0 ≤ h.size ∧ Arv Z h r0 kc .byte (own_len (own_U cs_)) (own_M (own_U cs_)) (.int (0 : Int32)) ∧ h = h0 ∧ Old Z n0 h) (ws := []) (n := jj) (fun i T h Ls hi ⟨X, e1, N1, z1, Va, hq, Oo⟩ => by
      obtain ⟨T', h', L', X', e', N', K', hq', s'⟩ := own_t52 r0 i (cs_.getD i (0 : Int32)) kc cs_ X hx hZ hw hby hml hown e1 z1 N1 Va (own_get (by omega)) (by omega) hl5 (hcs_ _ (List.mem_of_getElem? (own_get (by omega)))) (hbf i _ hi (own_get (by omega))) Oo S_ad S_hi S_lo
      exact ⟨T', h', L', ⟨X', e', N', Nat.le_trans z1 K'.1, hq' ▸ Va, hq'.trans hq, hq' ▸ Oo⟩, K', s'⟩) (jj) 0 s₁ h0 _ (Nat.zero_add _) ⟨X0, e0, N0, Nat.le_trans Z0 (Keep.refl h0 []).1, V_r0, rfl, (O0.keep (Keep.refl h0 []) all0)⟩
  have K2 : Keep h0 h2 [] := (Keep.refl h0 []).trans Kl2 all0
  have pre4 : ∀ t, Sx p e below T2 (mkF m 6 #[rv r0, iv (58 : Int32), iv (0 : Int32), iv (own_len cs_), iv (own_n jj)] [(.int (own_len cs_)), (.int (own_n jj))]) t → Sx p e below s₁ g₀ t := by
    intro t kt
    refine pre1 _ ?_
    refine st2 _ ?_
    show Sx p e below T2 (mkF m 3 #[rv r0, iv (58 : Int32), iv (0 : Int32), iv (own_len cs_), iv (own_n jj)] []) _
    refine XS.iload X2.here hx rfl (hb hby d52_3) rfl ?_
    refine XS.iloadN X2.here hx rfl (hb hby d52_5) rfl ?_
    exact kt
  have hc6_3 : (own_n jj) < (own_len cs_) := (own_nlt hj5 (by omega))
  have pre5 : ∀ t, Sx p e below T2 (mkF m 12 #[rv r0, iv (58 : Int32), iv (0 : Int32), iv (own_len cs_), iv (own_n jj)] [(.int (own_n jj)), (.ref r0)]) t → Sx p e below s₁ g₀ t := by
    intro t kt
    refine pre4 _ ?_
    refine XS.icmpNo X2.here hx rfl (hb hby d52_6) rfl (tlt hc6_3).2.1 ?_
    refine XS.aloadN X2.here hx rfl (hb hby d52_9) rfl rfl ?_
    refine XS.iload X2.here hx rfl (hb hby d52_10) rfl ?_
    exact kt
  obtain ⟨_, T6, Lc6, X6, hQ6, st6⟩ := own_cS X2 hx hZ (y := Y15) hown (own_w hw 217 rfl) (own_w hw 218 rfl) (own_w hw 27 rfl) (own_w hw 219 rfl) (by decide) (W := 0) (rm47 l Z a0 hw [] r0 (own_n jj) kc (own_len (own_U cs_)) (own_M (own_U cs_)) (58 : Int32) (2 * jj) h2 n0 (Nat.le_trans Z0 K2.1) Va2 (own_atU hjj (by omega) (hcs_ _ (List.mem_of_getElem? hjj))) (O0.keep K2 all0) S_ad S_hi S_lo) (by decide) (by decide) (g := (mkF m 12 #[rv r0, iv (58 : Int32), iv (0 : Int32), iv (own_len cs_), iv (own_n jj)] [(.int (own_n jj)), (.ref r0)])) rfl hml.symm (argsL := [(.ref r0), (.int (own_n jj))]) (rest := []) (lenOf pd15 rfl) rfl (Nat.le_of_eq rfl) (hb hby d52_12) rfl e2 (by decide) (by decide)
  obtain ⟨rfl, N6q, hh6⟩ := hQ6
  have N6 := Fr.app N2 N6q
  have pre7 : ∀ t, Sx p e below T6 (mkF m 21 #[rv r0, iv (58 : Int32), iv (0 : Int32), iv (own_len cs_), iv (own_n jj)] [(.int (own_n jj))]) t → Sx p e below s₁ g₀ t := by
    intro t kt
    refine pre5 _ ?_
    refine st6 _ ?_
    show Sx p e below T6 (mkF m 15 #[rv r0, iv (58 : Int32), iv (0 : Int32), iv (own_len cs_), iv (own_n jj)] [(.int (58 : Int32))]) _
    refine XS.iloadN X6.here hx rfl (hb hby d52_15) rfl ?_
    refine XS.icmpNo X6.here hx rfl (hb hby d52_16) rfl (teq (by decide)).2 ?_
    refine XS.iload X6.here hx rfl (hb hby d52_19) rfl ?_
    exact kt
  obtain ⟨fs, hr, hrun, hended, hW, hsame⟩ := X6.leave (v := some (.int (own_n jj))) (fun h => by rw [Bd.returns] at h; cases h)
  refine ⟨_, _, _, pre7 _ ?_, hrun, hended, ?_, ⟨_, rfl⟩, hW, hsame.mono (by decide) (by decide)⟩
  · show Steps p.tables e below (T6.setTop (mkF m 21 #[rv r0, iv (58 : Int32), iv (0 : Int32), iv (own_len cs_), iv (own_n jj)] [(.int (own_n jj))])) _
    exact retI X6 hx Bd.returns (hb hby d52_21) hr
  · show Q52 Z r0 kc cs_ jj h0 n0 _ T6.heap _
    rw [hh6]
    exact ⟨rfl, N6, hq2⟩
abbrev D19 (q : Nat) (i : Instr) (k : Nat) : Prop := decode jdk_43_method_23_code q = .ok (i, k)
theorem d19_7 : D19 7 (.iload 5) 2 := by decide +kernel
theorem d19_9 : D19 9 (.iload_n 3) 1 := by decide +kernel
theorem d19_10 : D19 10 (.if_icmp .ge 21) 3 := by decide +kernel
theorem d19_13 : D19 13 (.aload_n 0) 1 := by decide +kernel
theorem d19_14 : D19 14 (.iload 5) 2 := by decide +kernel
theorem d19_16 : D19 16 (.baload) 1 := by decide +kernel
theorem d19_17 : D19 17 (.iload 4) 2 := by decide +kernel
theorem d19_19 : D19 19 (.if_icmp .ne 6) 3 := by decide +kernel
theorem d19_25 : D19 25 (.iinc 5 1) 3 := by decide +kernel
theorem d19_28 : D19 28 (.goto (-21)) 3 := by decide +kernel
theorem own_t19 {p : Program} {l : Launch} {e : Env} {s : State} {m : MethodId} {args : Array Value} {below : List Frame} {meth : Method} {c : Code} {T0 : State} {locs : List Loc} {Z : State} {a0 : Array Value} {h0 : Heap} {n0 : Nat} (r0 : Addr) (i : Nat) (xx : Int32) (kc : ClassId) (cs_ : List Int32)
    (X0 : Stand p l e ({ frames := 0, cells := 0, slots := 0, locals := 0 } : Room) s m args below meth c T0 locs 0 0) (hx : p.tables.exec = Jvm.exec) (hZ : Z.Warmed39 s.vm) (hw : ∀ d ∈ tables_1, d.before a0 Z = true) (hby : c.code = jdk_43_method_23_code) (hml : c.maxLocals = 6) (hown : s.vm.findClass "java/lang/StringLatin1" = some m.cls) (e0 : T0.heap = h0) (Z0 : n0 ≤ h0.size) (N0 : Fr n0 locs) (V_r0 : Arv Z h0 r0 kc .byte (own_len cs_) (own_M (own_Lb cs_)) (.int (0 : Int32))) (hxx : cs_[i]? = some xx) (hi : i < cs_.length) (hl5 : cs_.length ≤ 5) (hch : own_ch xx) (hne_ : ¬ (xx = (58 : Int32))) (hlat : ¬ ((255 : Int32) < xx)) :
    ∃ (T' : State) (h' : Heap) (Ls : List Loc), Stand p l e ({ frames := 0, cells := 0, slots := 0, locals := 0 } : Room) s m args below meth c T' Ls 0 0 ∧ T'.heap = h' ∧ Fr n0 Ls ∧ Keep h0 h' [] ∧ h' = h0 ∧ ∀ t, Steps p.tables e below (T'.setTop (mkF m 7 #[.val (.ref r0), .val (.int (58 : Int32)), .val (.int (0 : Int32)), .val (.int (own_len cs_)), .val (.int (58 : Int32)), .val (.int (own_n (i + 1)))] [])) t → Steps p.tables e below (T0.setTop (mkF m 7 #[.val (.ref r0), .val (.int (58 : Int32)), .val (.int (0 : Int32)), .val (.int (own_len cs_)), .val (.int (58 : Int32)), .val (.int (own_n i))] [])) t := by
  have pre0 : ∀ t, Steps p.tables e below (T0.setTop (mkF m 7 #[rv r0, iv (58 : Int32), iv (0 : Int32), iv (own_len cs_), iv (58 : Int32), iv (own_n i)] [])) t → Steps p.tables e below (T0.setTop (mkF m 7 #[rv r0, iv (58 : Int32), iv (0 : Int32), iv (own_len cs_), iv (58 : Int32), iv (own_n i)] [])) t := fun _ k => k
  have pre2 : ∀ t, Sx p e below T0 (mkF m 10 #[rv r0, iv (58 : Int32), iv (0 : Int32), iv (own_len cs_), iv (58 : Int32), iv (own_n i)] [(.int (own_len cs_)), (.int (own_n i))]) t → Steps p.tables e below (T0.setTop (mkF m 7 #[rv r0, iv (58 : Int32), iv (0 : Int32), iv (own_len cs_), iv (58 : Int32), iv (own_n i)] [])) t := by
    intro t kt
    refine pre0 _ ?_
    refine XS.iload X0.here hx rfl (hb hby d19_7) rfl ?_
    refine XS.iloadN X0.here hx rfl (hb hby d19_9) rfl ?_
    exact kt
  have hc10_1 : (own_n i) < (own_len cs_) := (own_nlt hi (by omega))
  obtain ⟨cl3, Ar3, q3, S3, M3, H3, G3⟩ := id V_r0
  have hin3 : ¬ ((own_n i) < 0 ∨ cl3.slots.size ≤ ((own_n i)).toNatClampNeg) := inb_of S3 ⟨own_nP (by omega), own_nlt hi (by omega)⟩
  have hat3 : cl3.slots[((own_n i)).toNatClampNeg]? = some (.int (xx.toInt8.toInt32)) := H3.at hin3 (own_Mat (own_Lbat hxx) (by omega))
  have pre5 : ∀ t, Sx p e below T0 (mkF m 19 #[rv r0, iv (58 : Int32), iv (0 : Int32), iv (own_len cs_), iv (58 : Int32), iv (own_n i)] [(.int (58 : Int32)), (.int (xx.toInt8.toInt32))]) t → Steps p.tables e below (T0.setTop (mkF m 7 #[rv r0, iv (58 : Int32), iv (0 : Int32), iv (own_len cs_), iv (58 : Int32), iv (own_n i)] [])) t := by
    intro t kt
    refine pre2 _ ?_
    refine XS.icmpNo X0.here hx rfl (hb hby d19_10) rfl (tlt hc10_1).2.1 ?_
    refine XS.aloadN X0.here hx rfl (hb hby d19_13) rfl rfl ?_
    refine XS.iload X0.here hx rfl (hb hby d19_14) rfl ?_
    refine X0.baloadBytes hx (j := (own_n i)) (v := (.int (xx.toInt8.toInt32))) (by rw [e0]; exact Ar3.1) (State.isArrayOf_alike hZ.alike Ar3.2.1) Ar3.2.2 hin3 hat3 (g := (mkF m 16 #[rv r0, iv (58 : Int32), iv (0 : Int32), iv (own_len cs_), iv (58 : Int32), iv (own_n i)] [(.int (own_n i)), (.ref r0)])) rfl rfl (hb hby d19_16) _ ?_
    show Sx p e below T0 (mkF m 17 #[rv r0, iv (58 : Int32), iv (0 : Int32), iv (own_len cs_), iv (58 : Int32), iv (own_n i)] [(.int (xx.toInt8.toInt32))]) _
    refine XS.iload X0.here hx rfl (hb hby d19_17) rfl ?_
    exact kt
  have hc19_4 : ¬ ((xx.toInt8.toInt32) = (58 : Int32)) := (own_lb58 hch hlat hne_)
  have pre6 : ∀ t, Sx p e below T0 (mkF m 7 #[rv r0, iv (58 : Int32), iv (0 : Int32), iv (own_len cs_), iv (58 : Int32), iv (own_n (i + 1))] []) t → Steps p.tables e below (T0.setTop (mkF m 7 #[rv r0, iv (58 : Int32), iv (0 : Int32), iv (own_len cs_), iv (58 : Int32), iv (own_n i)] [])) t := by
    intro t kt
    refine pre5 _ ?_
    refine XS.icmpYes X0.here hx rfl (pc0 := 19) (pc' := 25) rfl (hb hby d19_19) rfl (feq hc19_4).2 (by decide) (by decide) ?_
    refine XS.iinc X0.here hx rfl (hb hby d19_25) rfl (l' := #[rv r0, iv (58 : Int32), iv (0 : Int32), iv (own_len cs_), iv (58 : Int32), iv ((own_n i) + (1 : Int32))]) rfl ?_
    show Sx p e below T0 (mkF m 28 #[rv r0, iv (58 : Int32), iv (0 : Int32), iv (own_len cs_), iv (58 : Int32), iv ((own_n i) + (1 : Int32))] []) _
    rw [show ((own_n i) + (1 : Int32)) = (own_n (i + 1)) from (own_nS (by omega))]
    show Sx p e below T0 (mkF m 28 #[rv r0, iv (58 : Int32), iv (0 : Int32), iv (own_len cs_), iv (58 : Int32), iv (own_n (i + 1))] []) _
    refine XS.goto X0.here hx rfl (pc0 := 28) (pc' := 7) rfl (hb hby d19_28) (by decide) (by decide) ?_
    exact kt
  exact ⟨T0, h0, _, X0, e0, N0, (Keep.refl h0 []), rfl, pre6⟩
theorem d19_0 : D19 0 (.iload_n 1) 1 := by decide +kernel
theorem d19_1 : D19 1 (.i2b) 1 := by decide +kernel
theorem d19_2 : D19 2 (.istore 4) 2 := by decide +kernel
theorem d19_4 : D19 4 (.iload_n 2) 1 := by decide +kernel
theorem d19_5 : D19 5 (.istore 5) 2 := by decide +kernel
theorem d19_22 : D19 22 (.iload 5) 2 := by decide +kernel
theorem d19_24 : D19 24 (.ireturn) 1 := by decide +kernel
theorem ef_19 (m : MethodId) (x0 : Addr) (x1 : Int32) (x2 : Int32) (x3 : Int32) : entryFrame m #[(.ref x0), (.int x1), (.int x2), (.int x3)] 6 = mkF m 0 #[.val (.ref x0), .val (.int x1), .val (.int x2), .val (.int x3), .unset, .unset] [] := by first | (simp [entryFrame, mkF, argsToLocals, Value.category]; done) | rfl
def Q19 (Z : State) (r0 : Addr) (kc : ClassId) (cs_ : List Int32) (jj : Nat) (h0 : Heap) (n0 : Nat) (v : Option Value) (h : Heap) (L : List Loc) : Prop := v = some (.int (own_n jj)) ∧ Fr n0 L ∧ h = h0
abbrev R19 : Room := { frames := 0, cells := 0, slots := 0, locals := 0 }
theorem rm19 (l : Launch) (Z : State) (a0 : Array Value) (hw : ∀ d ∈ tables_1, d.before a0 Z = true) (ws : List Jvm.Cond) (r0 : Addr) (kc : ClassId) (cs_ : List Int32) (jj : Nat) (h0 : Heap) (n0 : Nat) (Z0 : n0 ≤ h0.size) (V_r0 : Arv Z h0 r0 kc .byte (own_len cs_) (own_M (own_Lb cs_)) (.int (0 : Int32))) (hjj : cs_[jj]? = some (58 : Int32)) (hbf : ∀ i x, i < jj → cs_[i]? = some x → ¬ (x = (58 : Int32))) (hj5 : jj < cs_.length) (hl5 : cs_.length ≤ 5) (hcs_ : ∀ x ∈ cs_, own_ch x) (hL : ∀ x ∈ cs_, ¬ ((255 : Int32) < x)) :
    MetFree l Y32 (head1 (Jvm.Cond.code Y32 jdk_43_method_23_code 6 (some .int) :: ws) R19) (fun a U => a = #[(.ref r0), (.int (58 : Int32)), (.int (0 : Int32)), (.int (own_len cs_))] ∧ Z.Warmed39 U.vm ∧ U.heap = h0) (fun _ _ _ _ _ => True) (fun _ U o U' => ∃ v L, o = .returned v ∧ Q19 Z r0 kc cs_ jj h0 n0 v U'.heap L ∧ FrameEnd U o U' L R19.cells R19.slots) := by
  refine own_start (C := "java/lang/StringLatin1") (Q := Q19 Z r0 kc cs_ jj h0 n0) rfl (plainFor_of_name pn2) ?_
  intro p e s m below meth c s₁ g₀ hg₀ Bd hx hby hml hZ hown hnm X0 e0
  have N0 := Fr.nil n0
  have pre0 : ∀ t, Sx p e below s₁ (mkF m 0 #[rv r0, iv (58 : Int32), iv (0 : Int32), iv (own_len cs_), .unset, .unset] []) t → Sx p e below s₁ g₀ t := fun t k => by subst hg₀; exact castTop (ef_19 m r0 (58 : Int32) (0 : Int32) (own_len cs_)) k
  have pre1 : ∀ t, Sx p e below s₁ (mkF m 7 #[rv r0, iv (58 : Int32), iv (0 : Int32), iv (own_len cs_), iv (58 : Int32), iv (0 : Int32)] []) t → Sx p e below s₁ g₀ t := by
    intro t kt
    refine pre0 _ ?_
    refine XS.iloadN X0.here hx rfl (hb hby d19_0) rfl ?_
    refine XS.i2b X0.here hx rfl (hb hby d19_1) rfl ?_
    show Sx p e below s₁ (mkF m 2 #[rv r0, iv (58 : Int32), iv (0 : Int32), iv (own_len cs_), .unset, .unset] [(.int ((58 : Int32).toInt8.toInt32))]) _
    rw [show ((58 : Int32).toInt8.toInt32) = (58 : Int32) from (by decide)]
    show Sx p e below s₁ (mkF m 2 #[rv r0, iv (58 : Int32), iv (0 : Int32), iv (own_len cs_), .unset, .unset] [(.int (58 : Int32))]) _
    refine XS.istore X0.here hx rfl (hb hby d19_2) rfl (l' := #[rv r0, iv (58 : Int32), iv (0 : Int32), iv (own_len cs_), iv (58 : Int32), .unset]) rfl ?_
    refine XS.iloadN X0.here hx rfl (hb hby d19_4) rfl ?_
    refine XS.istore X0.here hx rfl (hb hby d19_5) rfl (l' := #[rv r0, iv (58 : Int32), iv (0 : Int32), iv (own_len cs_), iv (58 : Int32), iv (0 : Int32)]) rfl ?_
    exact kt
  obtain ⟨T2, h2, L2, ⟨X2, e2, N2, zz2, Va2, hq2⟩, Kl2, st2⟩ := own_iter (tb := p.tables) (e := e) (below := below) (F := fun i => mkF m 7 #[.val (.ref r0), .val (.int (58 : Int32)), .val (.int (0 : Int32)), .val (.int (own_len cs_)), .val (.int (58 : Int32)), .val (.int (own_n i))] []) (Inv := fun i T h Ls => Stand p l e R19 s m #[(.ref r0), (.int (58 : Int32)), (.int (0 : Int32)), (.int (own_len cs_))] below meth c T Ls 0 0 ∧ T.heap = h ∧ Fr n0 Ls ∧ n0 ≤ h.size ∧ Arv Z h r0 kc .byte (own_len cs_) (own_M (own_Lb cs_)) (.int (0 : Int32)) ∧ h = h0) (ws := []) (n := jj) (fun i T h Ls hi ⟨X, e1, N1, z1, Va, hq⟩ => by
      obtain ⟨T', h', L', X', e', N', K', hq', s'⟩ := own_t19 r0 i (cs_.getD i (0 : Int32)) kc cs_ X hx hZ hw hby hml hown e1 z1 N1 Va (own_get (by omega)) (by omega) hl5 (hcs_ _ (List.mem_of_getElem? (own_get (by omega)))) (hbf i _ hi (own_get (by omega))) (hL _ (List.mem_of_getElem? (own_get (by omega))))
      exact ⟨T', h', L', ⟨X', e', N', Nat.le_trans z1 K'.1, hq' ▸ Va, hq'.trans hq⟩, K', s'⟩) (jj) 0 s₁ h0 _ (Nat.zero_add _) ⟨X0, e0, N0, Nat.le_trans Z0 (Keep.refl h0 []).1, V_r0, rfl⟩
  have K2 : Keep h0 h2 [] := (Keep.refl h0 []).trans Kl2 all0
  have pre4 : ∀ t, Sx p e below T2 (mkF m 10 #[rv r0, iv (58 : Int32), iv (0 : Int32), iv (own_len cs_), iv (58 : Int32), iv (own_n jj)] [(.int (own_len cs_)), (.int (own_n jj))]) t → Sx p e below s₁ g₀ t := by
    intro t kt
    refine pre1 _ ?_
    refine st2 _ ?_
    show Sx p e below T2 (mkF m 7 #[rv r0, iv (58 : Int32), iv (0 : Int32), iv (own_len cs_), iv (58 : Int32), iv (own_n jj)] []) _
    refine XS.iload X2.here hx rfl (hb hby d19_7) rfl ?_
    refine XS.iloadN X2.here hx rfl (hb hby d19_9) rfl ?_
    exact kt
  have hc10_3 : (own_n jj) < (own_len cs_) := (own_nlt hj5 (by omega))
  obtain ⟨cl5, Ar5, q5, S5, M5, H5, G5⟩ := id Va2
  have hin5 : ¬ ((own_n jj) < 0 ∨ cl5.slots.size ≤ ((own_n jj)).toNatClampNeg) := inb_of S5 ⟨own_nP (by omega), own_nlt hj5 (by omega)⟩
  have hat5 : cl5.slots[((own_n jj)).toNatClampNeg]? = some (.int ((58 : Int32).toInt8.toInt32)) := H5.at hin5 (own_Mat (own_Lbat hjj) (by omega))
  have pre7 : ∀ t, Sx p e below T2 (mkF m 19 #[rv r0, iv (58 : Int32), iv (0 : Int32), iv (own_len cs_), iv (58 : Int32), iv (own_n jj)] [(.int (58 : Int32)), (.int ((58 : Int32).toInt8.toInt32))]) t → Sx p e below s₁ g₀ t := by
    intro t kt
    refine pre4 _ ?_
    refine XS.icmpNo X2.here hx rfl (hb hby d19_10) rfl (tlt hc10_3).2.1 ?_
    refine XS.aloadN X2.here hx rfl (hb hby d19_13) rfl rfl ?_
    refine XS.iload X2.here hx rfl (hb hby d19_14) rfl ?_
    refine X2.baloadBytes hx (j := (own_n jj)) (v := (.int ((58 : Int32).toInt8.toInt32))) (by rw [e2]; exact Ar5.1) (State.isArrayOf_alike hZ.alike Ar5.2.1) Ar5.2.2 hin5 hat5 (g := (mkF m 16 #[rv r0, iv (58 : Int32), iv (0 : Int32), iv (own_len cs_), iv (58 : Int32), iv (own_n jj)] [(.int (own_n jj)), (.ref r0)])) rfl rfl (hb hby d19_16) _ ?_
    show Sx p e below T2 (mkF m 17 #[rv r0, iv (58 : Int32), iv (0 : Int32), iv (own_len cs_), iv (58 : Int32), iv (own_n jj)] [(.int ((58 : Int32).toInt8.toInt32))]) _
    refine XS.iload X2.here hx rfl (hb hby d19_17) rfl ?_
    exact kt
  have hc19_6 : ((58 : Int32).toInt8.toInt32) = (58 : Int32) := (by decide)
  have pre8 : ∀ t, Sx p e below T2 (mkF m 24 #[rv r0, iv (58 : Int32), iv (0 : Int32), iv (own_len cs_), iv (58 : Int32), iv (own_n jj)] [(.int (own_n jj))]) t → Sx p e below s₁ g₀ t := by
    intro t kt
    refine pre7 _ ?_
    refine XS.icmpNo X2.here hx rfl (hb hby d19_19) rfl (teq hc19_6).2 ?_
    refine XS.iload X2.here hx rfl (hb hby d19_22) rfl ?_
    exact kt
  obtain ⟨fs, hr, hrun, hended, hW, hsame⟩ := X2.leave (v := some (.int (own_n jj))) (fun h => by rw [Bd.returns] at h; cases h)
  refine ⟨_, _, _, pre8 _ ?_, hrun, hended, ?_, ⟨_, rfl⟩, hW, hsame.mono (by decide) (by decide)⟩
  · show Steps p.tables e below (T2.setTop (mkF m 24 #[rv r0, iv (58 : Int32), iv (0 : Int32), iv (own_len cs_), iv (58 : Int32), iv (own_n jj)] [(.int (own_n jj))])) _
    exact retI X2 hx Bd.returns (hb hby d19_24) hr
  · show Q19 Z r0 kc cs_ jj h0 n0 _ T2.heap _
    rw [e2]
    exact ⟨rfl, N2, hq2⟩
abbrev D49 (q : Nat) (i : Instr) (k : Nat) : Prop := decode jdk_52_method_47_code q = .ok (i, k)
theorem d49_0 : D49 0 (.iload_n 2) 1 := by decide +kernel
theorem d49_1 : D49 1 (.iload_n 3) 1 := by decide +kernel
theorem d49_2 : D49 2 (.aload_n 0) 1 := by decide +kernel
theorem d49_3 : D49 3 (.invokestatic 96) 3 := by decide +kernel
theorem d49_6 : D49 6 (.aload_n 0) 1 := by decide +kernel
theorem d49_7 : D49 7 (.iload_n 1) 1 := by decide +kernel
theorem d49_8 : D49 8 (.iload_n 2) 1 := by decide +kernel
theorem d49_9 : D49 9 (.iload_n 3) 1 := by decide +kernel
theorem pd24 : parseMethodDescriptor "([BIII)I" = some ⟨[(.array .byte), .int, .int, .int], some .int⟩ := by decide +kernel
theorem d49_10 : D49 10 (.invokestatic 244) 3 := by decide +kernel
theorem d49_13 : D49 13 (.ireturn) 1 := by decide +kernel
theorem ef_49 (m : MethodId) (x0 : Addr) (x1 : Int32) (x2 : Int32) (x3 : Int32) : entryFrame m #[(.ref x0), (.int x1), (.int x2), (.int x3)] 4 = mkF m 0 #[.val (.ref x0), .val (.int x1), .val (.int x2), .val (.int x3)] [] := by first | (simp [entryFrame, mkF, argsToLocals, Value.category]; done) | rfl
def Q49 (Z : State) (r0 : Addr) (kc : ClassId) (cs_ : List Int32) (jj : Nat) (fm : Value) (h0 : Heap) (n0 : Nat) (v : Option Value) (h : Heap) (L : List Loc) : Prop := v = some (.int (own_n jj)) ∧ Fr n0 L ∧ h = h0
abbrev R49 : Room := { frames := 3, cells := 0, slots := 0, locals := 76 }
theorem rm49 (l : Launch) (Z : State) (a0 : Array Value) (hw : ∀ d ∈ tables_1, d.before a0 Z = true) (ws : List Jvm.Cond) (r0 : Addr) (kc : ClassId) (cs_ : List Int32) (jj : Nat) (fm : Value) (h0 : Heap) (n0 : Nat) (Z0 : n0 ≤ h0.size) (V_r0 : Arv Z h0 r0 kc .byte (own_len (own_U cs_)) (own_M (own_U cs_)) (.int (0 : Int32))) (hjj : cs_[jj]? = some (58 : Int32)) (hbf : ∀ i x, i < jj → cs_[i]? = some x → ¬ (x = (58 : Int32))) (hj5 : jj < cs_.length) (hl5 : cs_.length ≤ 5) (hcs_ : ∀ x ∈ cs_, own_ch x) (O0 : Old Z n0 h0) (S_fm : Sta Z Z.heap "jdk/internal/util/Preconditions" "SIOOBE_FORMATTER" "Ljava/util/function/BiFunction;" fm) (hr_fm : fm.isRef = true) (S_ad : Sta Z Z.heap "java/lang/StringUTF16" "$assertionsDisabled" "Z" (.int (1 : Int32))) (S_hi : Sta Z Z.heap "java/lang/StringUTF16" "HI_BYTE_SHIFT" "I" (.int (0 : Int32))) (S_lo : Sta Z Z.heap "java/lang/StringUTF16" "LO_BYTE_SHIFT" "I" (.int (8 : Int32))) :
    MetFree l Y33 (head1 (Jvm.Cond.code Y33 jdk_52_method_47_code 4 (some .int) :: ws) R49) (fun a U => a = #[(.ref r0), (.int (58 : Int32)), (.int (0 : Int32)), (.int (own_len cs_))] ∧ Z.Warmed39 U.vm ∧ U.heap = h0) (fun _ _ _ _ _ => True) (fun _ U o U' => ∃ v L, o = .returned v ∧ Q49 Z r0 kc cs_ jj fm h0 n0 v U'.heap L ∧ FrameEnd U o U' L R49.cells R49.slots) := by
  refine own_start (C := "java/lang/StringUTF16") (Q := Q49 Z r0 kc cs_ jj fm h0 n0) rfl (plainFor_of_name pn7) ?_
  intro p e s m below meth c s₁ g₀ hg₀ Bd hx hby hml hZ hown hnm X0 e0
  have N0 := Fr.nil n0
  have pre0 : ∀ t, Sx p e below s₁ (mkF m 0 #[rv r0, iv (58 : Int32), iv (0 : Int32), iv (own_len cs_)] []) t → Sx p e below s₁ g₀ t := fun t k => by subst hg₀; exact castTop (ef_49 m r0 (58 : Int32) (0 : Int32) (own_len cs_)) k
  have pre1 : ∀ t, Sx p e below s₁ (mkF m 3 #[rv r0, iv (58 : Int32), iv (0 : Int32), iv (own_len cs_)] [(.ref r0), (.int (own_len cs_)), (.int (0 : Int32))]) t → Sx p e below s₁ g₀ t := by
    intro t kt
    refine pre0 _ ?_
    refine XS.iloadN X0.here hx rfl (hb hby d49_0) rfl ?_
    refine XS.iloadN X0.here hx rfl (hb hby d49_1) rfl ?_
    refine XS.aloadN X0.here hx rfl (hb hby d49_2) rfl rfl ?_
    exact kt
  obtain ⟨_, T2, Lc2, X2, hQ2, st2⟩ := own_cS X0 hx hZ (y := Y11) hown (own_w hw 229 rfl) (own_w hw 230 rfl) (own_w hw 27 rfl) (own_w hw 231 rfl) (by decide) (W := 0) (rm50 l Z a0 hw [] (0 : Int32) (own_len cs_) r0 kc (own_len (own_U cs_)) (own_M (own_U cs_)) (own_len cs_) fm h0 n0 (Nat.le_trans Z0 (Keep.refl h0 []).1) V_r0 (O0.keep (Keep.refl h0 []) all0) S_fm hr_fm (own_Uh (by omega)) (by decide) (own_nge (i := cs_.length) (j := 0) (Nat.zero_le _) (by omega)) (own_nge (Nat.le_refl _) (by omega))) (by decide) (by decide) (g := (mkF m 3 #[rv r0, iv (58 : Int32), iv (0 : Int32), iv (own_len cs_)] [(.ref r0), (.int (own_len cs_)), (.int (0 : Int32))])) rfl hml.symm (argsL := [(.int (0 : Int32)), (.int (own_len cs_)), (.ref r0)]) (rest := []) (lenOf pd16 rfl) rfl (Nat.le_of_eq rfl) (hb hby d49_3) rfl e0 (by decide) (by decide)
  obtain ⟨rfl, N2q, hh2⟩ := hQ2
  have N2 := Fr.app N0 N2q
  have pre3 : ∀ t, Sx p e below T2 (mkF m 10 #[rv r0, iv (58 : Int32), iv (0 : Int32), iv (own_len cs_)] [(.int (own_len cs_)), (.int (0 : Int32)), (.int (58 : Int32)), (.ref r0)]) t → Sx p e below s₁ g₀ t := by
    intro t kt
    refine pre1 _ ?_
    refine st2 _ ?_
    show Sx p e below T2 (mkF m 6 #[rv r0, iv (58 : Int32), iv (0 : Int32), iv (own_len cs_)] []) _
    refine XS.aloadN X2.here hx rfl (hb hby d49_6) rfl rfl ?_
    refine XS.iloadN X2.here hx rfl (hb hby d49_7) rfl ?_
    refine XS.iloadN X2.here hx rfl (hb hby d49_8) rfl ?_
    refine XS.iloadN X2.here hx rfl (hb hby d49_9) rfl ?_
    exact kt
  obtain ⟨_, T4, Lc4, X4, hQ4, st4⟩ := own_cS X2 hx hZ (y := Y31) hown (own_w hw 236 rfl) (own_w hw 237 rfl) (own_w hw 27 rfl) (own_w hw 238 rfl) (by decide) (W := 0) (rm52 l Z a0 hw [] r0 kc cs_ jj h0 n0 (Nat.le_trans Z0 (Keep.refl h0 []).1) V_r0 hjj hbf hj5 hl5 hcs_ (O0.keep (Keep.refl h0 []) all0) S_ad S_hi S_lo) (by decide) (by decide) (g := (mkF m 10 #[rv r0, iv (58 : Int32), iv (0 : Int32), iv (own_len cs_)] [(.int (own_len cs_)), (.int (0 : Int32)), (.int (58 : Int32)), (.ref r0)])) rfl hml.symm (argsL := [(.ref r0), (.int (58 : Int32)), (.int (0 : Int32)), (.int (own_len cs_))]) (rest := []) (lenOf pd24 rfl) rfl (Nat.le_of_eq rfl) (hb hby d49_10) rfl hh2 (by decide) (by decide)
  obtain ⟨rfl, N4q, hh4⟩ := hQ4
  have N4 := Fr.app N2 N4q
  have pre5 : ∀ t, Sx p e below T4 (mkF m 13 #[rv r0, iv (58 : Int32), iv (0 : Int32), iv (own_len cs_)] [(.int (own_n jj))]) t → Sx p e below s₁ g₀ t := by
    intro t kt
    refine pre3 _ ?_
    refine st4 _ ?_
    exact kt
  obtain ⟨fs, hr, hrun, hended, hW, hsame⟩ := X4.leave (v := some (.int (own_n jj))) (fun h => by rw [Bd.returns] at h; cases h)
  refine ⟨_, _, _, pre5 _ ?_, hrun, hended, ?_, ⟨_, rfl⟩, hW, hsame.mono (by decide) (by decide)⟩
  · show Steps p.tables e below (T4.setTop (mkF m 13 #[rv r0, iv (58 : Int32), iv (0 : Int32), iv (own_len cs_)] [(.int (own_n jj))])) _
    exact retI X4 hx Bd.returns (hb hby d49_13) hr
  · show Q49 Z r0 kc cs_ jj fm h0 n0 _ T4.heap _
    rw [hh4]
    exact ⟨rfl, N4, rfl⟩
abbrev D48 (q : Nat) (i : Instr) (k : Nat) : Prop := decode jdk_52_method_40_code q = .ok (i, k)
theorem d48_0 : D48 0 (.iload_n 2) 1 := by decide +kernel
theorem d48_1 : D48 1 (.iconst 0) 1 := by decide +kernel
theorem pd25 : parseMethodDescriptor "(II)I" = some ⟨[.int, .int], some .int⟩ := by decide +kernel
theorem d48_2 : D48 2 (.invokestatic 224) 3 := by decide +kernel
theorem d48_5 : D48 5 (.istore_n 2) 1 := by decide +kernel
theorem d48_6 : D48 6 (.iload_n 3) 1 := by decide +kernel
theorem d48_7 : D48 7 (.aload_n 0) 1 := by decide +kernel
theorem d48_8 : D48 8 (.arraylength) 1 := by decide +kernel
theorem d48_9 : D48 9 (.iconst 1) 1 := by decide +kernel
theorem d48_10 : D48 10 (.ishr) 1 := by decide +kernel
theorem d48_11 : D48 11 (.invokestatic 183) 3 := by decide +kernel
theorem d48_14 : D48 14 (.istore_n 3) 1 := by decide +kernel
theorem d48_15 : D48 15 (.iload_n 2) 1 := by decide +kernel
theorem d48_16 : D48 16 (.iload_n 3) 1 := by decide +kernel
theorem d48_17 : D48 17 (.if_icmp .lt 5) 3 := by decide +kernel
theorem d48_22 : D48 22 (.iload_n 1) 1 := by decide +kernel
theorem d48_23 : D48 23 (.ldc 227) 2 := by decide +kernel
theorem d48_25 : D48 25 (.if_icmp .ge 11) 3 := by decide +kernel
theorem d48_28 : D48 28 (.aload_n 0) 1 := by decide +kernel
theorem d48_29 : D48 29 (.iload_n 1) 1 := by decide +kernel
theorem d48_30 : D48 30 (.iload_n 2) 1 := by decide +kernel
theorem d48_31 : D48 31 (.iload_n 3) 1 := by decide +kernel
theorem d48_32 : D48 32 (.invokestatic 228) 3 := by decide +kernel
theorem d48_35 : D48 35 (.ireturn) 1 := by decide +kernel
theorem ef_48 (m : MethodId) (x0 : Addr) (x1 : Int32) (x2 : Int32) (x3 : Int32) : entryFrame m #[(.ref x0), (.int x1), (.int x2), (.int x3)] 4 = mkF m 0 #[.val (.ref x0), .val (.int x1), .val (.int x2), .val (.int x3)] [] := by first | (simp [entryFrame, mkF, argsToLocals, Value.category]; done) | rfl
def Q48 (Z : State) (r0 : Addr) (kc : ClassId) (cs_ : List Int32) (jj : Nat) (fm : Value) (h0 : Heap) (n0 : Nat) (v : Option Value) (h : Heap) (L : List Loc) : Prop := v = some (.int (own_n jj)) ∧ Fr n0 L ∧ h = h0
abbrev R48 : Room := { frames := 4, cells := 0, slots := 0, locals := 91 }
theorem rm48 (l : Launch) (Z : State) (a0 : Array Value) (hw : ∀ d ∈ tables_1, d.before a0 Z = true) (ws : List Jvm.Cond) (r0 : Addr) (kc : ClassId) (cs_ : List Int32) (jj : Nat) (fm : Value) (h0 : Heap) (n0 : Nat) (Z0 : n0 ≤ h0.size) (V_r0 : Arv Z h0 r0 kc .byte (own_len (own_U cs_)) (own_M (own_U cs_)) (.int (0 : Int32))) (hjj : cs_[jj]? = some (58 : Int32)) (hbf : ∀ i x, i < jj → cs_[i]? = some x → ¬ (x = (58 : Int32))) (hj5 : jj < cs_.length) (hl5 : cs_.length ≤ 5) (hcs_ : ∀ x ∈ cs_, own_ch x) (O0 : Old Z n0 h0) (S_fm : Sta Z Z.heap "jdk/internal/util/Preconditions" "SIOOBE_FORMATTER" "Ljava/util/function/BiFunction;" fm) (hr_fm : fm.isRef = true) (S_ad : Sta Z Z.heap "java/lang/StringUTF16" "$assertionsDisabled" "Z" (.int (1 : Int32))) (S_hi : Sta Z Z.heap "java/lang/StringUTF16" "HI_BYTE_SHIFT" "I" (.int (0 : Int32))) (S_lo : Sta Z Z.heap "java/lang/StringUTF16" "LO_BYTE_SHIFT" "I" (.int (8 : Int32))) :
    MetFree l Y34 (head1 (Jvm.Cond.code Y34 jdk_52_method_40_code 4 (some .int) :: ws) R48) (fun a U => a = #[(.ref r0), (.int (58 : Int32)), (.int (0 : Int32)), (.int (own_len cs_))] ∧ Z.Warmed39 U.vm ∧ U.heap = h0) (fun _ _ _ _ _ => True) (fun _ U o U' => ∃ v L, o = .returned v ∧ Q48 Z r0 kc cs_ jj fm h0 n0 v U'.heap L ∧ FrameEnd U o U' L R48.cells R48.slots) := by
  refine own_start (C := "java/lang/StringUTF16") (Q := Q48 Z r0 kc cs_ jj fm h0 n0) rfl (plainFor_of_name pn7) ?_
  intro p e s m below meth c s₁ g₀ hg₀ Bd hx hby hml hZ hown hnm X0 e0
  have N0 := Fr.nil n0
  have pre0 : ∀ t, Sx p e below s₁ (mkF m 0 #[rv r0, iv (58 : Int32), iv (0 : Int32), iv (own_len cs_)] []) t → Sx p e below s₁ g₀ t := fun t k => by subst hg₀; exact castTop (ef_48 m r0 (58 : Int32) (0 : Int32) (own_len cs_)) k
  have pre1 : ∀ t, Sx p e below s₁ (mkF m 2 #[rv r0, iv (58 : Int32), iv (0 : Int32), iv (own_len cs_)] [(.int (0 : Int32)), (.int (0 : Int32))]) t → Sx p e below s₁ g₀ t := by
    intro t kt
    refine pre0 _ ?_
    refine XS.iloadN X0.here hx rfl (hb hby d48_0) rfl ?_
    refine XS.iconst X0.here hx rfl (hb hby d48_1) ?_
    exact kt
  obtain ⟨_, T2, Lc2, X2, hQ2, st2⟩ := own_cS X0 hx hZ (y := Y1) hown (own_w hw 223 rfl) (own_w hw 76 rfl) (own_w hw 77 rfl) (own_w hw 78 rfl) (by decide) (W := 0) (rm17 l Z a0 hw []  h0 n0 (Nat.le_trans Z0 (Keep.refl h0 []).1)) (by decide) (by decide) (g := (mkF m 2 #[rv r0, iv (58 : Int32), iv (0 : Int32), iv (own_len cs_)] [(.int (0 : Int32)), (.int (0 : Int32))])) rfl hml.symm (argsL := [(.int (0 : Int32)), (.int (0 : Int32))]) (rest := []) (lenOf pd25 rfl) rfl (Nat.le_of_eq rfl) (hb hby d48_2) rfl e0 (by decide) (by decide)
  obtain ⟨rfl, N2q, hh2⟩ := hQ2
  have N2 := Fr.app N0 N2q
  obtain ⟨cl3, Ar3, -, S3, M3, -, -⟩ := id V_r0
  have pre4 : ∀ t, Sx p e below T2 (mkF m 11 #[rv r0, iv (58 : Int32), iv (0 : Int32), iv (own_len cs_)] [(.int (own_len cs_)), (.int (own_len cs_))]) t → Sx p e below s₁ g₀ t := by
    intro t kt
    refine pre1 _ ?_
    refine st2 _ ?_
    show Sx p e below T2 (mkF m 5 #[rv r0, iv (58 : Int32), iv (0 : Int32), iv (own_len cs_)] [(.int (0 : Int32))]) _
    refine XS.istoreN X2.here hx rfl (hb hby d48_5) rfl (l' := #[rv r0, iv (58 : Int32), iv (0 : Int32), iv (own_len cs_)]) rfl ?_
    refine XS.iloadN X2.here hx rfl (hb hby d48_6) rfl ?_
    refine XS.aloadN X2.here hx rfl (hb hby d48_7) rfl rfl ?_
    refine X2.arraylength hx (by rw [hh2]; exact Ar3.1) (State.isArrayOf_alike hZ.alike Ar3.2.1) (g := (mkF m 8 #[rv r0, iv (58 : Int32), iv (0 : Int32), iv (own_len cs_)] [(.ref r0), (.int (own_len cs_))])) rfl rfl (hb hby d48_8) _ ?_
    rw [len_of S3 M3]
    show Sx p e below T2 (mkF m 9 #[rv r0, iv (58 : Int32), iv (0 : Int32), iv (own_len cs_)] [(.int (own_len (own_U cs_))), (.int (own_len cs_))]) _
    refine XS.iconst X2.here hx rfl (hb hby d48_9) ?_
    refine XS.ishr X2.here hx rfl (hb hby d48_10) rfl ?_
    show Sx p e below T2 (mkF m 11 #[rv r0, iv (58 : Int32), iv (0 : Int32), iv (own_len cs_)] [(.int ((own_len (own_U cs_)) >>> ((1 : Int32) &&& 31))), (.int (own_len cs_))]) _
    rw [show ((own_len (own_U cs_)) >>> ((1 : Int32) &&& 31)) = (own_len cs_) from (own_Uh (by omega))]
    exact kt
  obtain ⟨_, T5, Lc5, X5, hQ5, st5⟩ := own_cS X2 hx hZ (y := Y0) hown (own_w hw 224 rfl) (own_w hw 80 rfl) (own_w hw 77 rfl) (own_w hw 81 rfl) (by decide) (W := 0) (rm18 l Z a0 hw [] (own_len cs_) (own_len cs_) (own_len cs_) h0 n0 (Nat.le_trans Z0 (Keep.refl h0 []).1) (if_neg (own_nge (Nat.le_refl _) (by omega)))) (by decide) (by decide) (g := (mkF m 11 #[rv r0, iv (58 : Int32), iv (0 : Int32), iv (own_len cs_)] [(.int (own_len cs_)), (.int (own_len cs_))])) rfl hml.symm (argsL := [(.int (own_len cs_)), (.int (own_len cs_))]) (rest := []) (lenOf pd25 rfl) rfl (Nat.le_of_eq rfl) (hb hby d48_11) rfl hh2 (by decide) (by decide)
  obtain ⟨rfl, N5q, hh5⟩ := hQ5
  have N5 := Fr.app N2 N5q
  have pre7 : ∀ t, Sx p e below T5 (mkF m 17 #[rv r0, iv (58 : Int32), iv (0 : Int32), iv (own_len cs_)] [(.int (own_len cs_)), (.int (0 : Int32))]) t → Sx p e below s₁ g₀ t := by
    intro t kt
    refine pre4 _ ?_
    refine st5 _ ?_
    show Sx p e below T5 (mkF m 14 #[rv r0, iv (58 : Int32), iv (0 : Int32), iv (own_len cs_)] [(.int (own_len cs_))]) _
    refine XS.istoreN X5.here hx rfl (hb hby d48_14) rfl (l' := #[rv r0, iv (58 : Int32), iv (0 : Int32), iv (own_len cs_)]) rfl ?_
    refine XS.iloadN X5.here hx rfl (hb hby d48_15) rfl ?_
    refine XS.iloadN X5.here hx rfl (hb hby d48_16) rfl ?_
    exact kt
  have hc17_6 : (0 : Int32) < (own_len cs_) := (own_pos (by omega) (by omega))
  have pre8 : ∀ t, Sx p e below T5 (mkF m 32 #[rv r0, iv (58 : Int32), iv (0 : Int32), iv (own_len cs_)] [(.int (own_len cs_)), (.int (0 : Int32)), (.int (58 : Int32)), (.ref r0)]) t → Sx p e below s₁ g₀ t := by
    intro t kt
    refine pre7 _ ?_
    refine XS.icmpYes X5.here hx rfl (pc0 := 17) (pc' := 22) rfl (hb hby d48_17) rfl (tlt hc17_6).1 (by decide) (by decide) ?_
    refine XS.iloadN X5.here hx rfl (hb hby d48_22) rfl ?_
    refine X5.ldcInt hx hown (mvT hZ (own_w hw 225 rfl)) (g := (mkF m 23 #[rv r0, iv (58 : Int32), iv (0 : Int32), iv (own_len cs_)] [(.int (58 : Int32))])) rfl (hb hby d48_23) _ ?_
    show Sx p e below T5 (mkF m 25 #[rv r0, iv (58 : Int32), iv (0 : Int32), iv (own_len cs_)] [(.int (65536 : Int32)), (.int (58 : Int32))]) _
    refine XS.icmpNo X5.here hx rfl (hb hby d48_25) rfl (tlt (by decide)).2.1 ?_
    refine XS.aloadN X5.here hx rfl (hb hby d48_28) rfl rfl ?_
    refine XS.iloadN X5.here hx rfl (hb hby d48_29) rfl ?_
    refine XS.iloadN X5.here hx rfl (hb hby d48_30) rfl ?_
    refine XS.iloadN X5.here hx rfl (hb hby d48_31) rfl ?_
    exact kt
  obtain ⟨_, T9, Lc9, X9, hQ9, st9⟩ := own_cS X5 hx hZ (y := Y33) hown (own_w hw 226 rfl) (own_w hw 227 rfl) (own_w hw 27 rfl) (own_w hw 228 rfl) (by decide) (W := 0) (rm49 l Z a0 hw [] r0 kc cs_ jj fm h0 n0 (Nat.le_trans Z0 (Keep.refl h0 []).1) V_r0 hjj hbf hj5 hl5 hcs_ (O0.keep (Keep.refl h0 []) all0) S_fm hr_fm S_ad S_hi S_lo) (by decide) (by decide) (g := (mkF m 32 #[rv r0, iv (58 : Int32), iv (0 : Int32), iv (own_len cs_)] [(.int (own_len cs_)), (.int (0 : Int32)), (.int (58 : Int32)), (.ref r0)])) rfl hml.symm (argsL := [(.ref r0), (.int (58 : Int32)), (.int (0 : Int32)), (.int (own_len cs_))]) (rest := []) (lenOf pd24 rfl) rfl (Nat.le_of_eq rfl) (hb hby d48_32) rfl hh5 (by decide) (by decide)
  obtain ⟨rfl, N9q, hh9⟩ := hQ9
  have N9 := Fr.app N5 N9q
  have pre10 : ∀ t, Sx p e below T9 (mkF m 35 #[rv r0, iv (58 : Int32), iv (0 : Int32), iv (own_len cs_)] [(.int (own_n jj))]) t → Sx p e below s₁ g₀ t := by
    intro t kt
    refine pre8 _ ?_
    refine st9 _ ?_
    exact kt
  obtain ⟨fs, hr, hrun, hended, hW, hsame⟩ := X9.leave (v := some (.int (own_n jj))) (fun h => by rw [Bd.returns] at h; cases h)
  refine ⟨_, _, _, pre10 _ ?_, hrun, hended, ?_, ⟨_, rfl⟩, hW, hsame.mono (by decide) (by decide)⟩
  · show Steps p.tables e below (T9.setTop (mkF m 35 #[rv r0, iv (58 : Int32), iv (0 : Int32), iv (own_len cs_)] [(.int (own_n jj))])) _
    exact retI X9 hx Bd.returns (hb hby d48_35) hr
  · show Q48 Z r0 kc cs_ jj fm h0 n0 _ T9.heap _
    rw [hh9]
    exact ⟨rfl, N9, rfl⟩
abbrev D15 (q : Nat) (i : Instr) (k : Nat) : Prop := decode jdk_43_method_22_code q = .ok (i, k)
theorem d15_0 : D15 0 (.iload_n 1) 1 := by decide +kernel
theorem pd26 : parseMethodDescriptor "(I)Z" = some ⟨[.int], some .boolean⟩ := by decide +kernel
theorem d15_1 : D15 1 (.invokestatic 88) 3 := by decide +kernel
theorem d15_4 : D15 4 (.ifCond .ne 5) 3 := by decide +kernel
theorem d15_9 : D15 9 (.iload_n 2) 1 := by decide +kernel
theorem d15_10 : D15 10 (.iconst 0) 1 := by decide +kernel
theorem d15_11 : D15 11 (.invokestatic 92) 3 := by decide +kernel
theorem d15_14 : D15 14 (.istore_n 2) 1 := by decide +kernel
theorem d15_15 : D15 15 (.iload_n 3) 1 := by decide +kernel
theorem d15_16 : D15 16 (.aload_n 0) 1 := by decide +kernel
theorem d15_17 : D15 17 (.arraylength) 1 := by decide +kernel
theorem d15_18 : D15 18 (.invokestatic 38) 3 := by decide +kernel
theorem d15_21 : D15 21 (.istore_n 3) 1 := by decide +kernel
theorem d15_22 : D15 22 (.iload_n 2) 1 := by decide +kernel
theorem d15_23 : D15 23 (.iload_n 3) 1 := by decide +kernel
theorem d15_24 : D15 24 (.if_icmp .lt 5) 3 := by decide +kernel
theorem d15_29 : D15 29 (.aload_n 0) 1 := by decide +kernel
theorem d15_30 : D15 30 (.iload_n 1) 1 := by decide +kernel
theorem d15_31 : D15 31 (.iload_n 2) 1 := by decide +kernel
theorem d15_32 : D15 32 (.iload_n 3) 1 := by decide +kernel
theorem d15_33 : D15 33 (.invokestatic 95) 3 := by decide +kernel
theorem d15_36 : D15 36 (.ireturn) 1 := by decide +kernel
theorem ef_15 (m : MethodId) (x0 : Addr) (x1 : Int32) (x2 : Int32) (x3 : Int32) : entryFrame m #[(.ref x0), (.int x1), (.int x2), (.int x3)] 4 = mkF m 0 #[.val (.ref x0), .val (.int x1), .val (.int x2), .val (.int x3)] [] := by first | (simp [entryFrame, mkF, argsToLocals, Value.category]; done) | rfl
def Q15 (Z : State) (r0 : Addr) (kc : ClassId) (cs_ : List Int32) (jj : Nat) (h0 : Heap) (n0 : Nat) (v : Option Value) (h : Heap) (L : List Loc) : Prop := v = some (.int (own_n jj)) ∧ Fr n0 L ∧ h = h0
abbrev R15 : Room := { frames := 1, cells := 0, slots := 0, locals := 17 }
theorem rm15 (l : Launch) (Z : State) (a0 : Array Value) (hw : ∀ d ∈ tables_1, d.before a0 Z = true) (ws : List Jvm.Cond) (r0 : Addr) (kc : ClassId) (cs_ : List Int32) (jj : Nat) (h0 : Heap) (n0 : Nat) (Z0 : n0 ≤ h0.size) (V_r0 : Arv Z h0 r0 kc .byte (own_len cs_) (own_M (own_Lb cs_)) (.int (0 : Int32))) (hjj : cs_[jj]? = some (58 : Int32)) (hbf : ∀ i x, i < jj → cs_[i]? = some x → ¬ (x = (58 : Int32))) (hj5 : jj < cs_.length) (hl5 : cs_.length ≤ 5) (hcs_ : ∀ x ∈ cs_, own_ch x) (hL : ∀ x ∈ cs_, ¬ ((255 : Int32) < x)) :
    MetFree l Y35 (head1 (Jvm.Cond.code Y35 jdk_43_method_22_code 4 (some .int) :: ws) R15) (fun a U => a = #[(.ref r0), (.int (58 : Int32)), (.int (0 : Int32)), (.int (own_len cs_))] ∧ Z.Warmed39 U.vm ∧ U.heap = h0) (fun _ _ _ _ _ => True) (fun _ U o U' => ∃ v L, o = .returned v ∧ Q15 Z r0 kc cs_ jj h0 n0 v U'.heap L ∧ FrameEnd U o U' L R15.cells R15.slots) := by
  refine own_start (C := "java/lang/StringLatin1") (Q := Q15 Z r0 kc cs_ jj h0 n0) rfl (plainFor_of_name pn2) ?_
  intro p e s m below meth c s₁ g₀ hg₀ Bd hx hby hml hZ hown hnm X0 e0
  have N0 := Fr.nil n0
  have pre0 : ∀ t, Sx p e below s₁ (mkF m 0 #[rv r0, iv (58 : Int32), iv (0 : Int32), iv (own_len cs_)] []) t → Sx p e below s₁ g₀ t := fun t k => by subst hg₀; exact castTop (ef_15 m r0 (58 : Int32) (0 : Int32) (own_len cs_)) k
  have pre1 : ∀ t, Sx p e below s₁ (mkF m 1 #[rv r0, iv (58 : Int32), iv (0 : Int32), iv (own_len cs_)] [(.int (58 : Int32))]) t → Sx p e below s₁ g₀ t := by
    intro t kt
    refine pre0 _ ?_
    refine XS.iloadN X0.here hx rfl (hb hby d15_0) rfl ?_
    exact kt
  obtain ⟨_, T2, Lc2, X2, hQ2, st2⟩ := own_cS X0 hx hZ (y := Y2) hown (own_w hw 72 rfl) (own_w hw 73 rfl) (own_w hw 70 rfl) (own_w hw 74 rfl) (by decide) (W := 0) (rm16 l Z a0 hw []  h0 n0 (Nat.le_trans Z0 (Keep.refl h0 []).1)) (by decide) (by decide) (g := (mkF m 1 #[rv r0, iv (58 : Int32), iv (0 : Int32), iv (own_len cs_)] [(.int (58 : Int32))])) rfl hml.symm (argsL := [(.int (58 : Int32))]) (rest := []) (lenOf pd26 rfl) rfl (Nat.le_of_eq rfl) (hb hby d15_1) rfl e0 (by decide) (by decide)
  obtain ⟨rfl, N2q, hh2⟩ := hQ2
  have N2 := Fr.app N0 N2q
  have pre3 : ∀ t, Sx p e below T2 (mkF m 11 #[rv r0, iv (58 : Int32), iv (0 : Int32), iv (own_len cs_)] [(.int (0 : Int32)), (.int (0 : Int32))]) t → Sx p e below s₁ g₀ t := by
    intro t kt
    refine pre1 _ ?_
    refine st2 _ ?_
    show Sx p e below T2 (mkF m 4 #[rv r0, iv (58 : Int32), iv (0 : Int32), iv (own_len cs_)] [(.int (1 : Int32))]) _
    refine XS.ifYes X2.here hx rfl (pc0 := 4) (pc' := 9) rfl (hb hby d15_4) rfl ((if0 _ _).trans (feq (by decide)).2) (by decide) (by decide) ?_
    refine XS.iloadN X2.here hx rfl (hb hby d15_9) rfl ?_
    refine XS.iconst X2.here hx rfl (hb hby d15_10) ?_
    exact kt
  obtain ⟨_, T4, Lc4, X4, hQ4, st4⟩ := own_cS X2 hx hZ (y := Y1) hown (own_w hw 75 rfl) (own_w hw 76 rfl) (own_w hw 77 rfl) (own_w hw 78 rfl) (by decide) (W := 0) (rm17 l Z a0 hw []  h0 n0 (Nat.le_trans Z0 (Keep.refl h0 []).1)) (by decide) (by decide) (g := (mkF m 11 #[rv r0, iv (58 : Int32), iv (0 : Int32), iv (own_len cs_)] [(.int (0 : Int32)), (.int (0 : Int32))])) rfl hml.symm (argsL := [(.int (0 : Int32)), (.int (0 : Int32))]) (rest := []) (lenOf pd25 rfl) rfl (Nat.le_of_eq rfl) (hb hby d15_11) rfl hh2 (by decide) (by decide)
  obtain ⟨rfl, N4q, hh4⟩ := hQ4
  have N4 := Fr.app N2 N4q
  obtain ⟨cl5, Ar5, -, S5, M5, -, -⟩ := id V_r0
  have pre6 : ∀ t, Sx p e below T4 (mkF m 18 #[rv r0, iv (58 : Int32), iv (0 : Int32), iv (own_len cs_)] [(.int (own_len cs_)), (.int (own_len cs_))]) t → Sx p e below s₁ g₀ t := by
    intro t kt
    refine pre3 _ ?_
    refine st4 _ ?_
    show Sx p e below T4 (mkF m 14 #[rv r0, iv (58 : Int32), iv (0 : Int32), iv (own_len cs_)] [(.int (0 : Int32))]) _
    refine XS.istoreN X4.here hx rfl (hb hby d15_14) rfl (l' := #[rv r0, iv (58 : Int32), iv (0 : Int32), iv (own_len cs_)]) rfl ?_
    refine XS.iloadN X4.here hx rfl (hb hby d15_15) rfl ?_
    refine XS.aloadN X4.here hx rfl (hb hby d15_16) rfl rfl ?_
    refine X4.arraylength hx (by rw [hh4]; exact Ar5.1) (State.isArrayOf_alike hZ.alike Ar5.2.1) (g := (mkF m 17 #[rv r0, iv (58 : Int32), iv (0 : Int32), iv (own_len cs_)] [(.ref r0), (.int (own_len cs_))])) rfl rfl (hb hby d15_17) _ ?_
    rw [len_of S5 M5]
    exact kt
  obtain ⟨_, T7, Lc7, X7, hQ7, st7⟩ := own_cS X4 hx hZ (y := Y0) hown (own_w hw 79 rfl) (own_w hw 80 rfl) (own_w hw 77 rfl) (own_w hw 81 rfl) (by decide) (W := 0) (rm18 l Z a0 hw [] (own_len cs_) (own_len cs_) (own_len cs_) h0 n0 (Nat.le_trans Z0 (Keep.refl h0 []).1) (if_neg (own_nge (Nat.le_refl _) (by omega)))) (by decide) (by decide) (g := (mkF m 18 #[rv r0, iv (58 : Int32), iv (0 : Int32), iv (own_len cs_)] [(.int (own_len cs_)), (.int (own_len cs_))])) rfl hml.symm (argsL := [(.int (own_len cs_)), (.int (own_len cs_))]) (rest := []) (lenOf pd25 rfl) rfl (Nat.le_of_eq rfl) (hb hby d15_18) rfl hh4 (by decide) (by decide)
  obtain ⟨rfl, N7q, hh7⟩ := hQ7
  have N7 := Fr.app N4 N7q
  have pre9 : ∀ t, Sx p e below T7 (mkF m 24 #[rv r0, iv (58 : Int32), iv (0 : Int32), iv (own_len cs_)] [(.int (own_len cs_)), (.int (0 : Int32))]) t → Sx p e below s₁ g₀ t := by
    intro t kt
    refine pre6 _ ?_
    refine st7 _ ?_
    show Sx p e below T7 (mkF m 21 #[rv r0, iv (58 : Int32), iv (0 : Int32), iv (own_len cs_)] [(.int (own_len cs_))]) _
    refine XS.istoreN X7.here hx rfl (hb hby d15_21) rfl (l' := #[rv r0, iv (58 : Int32), iv (0 : Int32), iv (own_len cs_)]) rfl ?_
    refine XS.iloadN X7.here hx rfl (hb hby d15_22) rfl ?_
    refine XS.iloadN X7.here hx rfl (hb hby d15_23) rfl ?_
    exact kt
  have hc24_8 : (0 : Int32) < (own_len cs_) := (own_pos (by omega) (by omega))
  have pre10 : ∀ t, Sx p e below T7 (mkF m 33 #[rv r0, iv (58 : Int32), iv (0 : Int32), iv (own_len cs_)] [(.int (own_len cs_)), (.int (0 : Int32)), (.int (58 : Int32)), (.ref r0)]) t → Sx p e below s₁ g₀ t := by
    intro t kt
    refine pre9 _ ?_
    refine XS.icmpYes X7.here hx rfl (pc0 := 24) (pc' := 29) rfl (hb hby d15_24) rfl (tlt hc24_8).1 (by decide) (by decide) ?_
    refine XS.aloadN X7.here hx rfl (hb hby d15_29) rfl rfl ?_
    refine XS.iloadN X7.here hx rfl (hb hby d15_30) rfl ?_
    refine XS.iloadN X7.here hx rfl (hb hby d15_31) rfl ?_
    refine XS.iloadN X7.here hx rfl (hb hby d15_32) rfl ?_
    exact kt
  obtain ⟨_, T11, Lc11, X11, hQ11, st11⟩ := own_cS X7 hx hZ (y := Y32) hown (own_w hw 82 rfl) (own_w hw 83 rfl) (own_w hw 70 rfl) (own_w hw 84 rfl) (by decide) (W := 0) (rm19 l Z a0 hw [] r0 kc cs_ jj h0 n0 (Nat.le_trans Z0 (Keep.refl h0 []).1) V_r0 hjj hbf hj5 hl5 hcs_ hL) (by decide) (by decide) (g := (mkF m 33 #[rv r0, iv (58 : Int32), iv (0 : Int32), iv (own_len cs_)] [(.int (own_len cs_)), (.int (0 : Int32)), (.int (58 : Int32)), (.ref r0)])) rfl hml.symm (argsL := [(.ref r0), (.int (58 : Int32)), (.int (0 : Int32)), (.int (own_len cs_))]) (rest := []) (lenOf pd24 rfl) rfl (Nat.le_of_eq rfl) (hb hby d15_33) rfl hh7 (by decide) (by decide)
  obtain ⟨rfl, N11q, hh11⟩ := hQ11
  have N11 := Fr.app N7 N11q
  have pre12 : ∀ t, Sx p e below T11 (mkF m 36 #[rv r0, iv (58 : Int32), iv (0 : Int32), iv (own_len cs_)] [(.int (own_n jj))]) t → Sx p e below s₁ g₀ t := by
    intro t kt
    refine pre10 _ ?_
    refine st11 _ ?_
    exact kt
  obtain ⟨fs, hr, hrun, hended, hW, hsame⟩ := X11.leave (v := some (.int (own_n jj))) (fun h => by rw [Bd.returns] at h; cases h)
  refine ⟨_, _, _, pre12 _ ?_, hrun, hended, ?_, ⟨_, rfl⟩, hW, hsame.mono (by decide) (by decide)⟩
  · show Steps p.tables e below (T11.setTop (mkF m 36 #[rv r0, iv (58 : Int32), iv (0 : Int32), iv (own_len cs_)] [(.int (own_n jj))])) _
    exact retI X11 hx Bd.returns (hb hby d15_36) hr
  · show Q15 Z r0 kc cs_ jj h0 n0 _ T11.heap _
    rw [hh11]
    exact ⟨rfl, N11, rfl⟩
abbrev D11 (q : Nat) (i : Instr) (k : Nat) : Prop := decode jdk_42_method_80_code q = .ok (i, k)
theorem d11_0 : D11 0 (.aload_n 0) 1 := by decide +kernel
theorem d11_1 : D11 1 (.invokevirtual 492) 3 := by decide +kernel
theorem d11_4 : D11 4 (.ifCond .eq 19) 3 := by decide +kernel
theorem d11_7 : D11 7 (.aload_n 0) 1 := by decide +kernel
theorem d11_8 : D11 8 (.getfield 9) 3 := by decide +kernel
theorem d11_11 : D11 11 (.iload_n 1) 1 := by decide +kernel
theorem d11_12 : D11 12 (.iload_n 2) 1 := by decide +kernel
theorem d11_13 : D11 13 (.aload_n 0) 1 := by decide +kernel
theorem pd27 : parseMethodDescriptor "()I" = some ⟨[], some .int⟩ := by decide +kernel
theorem d11_14 : D11 14 (.invokevirtual 505) 3 := by decide +kernel
theorem d11_17 : D11 17 (.invokestatic 637) 3 := by decide +kernel
theorem d11_20 : D11 20 (.goto 16) 3 := by decide +kernel
theorem d11_36 : D11 36 (.ireturn) 1 := by decide +kernel
theorem d11_23 : D11 23 (.aload_n 0) 1 := by decide +kernel
theorem d11_24 : D11 24 (.getfield 9) 3 := by decide +kernel
theorem d11_27 : D11 27 (.iload_n 1) 1 := by decide +kernel
theorem d11_28 : D11 28 (.iload_n 2) 1 := by decide +kernel
theorem d11_29 : D11 29 (.aload_n 0) 1 := by decide +kernel
theorem d11_30 : D11 30 (.invokevirtual 505) 3 := by decide +kernel
theorem d11_33 : D11 33 (.invokestatic 640) 3 := by decide +kernel
theorem ef_11s (m : MethodId) (x0 : Addr) (x1 : Int32) (x2 : Int32) : entryFrame m #[(.ref x0), (.int x1), (.int x2)] 3 = mkF m 0 #[.val (.ref x0), .val (.int x1), .val (.int x2)] [] := by first | (simp [entryFrame, mkF, argsToLocals, Value.category]; done) | rfl
def Q11s (Z : State) (r0 : Addr) (va : Addr) (kc : ClassId) (ts_ : List Int32) (jj : Nat) (cs : Int32) (fm : Value) (h0 : Heap) (n0 : Nat) (v : Option Value) (h : Heap) (L : List Loc) : Prop := v = some (.int (own_n jj)) ∧ Fr n0 L ∧ h = h0
abbrev R11s : Room := { frames := 5, cells := 0, slots := 0, locals := 106 }
theorem rm11s (l : Launch) (Z : State) (a0 : Array Value) (hw : ∀ d ∈ tables_1, d.before a0 Z = true) (ws : List Jvm.Cond) (r0 : Addr) (va : Addr) (kc : ClassId) (ts_ : List Int32) (jj : Nat) (cs : Int32) (fm : Value) (h0 : Heap) (n0 : Nat) (Z0 : n0 ≤ h0.size) (F_v : Fld Z h0 r0 "java/lang/String" "value" "[B" (.ref va)) (E_r0 : Exa Z h0 r0 "java/lang/String") (hD : own_sf Z h0 r0 va kc ts_) (hjj : ts_[jj]? = some (58 : Int32)) (hbf : ∀ i x, i < jj → ts_[i]? = some x → ¬ (x = (58 : Int32))) (hj5 : jj < ts_.length) (hts_ : ∀ x ∈ ts_, own_ch x) (ht5 : ts_.length ≤ 5) (O0 : Old Z n0 h0) (S_cs : Sta Z Z.heap "java/lang/String" "COMPACT_STRINGS" "Z" (.int cs)) (hcs : ¬ (cs = (0 : Int32))) (S_fm : Sta Z Z.heap "jdk/internal/util/Preconditions" "SIOOBE_FORMATTER" "Ljava/util/function/BiFunction;" fm) (hr_fm : fm.isRef = true) (S_ad : Sta Z Z.heap "java/lang/StringUTF16" "$assertionsDisabled" "Z" (.int (1 : Int32))) (S_hi : Sta Z Z.heap "java/lang/StringUTF16" "HI_BYTE_SHIFT" "I" (.int (0 : Int32))) (S_lo : Sta Z Z.heap "java/lang/StringUTF16" "LO_BYTE_SHIFT" "I" (.int (8 : Int32))) :
    MetFree l Y36 (head1 (Jvm.Cond.code Y36 jdk_42_method_80_code 3 (some .int) :: ws) R11s) (fun a U => a = #[(.ref r0), (.int (58 : Int32)), (.int (0 : Int32))] ∧ Z.Warmed39 U.vm ∧ U.heap = h0) (fun _ _ _ _ _ => True) (fun _ U o U' => ∃ v L, o = .returned v ∧ Q11s Z r0 va kc ts_ jj cs fm h0 n0 v U'.heap L ∧ FrameEnd U o U' L R11s.cells R11s.slots) := by
  refine own_start (C := "java/lang/String") (Q := Q11s Z r0 va kc ts_ jj cs fm h0 n0) rfl (plainFor_of_name pn4) ?_
  intro p e s m below meth c s₁ g₀ hg₀ Bd hx hby hml hZ hown hnm X0 e0
  have N0 := Fr.nil n0
  have pre0 : ∀ t, Sx p e below s₁ (mkF m 0 #[rv r0, iv (58 : Int32), iv (0 : Int32)] []) t → Sx p e below s₁ g₀ t := fun t k => by subst hg₀; exact castTop (ef_11s m r0 (58 : Int32) (0 : Int32)) k
  rcases hD with ⟨Fc, hL, V_⟩ | ⟨Fc, V_⟩
  · have pre1 : ∀ t, Sx p e below s₁ (mkF m 1 #[rv r0, iv (58 : Int32), iv (0 : Int32)] [(.ref r0)]) t → Sx p e below s₁ g₀ t := by
      intro t kt
      refine pre0 _ ?_
      refine XS.aloadN X0.here hx rfl (hb hby d11_0) rfl rfl ?_
      exact kt
    obtain ⟨_, T2, Lc2, X2, hQ2, st2⟩ := own_cV X0 hx hZ (y := Y26) hown (own_w hw 53 rfl) (own_w hw 54 rfl) (own_w hw 56 rfl) (own_w hw 55 rfl) (own_w hw 57 rfl) (own_w hw 13 rfl) (by decide) (W := 0) (rm12v0 l Z a0 hw [] r0 va cs h0 n0 (Nat.le_trans Z0 (Keep.refl h0 []).1) F_v Fc E_r0 (O0.keep (Keep.refl h0 []) all0) S_cs hcs) (by decide) (by decide) E_r0 (g := (mkF m 1 #[rv r0, iv (58 : Int32), iv (0 : Int32)] [(.ref r0)])) rfl hml.symm (argsL := []) (rest := []) (lenOf pd23 rfl) rfl (Nat.le_of_eq rfl) (hb hby d11_1) rfl e0 (by decide) (by decide)
    obtain ⟨rfl, N2q, hh2⟩ := hQ2
    have N2 := Fr.app N0 N2q
    have pre3 : ∀ t, Sx p e below T2 (mkF m 8 #[rv r0, iv (58 : Int32), iv (0 : Int32)] [(.ref r0)]) t → Sx p e below s₁ g₀ t := by
      intro t kt
      refine pre1 _ ?_
      refine st2.trans ?_
      show Sx p e below T2 (mkF m 4 #[rv r0, iv (58 : Int32), iv (0 : Int32)] [(.int (1 : Int32))]) _
      refine XS.ifNo X2.here hx rfl (hb hby d11_4) rfl ((if0 _ _).trans (feq (by decide)).1) ?_
      refine XS.aloadN X2.here hx rfl (hb hby d11_7) rfl rfl ?_
      exact kt
    obtain ⟨T4, X4, e4, st4⟩ := getF X2 hx hZ hown (host := "") (Or.inl (own_w hw 37 rfl)) Via.refl hh2 F_v (g := (mkF m 8 #[rv r0, iv (58 : Int32), iv (0 : Int32)] [(.ref r0)])) rfl rfl (hb hby d11_8)
    have pre5 : ∀ t, Sx p e below T4 (mkF m 14 #[rv r0, iv (58 : Int32), iv (0 : Int32)] [(.ref r0), (.int (0 : Int32)), (.int (58 : Int32)), (.ref va)]) t → Sx p e below s₁ g₀ t := by
      intro t kt
      refine pre3 _ ?_
      refine st4 _ ?_
      show Sx p e below T4 (mkF m 11 #[rv r0, iv (58 : Int32), iv (0 : Int32)] [(.ref va)]) _
      refine XS.iloadN X4.here hx rfl (hb hby d11_11) rfl ?_
      refine XS.iloadN X4.here hx rfl (hb hby d11_12) rfl ?_
      refine XS.aloadN X4.here hx rfl (hb hby d11_13) rfl rfl ?_
      exact kt
    obtain ⟨_, T6, Lc6, X6, hQ6, st6⟩ := own_cV X4 hx hZ (y := Y27) hown (own_w hw 58 rfl) (own_w hw 59 rfl) (own_w hw 61 rfl) (own_w hw 60 rfl) (own_w hw 62 rfl) (own_w hw 13 rfl) (by decide) (W := 3) (rm13 l Z a0 hw [] r0 va kc (own_len ts_) (own_M (own_Lb ts_)) (0 : Int32) (own_len ts_) cs h0 n0 (Nat.le_trans Z0 (Keep.refl h0 []).1) F_v Fc E_r0 V_ (by decide) (own_sh0 _) (O0.keep (Keep.refl h0 []) all0) S_cs hcs) (by decide) (by decide) E_r0 (g := (mkF m 14 #[rv r0, iv (58 : Int32), iv (0 : Int32)] [(.ref r0), (.int (0 : Int32)), (.int (58 : Int32)), (.ref va)])) rfl hml.symm (argsL := []) (rest := [(.int (0 : Int32)), (.int (58 : Int32)), (.ref va)]) (lenOf pd27 rfl) rfl (Nat.le_of_eq rfl) (hb hby d11_14) rfl e4 (by decide) (by decide)
    obtain ⟨rfl, N6q, hh6⟩ := hQ6
    have N6 := Fr.app N2 N6q
    have pre7 : ∀ t, Sx p e below T6 (mkF m 17 #[rv r0, iv (58 : Int32), iv (0 : Int32)] [(.int (own_len ts_)), (.int (0 : Int32)), (.int (58 : Int32)), (.ref va)]) t → Sx p e below s₁ g₀ t := by
      intro t kt
      refine pre5 _ ?_
      refine st6.trans ?_
      exact kt
    obtain ⟨_, T8, Lc8, X8, hQ8, st8⟩ := own_cS X6 hx hZ (y := Y35) hown (own_w hw 68 rfl) (own_w hw 69 rfl) (own_w hw 70 rfl) (own_w hw 71 rfl) (by decide) (W := 0) (rm15 l Z a0 hw [] va kc ts_ jj h0 n0 (Nat.le_trans Z0 (Keep.refl h0 []).1) V_ hjj hbf hj5 ht5 hts_ hL) (by decide) (by decide) (g := (mkF m 17 #[rv r0, iv (58 : Int32), iv (0 : Int32)] [(.int (own_len ts_)), (.int (0 : Int32)), (.int (58 : Int32)), (.ref va)])) rfl hml.symm (argsL := [(.ref va), (.int (58 : Int32)), (.int (0 : Int32)), (.int (own_len ts_))]) (rest := []) (lenOf pd24 rfl) rfl (Nat.le_of_eq rfl) (hb hby d11_17) rfl hh6 (by decide) (by decide)
    obtain ⟨rfl, N8q, hh8⟩ := hQ8
    have N8 := Fr.app N6 N8q
    have pre9 : ∀ t, Sx p e below T8 (mkF m 36 #[rv r0, iv (58 : Int32), iv (0 : Int32)] [(.int (own_n jj))]) t → Sx p e below s₁ g₀ t := by
      intro t kt
      refine pre7 _ ?_
      refine st8 _ ?_
      show Sx p e below T8 (mkF m 20 #[rv r0, iv (58 : Int32), iv (0 : Int32)] [(.int (own_n jj))]) _
      refine XS.goto X8.here hx rfl (pc0 := 20) (pc' := 36) rfl (hb hby d11_20) (by decide) (by decide) ?_
      exact kt
    obtain ⟨fs, hr, hrun, hended, hW, hsame⟩ := X8.leave (v := some (.int (own_n jj))) (fun h => by rw [Bd.returns] at h; cases h)
    refine ⟨_, _, _, pre9 _ ?_, hrun, hended, ?_, ⟨_, rfl⟩, hW, hsame.mono (by decide) (by decide)⟩
    · show Steps p.tables e below (T8.setTop (mkF m 36 #[rv r0, iv (58 : Int32), iv (0 : Int32)] [(.int (own_n jj))])) _
      exact retI X8 hx Bd.returns (hb hby d11_36) hr
    · show Q11s Z r0 va kc ts_ jj cs fm h0 n0 _ T8.heap _
      rw [hh8]
      exact ⟨rfl, N8, rfl⟩
  · have pre10 : ∀ t, Sx p e below s₁ (mkF m 1 #[rv r0, iv (58 : Int32), iv (0 : Int32)] [(.ref r0)]) t → Sx p e below s₁ g₀ t := by
      intro t kt
      refine pre0 _ ?_
      refine XS.aloadN X0.here hx rfl (hb hby d11_0) rfl rfl ?_
      exact kt
    obtain ⟨_, T11, Lc11, X11, hQ11, st11⟩ := own_cV X0 hx hZ (y := Y26) hown (own_w hw 53 rfl) (own_w hw 54 rfl) (own_w hw 56 rfl) (own_w hw 55 rfl) (own_w hw 57 rfl) (own_w hw 13 rfl) (by decide) (W := 0) (rm12v1 l Z a0 hw [] r0 va cs h0 n0 (Nat.le_trans Z0 (Keep.refl h0 []).1) F_v Fc E_r0 (O0.keep (Keep.refl h0 []) all0) S_cs hcs) (by decide) (by decide) E_r0 (g := (mkF m 1 #[rv r0, iv (58 : Int32), iv (0 : Int32)] [(.ref r0)])) rfl hml.symm (argsL := []) (rest := []) (lenOf pd23 rfl) rfl (Nat.le_of_eq rfl) (hb hby d11_1) rfl e0 (by decide) (by decide)
    obtain ⟨rfl, N11q, hh11⟩ := hQ11
    have N11 := Fr.app N0 N11q
    have pre12 : ∀ t, Sx p e below T11 (mkF m 24 #[rv r0, iv (58 : Int32), iv (0 : Int32)] [(.ref r0)]) t → Sx p e below s₁ g₀ t := by
      intro t kt
      refine pre10 _ ?_
      refine st11.trans ?_
      show Sx p e below T11 (mkF m 4 #[rv r0, iv (58 : Int32), iv (0 : Int32)] [(.int (0 : Int32))]) _
      refine XS.ifYes X11.here hx rfl (pc0 := 4) (pc' := 23) rfl (hb hby d11_4) rfl ((if0 _ _).trans (teq (by decide)).1) (by decide) (by decide) ?_
      refine XS.aloadN X11.here hx rfl (hb hby d11_23) rfl rfl ?_
      exact kt
    obtain ⟨T13, X13, e13, st13⟩ := getF X11 hx hZ hown (host := "") (Or.inl (own_w hw 37 rfl)) Via.refl hh11 F_v (g := (mkF m 24 #[rv r0, iv (58 : Int32), iv (0 : Int32)] [(.ref r0)])) rfl rfl (hb hby d11_24)
    have pre14 : ∀ t, Sx p e below T13 (mkF m 30 #[rv r0, iv (58 : Int32), iv (0 : Int32)] [(.ref r0), (.int (0 : Int32)), (.int (58 : Int32)), (.ref va)]) t → Sx p e below s₁ g₀ t := by
      intro t kt
      refine pre12 _ ?_
      refine st13 _ ?_
      show Sx p e below T13 (mkF m 27 #[rv r0, iv (58 : Int32), iv (0 : Int32)] [(.ref va)]) _
      refine XS.iloadN X13.here hx rfl (hb hby d11_27) rfl ?_
      refine XS.iloadN X13.here hx rfl (hb hby d11_28) rfl ?_
      refine XS.aloadN X13.here hx rfl (hb hby d11_29) rfl rfl ?_
      exact kt
    obtain ⟨_, T15, Lc15, X15, hQ15, st15⟩ := own_cV X13 hx hZ (y := Y27) hown (own_w hw 58 rfl) (own_w hw 59 rfl) (own_w hw 61 rfl) (own_w hw 60 rfl) (own_w hw 62 rfl) (own_w hw 13 rfl) (by decide) (W := 3) (rm13 l Z a0 hw [] r0 va kc (own_len (own_U ts_)) (own_M (own_U ts_)) (1 : Int32) (own_len ts_) cs h0 n0 (Nat.le_trans Z0 (Keep.refl h0 []).1) F_v Fc E_r0 V_ (by decide) (own_Uh (by omega)) (O0.keep (Keep.refl h0 []) all0) S_cs hcs) (by decide) (by decide) E_r0 (g := (mkF m 30 #[rv r0, iv (58 : Int32), iv (0 : Int32)] [(.ref r0), (.int (0 : Int32)), (.int (58 : Int32)), (.ref va)])) rfl hml.symm (argsL := []) (rest := [(.int (0 : Int32)), (.int (58 : Int32)), (.ref va)]) (lenOf pd27 rfl) rfl (Nat.le_of_eq rfl) (hb hby d11_30) rfl e13 (by decide) (by decide)
    obtain ⟨rfl, N15q, hh15⟩ := hQ15
    have N15 := Fr.app N11 N15q
    have pre16 : ∀ t, Sx p e below T15 (mkF m 33 #[rv r0, iv (58 : Int32), iv (0 : Int32)] [(.int (own_len ts_)), (.int (0 : Int32)), (.int (58 : Int32)), (.ref va)]) t → Sx p e below s₁ g₀ t := by
      intro t kt
      refine pre14 _ ?_
      refine st15.trans ?_
      exact kt
    obtain ⟨_, T17, Lc17, X17, hQ17, st17⟩ := own_cS X15 hx hZ (y := Y34) hown (own_w hw 220 rfl) (own_w hw 221 rfl) (own_w hw 27 rfl) (own_w hw 222 rfl) (by decide) (W := 0) (rm48 l Z a0 hw [] va kc ts_ jj fm h0 n0 (Nat.le_trans Z0 (Keep.refl h0 []).1) V_ hjj hbf hj5 ht5 hts_ (O0.keep (Keep.refl h0 []) all0) S_fm hr_fm S_ad S_hi S_lo) (by decide) (by decide) (g := (mkF m 33 #[rv r0, iv (58 : Int32), iv (0 : Int32)] [(.int (own_len ts_)), (.int (0 : Int32)), (.int (58 : Int32)), (.ref va)])) rfl hml.symm (argsL := [(.ref va), (.int (58 : Int32)), (.int (0 : Int32)), (.int (own_len ts_))]) (rest := []) (lenOf pd24 rfl) rfl (Nat.le_of_eq rfl) (hb hby d11_33) rfl hh15 (by decide) (by decide)
    obtain ⟨rfl, N17q, hh17⟩ := hQ17
    have N17 := Fr.app N15 N17q
    have pre18 : ∀ t, Sx p e below T17 (mkF m 36 #[rv r0, iv (58 : Int32), iv (0 : Int32)] [(.int (own_n jj))]) t → Sx p e below s₁ g₀ t := by
      intro t kt
      refine pre16 _ ?_
      refine st17 _ ?_
      exact kt
    obtain ⟨fs, hr, hrun, hended, hW, hsame⟩ := X17.leave (v := some (.int (own_n jj))) (fun h => by rw [Bd.returns] at h; cases h)
    refine ⟨_, _, _, pre18 _ ?_, hrun, hended, ?_, ⟨_, rfl⟩, hW, hsame.mono (by decide) (by decide)⟩
    · show Steps p.tables e below (T17.setTop (mkF m 36 #[rv r0, iv (58 : Int32), iv (0 : Int32)] [(.int (own_n jj))])) _
      exact retI X17 hx Bd.returns (hb hby d11_36) hr
    · show Q11s Z r0 va kc ts_ jj cs fm h0 n0 _ T17.heap _
      rw [hh17]
      exact ⟨rfl, N17, rfl⟩
abbrev D10 (q : Nat) (i : Instr) (k : Nat) : Prop := decode jdk_42_method_79_code q = .ok (i, k)
theorem d10_0 : D10 0 (.aload_n 0) 1 := by decide +kernel
theorem d10_1 : D10 1 (.iload_n 1) 1 := by decide +kernel
theorem d10_2 : D10 2 (.iconst 0) 1 := by decide +kernel
theorem d10_3 : D10 3 (.invokevirtual 633) 3 := by decide +kernel
theorem d10_6 : D10 6 (.ireturn) 1 := by decide +kernel
theorem ef_10s (m : MethodId) (x0 : Addr) (x1 : Int32) : entryFrame m #[(.ref x0), (.int x1)] 2 = mkF m 0 #[.val (.ref x0), .val (.int x1)] [] := by first | (simp [entryFrame, mkF, argsToLocals, Value.category]; done) | rfl
def Q10s (Z : State) (r0 : Addr) (va : Addr) (kc : ClassId) (ts_ : List Int32) (jj : Nat) (cs : Int32) (fm : Value) (h0 : Heap) (n0 : Nat) (v : Option Value) (h : Heap) (L : List Loc) : Prop := v = some (.int (own_n jj)) ∧ Fr n0 L ∧ h = h0
abbrev R10s : Room := { frames := 6, cells := 0, slots := 0, locals := 120 }
theorem rm10s (l : Launch) (Z : State) (a0 : Array Value) (hw : ∀ d ∈ tables_1, d.before a0 Z = true) (ws : List Jvm.Cond) (r0 : Addr) (va : Addr) (kc : ClassId) (ts_ : List Int32) (jj : Nat) (cs : Int32) (fm : Value) (h0 : Heap) (n0 : Nat) (Z0 : n0 ≤ h0.size) (F_v : Fld Z h0 r0 "java/lang/String" "value" "[B" (.ref va)) (E_r0 : Exa Z h0 r0 "java/lang/String") (hD : own_sf Z h0 r0 va kc ts_) (hjj : ts_[jj]? = some (58 : Int32)) (hbf : ∀ i x, i < jj → ts_[i]? = some x → ¬ (x = (58 : Int32))) (hj5 : jj < ts_.length) (hts_ : ∀ x ∈ ts_, own_ch x) (ht5 : ts_.length ≤ 5) (O0 : Old Z n0 h0) (S_cs : Sta Z Z.heap "java/lang/String" "COMPACT_STRINGS" "Z" (.int cs)) (hcs : ¬ (cs = (0 : Int32))) (S_fm : Sta Z Z.heap "jdk/internal/util/Preconditions" "SIOOBE_FORMATTER" "Ljava/util/function/BiFunction;" fm) (hr_fm : fm.isRef = true) (S_ad : Sta Z Z.heap "java/lang/StringUTF16" "$assertionsDisabled" "Z" (.int (1 : Int32))) (S_hi : Sta Z Z.heap "java/lang/StringUTF16" "HI_BYTE_SHIFT" "I" (.int (0 : Int32))) (S_lo : Sta Z Z.heap "java/lang/StringUTF16" "LO_BYTE_SHIFT" "I" (.int (8 : Int32))) :
    MetFree l Y37 (head1 (Jvm.Cond.code Y37 jdk_42_method_79_code 2 (some .int) :: ws) R10s) (fun a U => a = #[(.ref r0), (.int (58 : Int32))] ∧ Z.Warmed39 U.vm ∧ U.heap = h0) (fun _ _ _ _ _ => True) (fun _ U o U' => ∃ v L, o = .returned v ∧ Q10s Z r0 va kc ts_ jj cs fm h0 n0 v U'.heap L ∧ FrameEnd U o U' L R10s.cells R10s.slots) := by
  refine own_start (C := "java/lang/String") (Q := Q10s Z r0 va kc ts_ jj cs fm h0 n0) rfl (plainFor_of_name pn4) ?_
  intro p e s m below meth c s₁ g₀ hg₀ Bd hx hby hml hZ hown hnm X0 e0
  have N0 := Fr.nil n0
  have pre0 : ∀ t, Sx p e below s₁ (mkF m 0 #[rv r0, iv (58 : Int32)] []) t → Sx p e below s₁ g₀ t := fun t k => by subst hg₀; exact castTop (ef_10s m r0 (58 : Int32)) k
  have pre1 : ∀ t, Sx p e below s₁ (mkF m 3 #[rv r0, iv (58 : Int32)] [(.int (0 : Int32)), (.int (58 : Int32)), (.ref r0)]) t → Sx p e below s₁ g₀ t := by
    intro t kt
    refine pre0 _ ?_
    refine XS.aloadN X0.here hx rfl (hb hby d10_0) rfl rfl ?_
    refine XS.iloadN X0.here hx rfl (hb hby d10_1) rfl ?_
    refine XS.iconst X0.here hx rfl (hb hby d10_2) ?_
    exact kt
  obtain ⟨_, T2, Lc2, X2, hQ2, st2⟩ := own_cV X0 hx hZ (y := Y36) hown (own_w hw 48 rfl) (own_w hw 49 rfl) (own_w hw 51 rfl) (own_w hw 50 rfl) (own_w hw 52 rfl) (own_w hw 13 rfl) (by decide) (W := 0) (rm11s l Z a0 hw [] r0 va kc ts_ jj cs fm h0 n0 (Nat.le_trans Z0 (Keep.refl h0 []).1) F_v E_r0 hD hjj hbf hj5 hts_ ht5 (O0.keep (Keep.refl h0 []) all0) S_cs hcs S_fm hr_fm S_ad S_hi S_lo) (by decide) (by decide) E_r0 (g := (mkF m 3 #[rv r0, iv (58 : Int32)] [(.int (0 : Int32)), (.int (58 : Int32)), (.ref r0)])) rfl hml.symm (argsL := [(.int (58 : Int32)), (.int (0 : Int32))]) (rest := []) (lenOf pd25 rfl) rfl (Nat.le_of_eq rfl) (hb hby d10_3) rfl e0 (by decide) (by decide)
  obtain ⟨rfl, N2q, hh2⟩ := hQ2
  have N2 := Fr.app N0 N2q
  have pre3 : ∀ t, Sx p e below T2 (mkF m 6 #[rv r0, iv (58 : Int32)] [(.int (own_n jj))]) t → Sx p e below s₁ g₀ t := by
    intro t kt
    refine pre1 _ ?_
    refine st2.trans ?_
    exact kt
  obtain ⟨fs, hr, hrun, hended, hW, hsame⟩ := X2.leave (v := some (.int (own_n jj))) (fun h => by rw [Bd.returns] at h; cases h)
  refine ⟨_, _, _, pre3 _ ?_, hrun, hended, ?_, ⟨_, rfl⟩, hW, hsame.mono (by decide) (by decide)⟩
  · show Steps p.tables e below (T2.setTop (mkF m 6 #[rv r0, iv (58 : Int32)] [(.int (own_n jj))])) _
    exact retI X2 hx Bd.returns (hb hby d10_6) hr
  · show Q10s Z r0 va kc ts_ jj cs fm h0 n0 _ T2.heap _
    rw [hh2]
    exact ⟨rfl, N2, rfl⟩
theorem pn28 : plainName "java/util/Arrays" = true := by first | (simp [plainName, overriddenIn]; done) | decide +kernel
abbrev D27 (q : Nat) (i : Instr) (k : Nat) : Prop := decode jdk_65_method_131_code q = .ok (i, k)
theorem d27_0 : D27 0 (.iload_n 1) 1 := by decide +kernel
theorem d27_1 : D27 1 (.iload_n 0) 1 := by decide +kernel
theorem d27_2 : D27 2 (.if_icmp .ge 35) 3 := by decide +kernel
theorem d27_37 : D27 37 (.return_) 1 := by decide +kernel
theorem ef_27 (m : MethodId) (x0 : Int32) (x1 : Int32) : entryFrame m #[(.int x0), (.int x1)] 2 = mkF m 0 #[.val (.int x0), .val (.int x1)] [] := by first | (simp [entryFrame, mkF, argsToLocals, Value.category]; done) | rfl
def Q27 (Z : State) (p0 : Int32) (p1 : Int32) (h0 : Heap) (n0 : Nat) (v : Option Value) (h : Heap) (L : List Loc) : Prop := v = none ∧ Fr n0 L ∧ h = h0
abbrev R27 : Room := { frames := 0, cells := 0, slots := 0, locals := 0 }
theorem rm27 (l : Launch) (Z : State) (a0 : Array Value) (hw : ∀ d ∈ tables_1, d.before a0 Z = true) (ws : List Jvm.Cond) (p0 : Int32) (p1 : Int32) (h0 : Heap) (n0 : Nat) (Z0 : n0 ≤ h0.size) (hlt : ¬ (p1 < p0)) :
    MetFree l Y38 (head1 (Jvm.Cond.code Y38 jdk_65_method_131_code 2 none :: ws) R27) (fun a U => a = #[(.int p0), (.int p1)] ∧ Z.Warmed39 U.vm ∧ U.heap = h0) (fun _ _ _ _ _ => True) (fun _ U o U' => ∃ v L, o = .returned v ∧ Q27 Z p0 p1 h0 n0 v U'.heap L ∧ FrameEnd U o U' L R27.cells R27.slots) := by
  refine own_start (C := "java/util/Arrays") (Q := Q27 Z p0 p1 h0 n0) rfl (plainFor_of_name pn28) ?_
  intro p e s m below meth c s₁ g₀ hg₀ Bd hx hby hml hZ hown hnm X0 e0
  have N0 := Fr.nil n0
  have pre0 : ∀ t, Sx p e below s₁ (mkF m 0 #[iv p0, iv p1] []) t → Sx p e below s₁ g₀ t := fun t k => by subst hg₀; exact castTop (ef_27 m p0 p1) k
  have pre2 : ∀ t, Sx p e below s₁ (mkF m 2 #[iv p0, iv p1] [(.int p0), (.int p1)]) t → Sx p e below s₁ g₀ t := by
    intro t kt
    refine pre0 _ ?_
    refine XS.iloadN X0.here hx rfl (hb hby d27_0) rfl ?_
    refine XS.iloadN X0.here hx rfl (hb hby d27_1) rfl ?_
    exact kt
  have hc2_1 : ¬ (p1 < p0) := hlt
  have pre3 : ∀ t, Sx p e below s₁ (mkF m 37 #[iv p0, iv p1] []) t → Sx p e below s₁ g₀ t := by
    intro t kt
    refine pre2 _ ?_
    refine XS.icmpYes X0.here hx rfl (pc0 := 2) (pc' := 37) rfl (hb hby d27_2) rfl (flt hc2_1).2.1 (by decide) (by decide) ?_
    exact kt
  obtain ⟨fs, hr, hrun, hended, hW, hsame⟩ := X0.leave (v := none) (fun _ => rfl)
  refine ⟨_, _, _, pre3 _ ?_, hrun, hended, ?_, ⟨_, rfl⟩, hW, hsame.mono (by decide) (by decide)⟩
  · show Steps p.tables e below (s₁.setTop (mkF m 37 #[iv p0, iv p1] [])) _
    exact X0.returnOut hx Bd.returns (hb hby d27_37) hr
  · show Q27 Z p0 p1 h0 n0 _ s₁.heap _
    rw [e0]
    exact ⟨rfl, N0, rfl⟩
abbrev D26 (q : Nat) (i : Instr) (k : Nat) : Prop := decode jdk_65_method_133_code q = .ok (i, k)
theorem d26_0 : D26 0 (.iload_n 1) 1 := by decide +kernel
theorem d26_1 : D26 1 (.iload_n 2) 1 := by decide +kernel
theorem d26_2 : D26 2 (.invokestatic 343) 3 := by decide +kernel
theorem d26_5 : D26 5 (.iload_n 2) 1 := by decide +kernel
theorem d26_6 : D26 6 (.iload_n 1) 1 := by decide +kernel
theorem d26_7 : D26 7 (.isub) 1 := by decide +kernel
theorem d26_8 : D26 8 (.istore_n 3) 1 := by decide +kernel
theorem d26_9 : D26 9 (.iload_n 3) 1 := by decide +kernel
theorem d26_10 : D26 10 (.newarray .byte) 2 := by decide +kernel
theorem d26_12 : D26 12 (.astore 4) 2 := by decide +kernel
theorem d26_14 : D26 14 (.aload_n 0) 1 := by decide +kernel
theorem d26_15 : D26 15 (.iload_n 1) 1 := by decide +kernel
theorem d26_16 : D26 16 (.aload 4) 2 := by decide +kernel
theorem d26_18 : D26 18 (.iconst 0) 1 := by decide +kernel
theorem d26_19 : D26 19 (.aload_n 0) 1 := by decide +kernel
theorem d26_20 : D26 20 (.arraylength) 1 := by decide +kernel
theorem d26_21 : D26 21 (.iload_n 1) 1 := by decide +kernel
theorem d26_22 : D26 22 (.isub) 1 := by decide +kernel
theorem d26_23 : D26 23 (.iload_n 3) 1 := by decide +kernel
theorem d26_24 : D26 24 (.invokestatic 304) 3 := by decide +kernel
theorem d26_27 : D26 27 (.invokestatic 150) 3 := by decide +kernel
theorem d26_30 : D26 30 (.aload 4) 2 := by decide +kernel
theorem d26_32 : D26 32 (.areturn) 1 := by decide +kernel
theorem ef_26 (m : MethodId) (x0 : Addr) (x1 : Int32) (x2 : Int32) : entryFrame m #[(.ref x0), (.int x1), (.int x2)] 5 = mkF m 0 #[.val (.ref x0), .val (.int x1), .val (.int x2), .unset, .unset] [] := by first | (simp [entryFrame, mkF, argsToLocals, Value.category]; done) | rfl
def Q26 (Z : State) (r0 : Addr) (p1 : Int32) (p2 : Int32) (kc : ClassId) (z : Int32) (vs : List Value) (ln : Int32) (ai : Nat) (nn : Nat) (h0 : Heap) (n0 : Nat) (v : Option Value) (h : Heap) (L : List Loc) : Prop := ∃ y k, v = some (.ref y) ∧ Fr n0 L ∧ Keep h0 h [] ∧ h0.size ≤ y ∧ Arv Z h y k .byte ln (own_us vs ai nn) (.int (0 : Int32)) ∧ Exa Z h y "[B"
abbrev R26 : Room := { frames := 1, cells := 1, slots := 10, locals := 18 }
theorem rm26 (l : Launch) (Z : State) (a0 : Array Value) (hw : ∀ d ∈ tables_1, d.before a0 Z = true) (ws : List Jvm.Cond) (r0 : Addr) (p1 : Int32) (p2 : Int32) (kc : ClassId) (z : Int32) (vs : List Value) (ln : Int32) (ai : Nat) (nn : Nat) (h0 : Heap) (n0 : Nat) (Z0 : n0 ≤ h0.size) (V_r0 : Arv Z h0 r0 kc .byte z vs (.int (0 : Int32))) (hcr : own_cr z p1 p2 ln ai nn) :
    MetFree l Y39 (head1 (Jvm.Cond.code Y39 jdk_65_method_133_code 5 (some (.array .byte)) :: ws) R26) (fun a U => a = #[(.ref r0), (.int p1), (.int p2)] ∧ Z.Warmed39 U.vm ∧ U.heap = h0) (fun _ _ _ _ _ => True) (fun _ U o U' => ∃ v L, o = .returned v ∧ Q26 Z r0 p1 p2 kc z vs ln ai nn h0 n0 v U'.heap L ∧ FrameEnd U o U' L R26.cells R26.slots) := by
  refine own_start (C := "java/util/Arrays") (Q := Q26 Z r0 p1 p2 kc z vs ln ai nn h0 n0) rfl (plainFor_of_name pn28) ?_
  intro p e s m below meth c s₁ g₀ hg₀ Bd hx hby hml hZ hown hnm X0 e0
  have N0 := Fr.nil n0
  have pre0 : ∀ t, Sx p e below s₁ (mkF m 0 #[rv r0, iv p1, iv p2, .unset, .unset] []) t → Sx p e below s₁ g₀ t := fun t k => by subst hg₀; exact castTop (ef_26 m r0 p1 p2) k
  have pre1 : ∀ t, Sx p e below s₁ (mkF m 2 #[rv r0, iv p1, iv p2, .unset, .unset] [(.int p2), (.int p1)]) t → Sx p e below s₁ g₀ t := by
    intro t kt
    refine pre0 _ ?_
    refine XS.iloadN X0.here hx rfl (hb hby d26_0) rfl ?_
    refine XS.iloadN X0.here hx rfl (hb hby d26_1) rfl ?_
    exact kt
  obtain ⟨_, T2, Lc2, X2, hQ2, st2⟩ := own_cS X0 hx hZ (y := Y38) hown (own_w hw 115 rfl) (own_w hw 116 rfl) (own_w hw 110 rfl) (own_w hw 117 rfl) (by decide) (W := 0) (rm27 l Z a0 hw [] p1 p2 h0 n0 (Nat.le_trans Z0 (Keep.refl h0 []).1) hcr.2.2.1) (by decide) (by decide) (g := (mkF m 2 #[rv r0, iv p1, iv p2, .unset, .unset] [(.int p2), (.int p1)])) rfl hml.symm (argsL := [(.int p1), (.int p2)]) (rest := []) (lenOf pd11 rfl) rfl (Nat.le_of_eq rfl) (hb hby d26_2) rfl e0 (by decide) (by decide)
  obtain ⟨rfl, N2q, hh2⟩ := hQ2
  have N2 := Fr.app N0 N2q
  have pre3 : ∀ t, Sx p e below T2 (mkF m 10 #[rv r0, iv p1, iv p2, iv ln, .unset] [(.int ln)]) t → Sx p e below s₁ g₀ t := by
    intro t kt
    refine pre1 _ ?_
    refine st2 _ ?_
    show Sx p e below T2 (mkF m 5 #[rv r0, iv p1, iv p2, .unset, .unset] []) _
    refine XS.iloadN X2.here hx rfl (hb hby d26_5) rfl ?_
    refine XS.iloadN X2.here hx rfl (hb hby d26_6) rfl ?_
    refine XS.isub X2.here hx rfl (hb hby d26_7) rfl ?_
    show Sx p e below T2 (mkF m 8 #[rv r0, iv p1, iv p2, .unset, .unset] [(.int (p2 - p1))]) _
    rw [show (p2 - p1) = ln from hcr.1]
    show Sx p e below T2 (mkF m 8 #[rv r0, iv p1, iv p2, .unset, .unset] [(.int ln)]) _
    refine XS.istoreN X2.here hx rfl (hb hby d26_8) rfl (l' := #[rv r0, iv p1, iv p2, iv ln, .unset]) rfl ?_
    refine XS.iloadN X2.here hx rfl (hb hby d26_9) rfl ?_
    exact kt
  obtain ⟨T4, h4, k4, X4, e4, E4, A4, Ex4, st4⟩ := newPE X2 hx hZ (own_w hw 7 rfl) hh2 (g := (mkF m 10 #[rv r0, iv p1, iv p2, iv ln, .unset] [(.int ln)])) rfl (hb hby d26_10) rfl hcr.2.2.2.1 (cap := 10) (Nat.le_trans (Nat.le_of_eq hcr.2.2.2.2.1) hcr.2.2.2.2.2.2.2.1) (by decide) (by decide) (by decide) (ad := "[B") rfl
  obtain ⟨b4, g4⟩ : ∃ z, z = h0.size := ⟨_, rfl⟩
  rw [← g4] at A4 Ex4 st4
  have g_b4 : n0 ≤ b4 := Nat.le_trans (Nat.le_trans Z0 (Keep.refl h0 []).1) (Nat.le_of_eq g4.symm)
  have sz_b4 : h0.size ≤ b4 := Nat.le_trans (Keep.refl h0 []).1 (Nat.le_of_eq g4.symm)
  have V_b4 : Arv Z h4 b4 k4 .byte ln [] (.int (0 : Int32)) := (Arv.new A4 hcr.2.2.2.1)
  have K4 : Keep h0 h4 [] := (Keep.refl h0 []).ext E4
  obtain ⟨cl5, Ar5, -, S5, M5, -, -⟩ := id (V_r0.ext E4)
  have pre6 : ∀ t, Sx p e below T4 (mkF m 24 #[rv r0, iv p1, iv p2, iv ln, rv b4] [(.int ln), (.int (z - p1)), (.int (0 : Int32)), (.ref b4), (.int p1), (.ref r0)]) t → Sx p e below s₁ g₀ t := by
    intro t kt
    refine pre3 _ ?_
    refine st4 _ ?_
    show Sx p e below T4 (mkF m 12 #[rv r0, iv p1, iv p2, iv ln, .unset] [(.ref b4)]) _
    refine XS.astore X4.here hx rfl (hb hby d26_12) rfl rfl (l' := #[rv r0, iv p1, iv p2, iv ln, rv b4]) rfl ?_
    refine XS.aloadN X4.here hx rfl (hb hby d26_14) rfl rfl ?_
    refine XS.iloadN X4.here hx rfl (hb hby d26_15) rfl ?_
    refine XS.aload X4.here hx rfl (hb hby d26_16) rfl rfl ?_
    refine XS.iconst X4.here hx rfl (hb hby d26_18) ?_
    refine XS.aloadN X4.here hx rfl (hb hby d26_19) rfl rfl ?_
    refine X4.arraylength hx (by rw [e4]; exact Ar5.1) (State.isArrayOf_alike hZ.alike Ar5.2.1) (g := (mkF m 20 #[rv r0, iv p1, iv p2, iv ln, rv b4] [(.ref r0), (.int (0 : Int32)), (.ref b4), (.int p1), (.ref r0)])) rfl rfl (hb hby d26_20) _ ?_
    rw [len_of S5 M5]
    show Sx p e below T4 (mkF m 21 #[rv r0, iv p1, iv p2, iv ln, rv b4] [(.int z), (.int (0 : Int32)), (.ref b4), (.int p1), (.ref r0)]) _
    refine XS.iloadN X4.here hx rfl (hb hby d26_21) rfl ?_
    refine XS.isub X4.here hx rfl (hb hby d26_22) rfl ?_
    refine XS.iloadN X4.here hx rfl (hb hby d26_23) rfl ?_
    exact kt
  obtain ⟨_, T7, Lc7, X7, hQ7, st7⟩ := own_cS X4 hx hZ (y := Y0) hown (own_w hw 118 rfl) (own_w hw 80 rfl) (own_w hw 77 rfl) (own_w hw 81 rfl) (by decide) (W := 4) (rm18 l Z a0 hw [] (z - p1) ln ln h4 n0 (Nat.le_trans Z0 K4.1) hcr.2.2.2.2.2.2.2.2.1) (by decide) (by decide) (g := (mkF m 24 #[rv r0, iv p1, iv p2, iv ln, rv b4] [(.int ln), (.int (z - p1)), (.int (0 : Int32)), (.ref b4), (.int p1), (.ref r0)])) rfl hml.symm (argsL := [(.int (z - p1)), (.int ln)]) (rest := [(.int (0 : Int32)), (.ref b4), (.int p1), (.ref r0)]) (lenOf pd25 rfl) rfl (Nat.le_of_eq rfl) (hb hby d26_24) rfl e4 (by decide) (by decide)
  obtain ⟨rfl, N7q, hh7⟩ := hQ7
  have N7 := Fr.app N2 N7q
  have pre8 : ∀ t, Sx p e below T7 (mkF m 27 #[rv r0, iv p1, iv p2, iv ln, rv b4] [(.int ln), (.int (0 : Int32)), (.ref b4), (.int p1), (.ref r0)]) t → Sx p e below s₁ g₀ t := by
    intro t kt
    refine pre6 _ ?_
    refine st7 _ ?_
    exact kt
  obtain ⟨T9, h9, L9, X9, e9, N9, Kc9, Vc9, st9⟩ := cpA X7 hx hZ hown (own_w hw 119 rfl) (own_w hw 122 rfl) (own_w hw 120 rfl) (own_w hw 121 rfl) hh7 (V_r0.ext E4) (V_b4.pad (pad_rep [] (.int (0 : Int32)) nn)) (Or.inl ⟨rfl, rfl⟩) hcr.2.1 (by decide) hcr.2.2.2.1 (own_h4 hcr.2.2.2.2.1 hcr.2.2.2.2.2.1 hcr.2.2.2.2.2.2.1) (own_h5 ln) rfl (own_hl hcr.2.2.2.2.1) N7 g_b4 (g := (mkF m 27 #[rv r0, iv p1, iv p2, iv ln, rv b4] [(.int ln), (.int (0 : Int32)), (.ref b4), (.int p1), (.ref r0)])) rfl (by rw [hml]; rfl) rfl (hb hby d26_27) (by decide) (W := 0) (by show 2 * 0 + _ ≤ _; exact Nat.le_of_eq rfl) (by decide)
  have K9 : Keep h0 h9 [] := K4.trans Kc9 (allS (Or.inr sz_b4) all0)
  have V9 : Arv Z h9 b4 k4 .byte ln (own_us vs ai nn) (.int (0 : Int32)) := (own_cpeq vs ai nn p1 ln hcr.2.2.2.2.1 hcr.2.2.2.2.2.1) ▸ Vc9
  have pre10 : ∀ t, Sx p e below T9 (mkF m 32 #[rv r0, iv p1, iv p2, iv ln, rv b4] [(.ref b4)]) t → Sx p e below s₁ g₀ t := by
    intro t kt
    refine pre8 _ ?_
    refine st9 _ ?_
    show Sx p e below T9 (mkF m 30 #[rv r0, iv p1, iv p2, iv ln, rv b4] []) _
    refine XS.aload X9.here hx rfl (hb hby d26_30) rfl rfl ?_
    exact kt
  obtain ⟨fs, hr, hrun, hended, hW, hsame⟩ := X9.leave (v := some (.ref b4)) (fun h => by rw [Bd.returns] at h; cases h)
  refine ⟨_, _, _, pre10 _ ?_, hrun, hended, ?_, ⟨_, rfl⟩, hW, hsame.mono (by decide) (by decide)⟩
  · show Steps p.tables e below (T9.setTop (mkF m 32 #[rv r0, iv p1, iv p2, iv ln, rv b4] [(.ref b4)])) _
    jvm_step X9.here [X9.here.top, hx, (hb hby d26_32), X9.method', Bd.returns, Value.isRef, FieldType.isReference]
    first | (intro acts; rw [hr _ acts rfl rfl rfl]) | rw [hr _ _ rfl rfl rfl]
    exact Steps.refl _
  · show Q26 Z r0 p1 p2 kc z vs ln ai nn h0 n0 _ T9.heap _
    rw [e9]
    exact ⟨b4, k4, rfl, N9, K9, sz_b4, V9, (Ex4.keep Kc9)⟩
abbrev D25 (q : Nat) (i : Instr) (k : Nat) : Prop := decode jdk_65_method_132_code q = .ok (i, k)
theorem d25_0 : D25 0 (.iload_n 1) 1 := by decide +kernel
theorem d25_1 : D25 1 (.ifCond .ne 9) 3 := by decide +kernel
theorem d25_4 : D25 4 (.iload_n 2) 1 := by decide +kernel
theorem d25_5 : D25 5 (.aload_n 0) 1 := by decide +kernel
theorem d25_6 : D25 6 (.arraylength) 1 := by decide +kernel
theorem d25_7 : D25 7 (.if_icmp .eq 10) 3 := by decide +kernel
theorem d25_10 : D25 10 (.aload_n 0) 1 := by decide +kernel
theorem d25_11 : D25 11 (.iload_n 1) 1 := by decide +kernel
theorem d25_12 : D25 12 (.iload_n 2) 1 := by decide +kernel
theorem pd29 : parseMethodDescriptor "([BII)[B" = some ⟨[(.array .byte), .int, .int], some (.array .byte)⟩ := by decide +kernel
theorem d25_13 : D25 13 (.invokestatic 339) 3 := by decide +kernel
theorem d25_16 : D25 16 (.areturn) 1 := by decide +kernel
theorem ef_25 (m : MethodId) (x0 : Addr) (x1 : Int32) (x2 : Int32) : entryFrame m #[(.ref x0), (.int x1), (.int x2)] 3 = mkF m 0 #[.val (.ref x0), .val (.int x1), .val (.int x2)] [] := by first | (simp [entryFrame, mkF, argsToLocals, Value.category]; done) | rfl
def Q25 (Z : State) (r0 : Addr) (p1 : Int32) (p2 : Int32) (kc : ClassId) (z : Int32) (vs : List Value) (ln : Int32) (ai : Nat) (nn : Nat) (h0 : Heap) (n0 : Nat) (v : Option Value) (h : Heap) (L : List Loc) : Prop := ∃ y k, v = some (.ref y) ∧ Fr n0 L ∧ Keep h0 h [] ∧ h0.size ≤ y ∧ Arv Z h y k .byte ln (own_us vs ai nn) (.int (0 : Int32)) ∧ Exa Z h y "[B"
abbrev R25 : Room := { frames := 2, cells := 1, slots := 10, locals := 34 }
theorem rm25 (l : Launch) (Z : State) (a0 : Array Value) (hw : ∀ d ∈ tables_1, d.before a0 Z = true) (ws : List Jvm.Cond) (r0 : Addr) (p1 : Int32) (p2 : Int32) (kc : ClassId) (z : Int32) (vs : List Value) (ln : Int32) (ai : Nat) (nn : Nat) (h0 : Heap) (n0 : Nat) (Z0 : n0 ≤ h0.size) (V_r0 : Arv Z h0 r0 kc .byte z vs (.int (0 : Int32))) (hcr : own_cr z p1 p2 ln ai nn) :
    MetFree l Y40 (head1 (Jvm.Cond.code Y40 jdk_65_method_132_code 3 (some (.array .byte)) :: ws) R25) (fun a U => a = #[(.ref r0), (.int p1), (.int p2)] ∧ Z.Warmed39 U.vm ∧ U.heap = h0) (fun _ _ _ _ _ => True) (fun _ U o U' => ∃ v L, o = .returned v ∧ Q25 Z r0 p1 p2 kc z vs ln ai nn h0 n0 v U'.heap L ∧ FrameEnd U o U' L R25.cells R25.slots) := by
  refine own_start (C := "java/util/Arrays") (Q := Q25 Z r0 p1 p2 kc z vs ln ai nn h0 n0) rfl (plainFor_of_name pn28) ?_
  intro p e s m below meth c s₁ g₀ hg₀ Bd hx hby hml hZ hown hnm X0 e0
  have N0 := Fr.nil n0
  have pre0 : ∀ t, Sx p e below s₁ (mkF m 0 #[rv r0, iv p1, iv p2] []) t → Sx p e below s₁ g₀ t := fun t k => by subst hg₀; exact castTop (ef_25 m r0 p1 p2) k
  have pre1 : ∀ t, Sx p e below s₁ (mkF m 1 #[rv r0, iv p1, iv p2] [(.int p1)]) t → Sx p e below s₁ g₀ t := by
    intro t kt
    refine pre0 _ ?_
    refine XS.iloadN X0.here hx rfl (hb hby d25_0) rfl ?_
    exact kt
  obtain ⟨hj7, pre7⟩ : (((p1 = (0 : Int32)) ∧ (¬ (p2 = z))) ∨ ((¬ (p1 = (0 : Int32))))) ∧ ∀ t, Sx p e below s₁ (mkF m 10 #[rv r0, iv p1, iv p2] []) t → Steps p.tables e below (s₁.setTop g₀) t := by
    by_cases hc1 : p1 = (0 : Int32)
    · obtain ⟨cl2, Ar2, -, S2, M2, -, -⟩ := id V_r0
      have pre4 : ∀ t, Sx p e below s₁ (mkF m 7 #[rv r0, iv p1, iv p2] [(.int z), (.int p2)]) t → Sx p e below s₁ g₀ t := by
        intro t kt
        refine pre1 _ ?_
        refine XS.ifNo X0.here hx rfl (hb hby d25_1) rfl ((if0 _ _).trans (teq hc1).2) ?_
        refine XS.iloadN X0.here hx rfl (hb hby d25_4) rfl ?_
        refine XS.aloadN X0.here hx rfl (hb hby d25_5) rfl rfl ?_
        refine X0.arraylength hx (by rw [e0]; exact Ar2.1) (State.isArrayOf_alike hZ.alike Ar2.2.1) (g := (mkF m 6 #[rv r0, iv p1, iv p2] [(.ref r0), (.int p2)])) rfl rfl (hb hby d25_6) _ ?_
        rw [len_of S2 M2]
        exact kt
      have hc7_3 : ¬ (p2 = z) := (hcr.2.2.2.2.2.2.2.2.2 hc1)
      have pre5 : ∀ t, Sx p e below s₁ (mkF m 10 #[rv r0, iv p1, iv p2] []) t → Sx p e below s₁ g₀ t := by
        intro t kt
        refine pre4 _ ?_
        refine XS.icmpNo X0.here hx rfl (hb hby d25_7) rfl (feq hc7_3).1 ?_
        exact kt
      exact ⟨Or.inl ⟨hc1, hc7_3⟩, pre5⟩
    · have pre6 : ∀ t, Sx p e below s₁ (mkF m 10 #[rv r0, iv p1, iv p2] []) t → Sx p e below s₁ g₀ t := by
        intro t kt
        refine pre1 _ ?_
        refine XS.ifYes X0.here hx rfl (pc0 := 1) (pc' := 10) rfl (hb hby d25_1) rfl ((if0 _ _).trans (feq hc1).2) (by decide) (by decide) ?_
        exact kt
      exact ⟨Or.inr (hc1), pre6⟩
  have pre8 : ∀ t, Sx p e below s₁ (mkF m 13 #[rv r0, iv p1, iv p2] [(.int p2), (.int p1), (.ref r0)]) t → Sx p e below s₁ g₀ t := by
    intro t kt
    refine pre7 _ ?_
    refine XS.aloadN X0.here hx rfl (hb hby d25_10) rfl rfl ?_
    refine XS.iloadN X0.here hx rfl (hb hby d25_11) rfl ?_
    refine XS.iloadN X0.here hx rfl (hb hby d25_12) rfl ?_
    exact kt
  obtain ⟨_, T9, Lc9, X9, hQ9, st9⟩ := own_cS X0 hx hZ (y := Y39) hown (own_w hw 112 rfl) (own_w hw 113 rfl) (own_w hw 110 rfl) (own_w hw 114 rfl) (by decide) (W := 0) (rm26 l Z a0 hw [] r0 p1 p2 kc z vs ln ai nn h0 n0 (Nat.le_trans Z0 (Keep.refl h0 []).1) V_r0 hcr) (by decide) (by decide) (g := (mkF m 13 #[rv r0, iv p1, iv p2] [(.int p2), (.int p1), (.ref r0)])) rfl hml.symm (argsL := [(.ref r0), (.int p1), (.int p2)]) (rest := []) (lenOf pd29 rfl) rfl (Nat.le_of_eq rfl) (hb hby d25_13) rfl e0 (by decide) (by decide)
  obtain ⟨y9, ky9, rfl, N9q, Kc9, hy9, Vy9, Ey9⟩ := hQ9
  have N9 := Fr.app N0 N9q
  have K9 : Keep h0 T9.heap [] := (Keep.refl h0 []).trans Kc9 all0
  have g_y9 : n0 ≤ y9 := Nat.le_trans (Nat.le_trans Z0 (Keep.refl h0 []).1) hy9
  have sz_y9 : h0.size ≤ y9 := Nat.le_trans (Keep.refl h0 []).1 hy9
  have pre10 : ∀ t, Sx p e below T9 (mkF m 16 #[rv r0, iv p1, iv p2] [(.ref y9)]) t → Sx p e below s₁ g₀ t := by
    intro t kt
    refine pre8 _ ?_
    refine st9 _ ?_
    exact kt
  obtain ⟨fs, hr, hrun, hended, hW, hsame⟩ := X9.leave (v := some (.ref y9)) (fun h => by rw [Bd.returns] at h; cases h)
  refine ⟨_, _, _, pre10 _ ?_, hrun, hended, ?_, ⟨_, rfl⟩, hW, hsame.mono (by decide) (by decide)⟩
  · show Steps p.tables e below (T9.setTop (mkF m 16 #[rv r0, iv p1, iv p2] [(.ref y9)])) _
    jvm_step X9.here [X9.here.top, hx, (hb hby d25_16), X9.method', Bd.returns, Value.isRef, FieldType.isReference]
    first | (intro acts; rw [hr _ acts rfl rfl rfl]) | rw [hr _ _ rfl rfl rfl]
    exact Steps.refl _
  · show Q25 Z r0 p1 p2 kc z vs ln ai nn h0 n0 _ T9.heap _
    exact ⟨y9, ky9, rfl, N9, K9, sz_y9, Vy9, Ey9⟩
abbrev D24 (q : Nat) (i : Instr) (k : Nat) : Prop := decode jdk_43_method_47_code q = .ok (i, k)
theorem d24_0 : D24 0 (.iload_n 2) 1 := by decide +kernel
theorem d24_1 : D24 1 (.ifCond .ne 6) 3 := by decide +kernel
theorem d24_7 : D24 7 (.new 1) 3 := by decide +kernel
theorem d24_10 : D24 10 (.dup) 1 := by decide +kernel
theorem d24_11 : D24 11 (.aload_n 0) 1 := by decide +kernel
theorem d24_12 : D24 12 (.iload_n 1) 1 := by decide +kernel
theorem d24_13 : D24 13 (.iload_n 1) 1 := by decide +kernel
theorem d24_14 : D24 14 (.iload_n 2) 1 := by decide +kernel
theorem d24_15 : D24 15 (.iadd) 1 := by decide +kernel
theorem d24_16 : D24 16 (.invokestatic 232) 3 := by decide +kernel
theorem d24_19 : D24 19 (.iconst 0) 1 := by decide +kernel
theorem pd30 : parseMethodDescriptor "([BB)V" = some ⟨[(.array .byte), .byte], none⟩ := by decide +kernel
theorem d24_20 : D24 20 (.invokespecial 112) 3 := by decide +kernel
theorem d24_23 : D24 23 (.areturn) 1 := by decide +kernel
theorem ef_24 (m : MethodId) (x0 : Addr) (x1 : Int32) (x2 : Int32) : entryFrame m #[(.ref x0), (.int x1), (.int x2)] 3 = mkF m 0 #[.val (.ref x0), .val (.int x1), .val (.int x2)] [] := by first | (simp [entryFrame, mkF, argsToLocals, Value.category]; done) | rfl
def Q24 (Z : State) (r0 : Addr) (p1 : Int32) (p2 : Int32) (kc : ClassId) (z : Int32) (vs : List Value) (te : Int32) (ai : Nat) (nn : Nat) (h0 : Heap) (n0 : Nat) (v : Option Value) (h : Heap) (L : List Loc) : Prop := ∃ x y k, v = some (.ref x) ∧ Fr n0 L ∧ Keep h0 h [] ∧ h0.size ≤ x ∧ h0.size ≤ y ∧ Exa Z h x "java/lang/String" ∧ Fld Z h x "java/lang/String" "value" "[B" (.ref y) ∧ Exa Z h y "[B" ∧ Fld Z h x "java/lang/String" "coder" "B" (.int (0 : Int32)) ∧ Arv Z h y k .byte p2 (own_us vs ai nn) (.int (0 : Int32))
abbrev R24 : Room := { frames := 3, cells := 2, slots := 14, locals := 50 }
theorem rm24 (l : Launch) (Z : State) (a0 : Array Value) (hw : ∀ d ∈ tables_1, d.before a0 Z = true) (ws : List Jvm.Cond) (r0 : Addr) (p1 : Int32) (p2 : Int32) (kc : ClassId) (z : Int32) (vs : List Value) (te : Int32) (ai : Nat) (nn : Nat) (h0 : Heap) (n0 : Nat) (Z0 : n0 ≤ h0.size) (V_r0 : Arv Z h0 r0 kc .byte z vs (.int (0 : Int32))) (hk0 : ¬ (p2 = (0 : Int32))) (hte : (p1 + p2) = te) (hcr : own_cr z p1 te p2 ai nn) :
    MetFree l Y41 (head1 (Jvm.Cond.code Y41 jdk_43_method_47_code 3 (some (.object "java/lang/String")) :: ws) R24) (fun a U => a = #[(.ref r0), (.int p1), (.int p2)] ∧ Z.Warmed39 U.vm ∧ U.heap = h0) (fun _ _ _ _ _ => True) (fun _ U o U' => ∃ v L, o = .returned v ∧ Q24 Z r0 p1 p2 kc z vs te ai nn h0 n0 v U'.heap L ∧ FrameEnd U o U' L R24.cells R24.slots) := by
  refine own_start (C := "java/lang/StringLatin1") (Q := Q24 Z r0 p1 p2 kc z vs te ai nn h0 n0) rfl (plainFor_of_name pn2) ?_
  intro p e s m below meth c s₁ g₀ hg₀ Bd hx hby hml hZ hown hnm X0 e0
  have N0 := Fr.nil n0
  have pre0 : ∀ t, Sx p e below s₁ (mkF m 0 #[rv r0, iv p1, iv p2] []) t → Sx p e below s₁ g₀ t := fun t k => by subst hg₀; exact castTop (ef_24 m r0 p1 p2) k
  have pre2 : ∀ t, Sx p e below s₁ (mkF m 1 #[rv r0, iv p1, iv p2] [(.int p2)]) t → Sx p e below s₁ g₀ t := by
    intro t kt
    refine pre0 _ ?_
    refine XS.iloadN X0.here hx rfl (hb hby d24_0) rfl ?_
    exact kt
  have hc1_1 : ¬ (p2 = (0 : Int32)) := hk0
  have pre3 : ∀ t, Sx p e below s₁ (mkF m 7 #[rv r0, iv p1, iv p2] []) t → Sx p e below s₁ g₀ t := by
    intro t kt
    refine pre2 _ ?_
    refine XS.ifYes X0.here hx rfl (pc0 := 1) (pc' := 7) rfl (hb hby d24_1) rfl ((if0 _ _).trans (feq hc1_1).2) (by decide) (by decide) ?_
    exact kt
  obtain ⟨T4, h4, X4, e4, E4, A4, D4, -, st4⟩ := newO X0 hx hZ hown (own_w hw 107 rfl) (own_w hw 12 rfl) (own_w hw 13 rfl) e0 (g := (mkF m 7 #[rv r0, iv p1, iv p2] [])) rfl (hb hby d24_7) (by decide) (by decide)
  obtain ⟨b4, g4⟩ : ∃ z, z = h0.size := ⟨_, rfl⟩
  rw [← g4] at A4 D4 st4
  have g_b4 : n0 ≤ b4 := Nat.le_trans (Nat.le_trans Z0 (Keep.refl h0 []).1) (Nat.le_of_eq g4.symm)
  have sz_b4 : h0.size ≤ b4 := Nat.le_trans (Keep.refl h0 []).1 (Nat.le_of_eq g4.symm)
  have F_coder_b4 : Fld Z h4 b4 "java/lang/String" "coder" "B" (.int (0 : Int32)) := D4 (Or.inr (own_w hw 36 rfl)) (ty := .byte) (by decide)
  have F_value_b4 : Fld Z h4 b4 "java/lang/String" "value" "[B" .null := D4 (Or.inr (own_w hw 38 rfl)) (ty := (.array .byte)) (by decide)
  have K4 : Keep h0 h4 [] := (Keep.refl h0 []).ext E4
  have pre5 : ∀ t, Sx p e below T4 (mkF m 16 #[rv r0, iv p1, iv p2] [(.int te), (.int p1), (.ref r0), (.ref b4), (.ref b4)]) t → Sx p e below s₁ g₀ t := by
    intro t kt
    refine pre3 _ ?_
    refine st4 _ ?_
    show Sx p e below T4 (mkF m 10 #[rv r0, iv p1, iv p2] [(.ref b4)]) _
    refine XS.dup X4.here hx rfl (hb hby d24_10) rfl rfl ?_
    refine XS.aloadN X4.here hx rfl (hb hby d24_11) rfl rfl ?_
    refine XS.iloadN X4.here hx rfl (hb hby d24_12) rfl ?_
    refine XS.iloadN X4.here hx rfl (hb hby d24_13) rfl ?_
    refine XS.iloadN X4.here hx rfl (hb hby d24_14) rfl ?_
    refine XS.iadd X4.here hx rfl (hb hby d24_15) rfl ?_
    show Sx p e below T4 (mkF m 16 #[rv r0, iv p1, iv p2] [(.int (p1 + p2)), (.int p1), (.ref r0), (.ref b4), (.ref b4)]) _
    rw [show (p1 + p2) = te from hte]
    exact kt
  obtain ⟨_, T6, Lc6, X6, hQ6, st6⟩ := own_cS X4 hx hZ (y := Y40) hown (own_w hw 108 rfl) (own_w hw 109 rfl) (own_w hw 110 rfl) (own_w hw 111 rfl) (by decide) (W := 2) (rm25 l Z a0 hw [] r0 p1 te kc z vs p2 ai nn h4 n0 (Nat.le_trans Z0 K4.1) (V_r0.ext E4) hcr) (by decide) (by decide) (g := (mkF m 16 #[rv r0, iv p1, iv p2] [(.int te), (.int p1), (.ref r0), (.ref b4), (.ref b4)])) rfl hml.symm (argsL := [(.ref r0), (.int p1), (.int te)]) (rest := [(.ref b4), (.ref b4)]) (lenOf pd29 rfl) rfl (Nat.le_of_eq rfl) (hb hby d24_16) rfl e4 (by decide) (by decide)
  obtain ⟨y6, ky6, rfl, N6q, Kc6, hy6, Vy6, Ey6⟩ := hQ6
  have N6 := Fr.app N0 N6q
  have K6 : Keep h0 T6.heap [] := K4.trans Kc6 all0
  have g_y6 : n0 ≤ y6 := Nat.le_trans (Nat.le_trans Z0 K4.1) hy6
  have sz_y6 : h0.size ≤ y6 := Nat.le_trans K4.1 hy6
  have pre7 : ∀ t, Sx p e below T6 (mkF m 20 #[rv r0, iv p1, iv p2] [(.int (0 : Int32)), (.ref y6), (.ref b4), (.ref b4)]) t → Sx p e below s₁ g₀ t := by
    intro t kt
    refine pre5 _ ?_
    refine st6 _ ?_
    show Sx p e below T6 (mkF m 19 #[rv r0, iv p1, iv p2] [(.ref y6), (.ref b4), (.ref b4)]) _
    refine XS.iconst X6.here hx rfl (hb hby d24_19) ?_
    exact kt
  obtain ⟨_, _, ⟨T8, L8, k8, n8⟩, -, X8, ⟨Lc8, hQ8, l8, y8, z8⟩, st8⟩ := X6.specialBack hx (y := Y22) rfl hown (mvT hZ (own_w hw 123 rfl)) (mvT hZ (own_w hw 124 rfl)) (mvT hZ (own_w hw 125 rfl)) (by decide) (backOf (W := 1) (rm28v0 l Z a0 hw [] b4 y6 T6.heap n0 (Nat.le_trans Z0 K6.1) (F_value_b4.keep Kc6 nin0) (F_coder_b4.keep Kc6 nin0) (A4.keep Kc6) g_b4) hZ (own_w hw 125 rfl) (own_w hw 13 rfl) (by decide) (by decide)) (g := (mkF m 20 #[rv r0, iv p1, iv p2] [(.int (0 : Int32)), (.ref y6), (.ref b4), (.ref b4)])) rfl (by rw [hml]; rfl) (Steps.refl _) (a := b4) (argsL := [(.ref y6), (.int (0 : Int32))]) (rest := [(.ref b4)]) (lenOf pd30 rfl) rfl (by show 2 * 0 + _ ≤ _; exact Nat.le_of_eq rfl) (hb hby d24_20) (fun _ _ => ⟨rfl, rfl, (by decide : 2 + 0 ≤ _), (by decide : 14 + 0 ≤ _)⟩)
  dsimp only [Pt.U, Pt.locs, Pt.cells, Pt.slots] at X8 l8 y8 z8 st8 hQ8
  subst l8 y8 z8
  obtain ⟨rfl, N8q, Kc8, Fv8, Fc8⟩ := hQ8
  have N8 := Fr.app N6 N8q
  have K8 : Keep h0 T8.heap [] := K6.trans Kc8 (allS (Or.inr sz_b4) all0)
  have pre9 : ∀ t, Sx p e below T8 (mkF m 23 #[rv r0, iv p1, iv p2] [(.ref b4)]) t → Sx p e below s₁ g₀ t := by
    intro t kt
    refine pre7 _ ?_
    refine st8.trans ?_
    exact kt
  obtain ⟨fs, hr, hrun, hended, hW, hsame⟩ := X8.leave (v := some (.ref b4)) (fun h => by rw [Bd.returns] at h; cases h)
  refine ⟨_, _, _, pre9 _ ?_, hrun, hended, ?_, ⟨_, rfl⟩, hW, hsame.mono (by decide) (by decide)⟩
  · show Steps p.tables e below (T8.setTop (mkF m 23 #[rv r0, iv p1, iv p2] [(.ref b4)])) _
    jvm_step X8.here [X8.here.top, hx, (hb hby d24_23), X8.method', Bd.returns, Value.isRef, FieldType.isReference]
    first | (intro acts; rw [hr _ acts rfl rfl rfl]) | rw [hr _ _ rfl rfl rfl]
    exact Steps.refl _
  · show Q24 Z r0 p1 p2 kc z vs te ai nn h0 n0 _ T8.heap _
    exact ⟨b4, y6, ky6, rfl, N8, K8, sz_b4, sz_y6, ((A4.keep Kc6).keep Kc8), Fv8, (Ey6.keep Kc8), Fc8, (Vy6.keep Kc8 (ninS (Ne.symm (Nat.ne_of_lt (Nat.lt_of_lt_of_le A4.lt hy6))) nin0))⟩
abbrev D54 (q : Nat) (i : Instr) (k : Nat) : Prop := decode jdk_52_method_17_code q = .ok (i, k)
theorem d54_0 : D54 0 (.iload_n 2) 1 := by decide +kernel
theorem d54_1 : D54 1 (.newarray .byte) 2 := by decide +kernel
theorem d54_3 : D54 3 (.astore_n 3) 1 := by decide +kernel
theorem d54_4 : D54 4 (.aload_n 0) 1 := by decide +kernel
theorem d54_5 : D54 5 (.iload_n 1) 1 := by decide +kernel
theorem d54_6 : D54 6 (.aload_n 3) 1 := by decide +kernel
theorem d54_7 : D54 7 (.iconst 0) 1 := by decide +kernel
theorem d54_8 : D54 8 (.iload_n 2) 1 := by decide +kernel
theorem pd31 : parseMethodDescriptor "([BI[BII)I" = some ⟨[(.array .byte), .int, (.array .byte), .int, .int], some .int⟩ := by decide +kernel
theorem d54_9 : D54 9 (.invokestatic 123) 3 := by decide +kernel
theorem d54_12 : D54 12 (.istore 4) 2 := by decide +kernel
theorem d54_14 : D54 14 (.iload 4) 2 := by decide +kernel
theorem d54_16 : D54 16 (.iload_n 2) 1 := by decide +kernel
theorem d54_17 : D54 17 (.if_icmp .eq 47) 3 := by decide +kernel
theorem d54_64 : D54 64 (.aload_n 3) 1 := by decide +kernel
theorem d54_65 : D54 65 (.areturn) 1 := by decide +kernel
theorem d54_20 : D54 20 (.aload_n 0) 1 := by decide +kernel
theorem d54_21 : D54 21 (.iload_n 1) 1 := by decide +kernel
theorem d54_22 : D54 22 (.iconst 1) 1 := by decide +kernel
theorem d54_23 : D54 23 (.ishl) 1 := by decide +kernel
theorem d54_24 : D54 24 (.iload_n 1) 1 := by decide +kernel
theorem d54_25 : D54 25 (.iload_n 2) 1 := by decide +kernel
theorem d54_26 : D54 26 (.iadd) 1 := by decide +kernel
theorem d54_27 : D54 27 (.invokestatic 11) 3 := by decide +kernel
theorem d54_30 : D54 30 (.invokestatic 126) 3 := by decide +kernel
theorem d54_33 : D54 33 (.astore 5) 2 := by decide +kernel
theorem d54_35 : D54 35 (.aload 5) 2 := by decide +kernel
theorem d54_37 : D54 37 (.iload 4) 2 := by decide +kernel
theorem d54_39 : D54 39 (.invokestatic 71) 3 := by decide +kernel
theorem d54_42 : D54 42 (.sipush 255) 3 := by decide +kernel
theorem d54_45 : D54 45 (.if_icmp .gt 16) 3 := by decide +kernel
theorem d54_61 : D54 61 (.aload 5) 2 := by decide +kernel
theorem d54_63 : D54 63 (.areturn) 1 := by decide +kernel
theorem ef_54 (m : MethodId) (x0 : Addr) (x1 : Int32) (x2 : Int32) : entryFrame m #[(.ref x0), (.int x1), (.int x2)] 6 = mkF m 0 #[.val (.ref x0), .val (.int x1), .val (.int x2), .unset, .unset, .unset] [] := by first | (simp [entryFrame, mkF, argsToLocals, Value.category]; done) | rfl
def Q54 (Z : State) (r0 : Addr) (kc : ClassId) (cs_ : List Int32) (ts_ : List Int32) (f : Nat) (fm : Value) (h0 : Heap) (n0 : Nat) (v : Option Value) (h : Heap) (L : List Loc) : Prop := ∃ y k, v = some (.ref y) ∧ Fr n0 L ∧ Keep h0 h [] ∧ h0.size ≤ y ∧ Exa Z h y "[B" ∧ (((∀ x ∈ cs_, ¬ ((255 : Int32) < x)) ∧ Arv Z h y k .byte (own_len cs_) (own_M (own_Lb cs_)) (.int (0 : Int32))) ∨ Arv Z h y k .byte (own_len (own_U cs_)) (own_M (own_U cs_)) (.int (0 : Int32)))
abbrev R54 : Room := { frames := 5, cells := 2, slots := 15, locals := 108 }
theorem rm54 (l : Launch) (Z : State) (a0 : Array Value) (hw : ∀ d ∈ tables_1, d.before a0 Z = true) (ws : List Jvm.Cond) (r0 : Addr) (kc : ClassId) (cs_ : List Int32) (ts_ : List Int32) (f : Nat) (fm : Value) (h0 : Heap) (n0 : Nat) (Z0 : n0 ≤ h0.size) (V_r0 : Arv Z h0 r0 kc .byte (own_len (own_U ts_)) (own_M (own_U ts_)) (.int (0 : Int32))) (hl5 : cs_.length ≤ 5) (hpos : 0 < cs_.length) (hss : ∀ j x, cs_[j]? = some x → ts_[f + j]? = some x ∧ own_ch x) (hts : ts_.length ≤ 5) (hfl : f + cs_.length ≤ ts_.length) (hpr : f = 0 → cs_.length < ts_.length) (O0 : Old Z n0 h0) (S_fm : Sta Z Z.heap "jdk/internal/util/Preconditions" "SIOOBE_FORMATTER" "Ljava/util/function/BiFunction;" fm) (hr_fm : fm.isRef = true) (S_ad : Sta Z Z.heap "java/lang/StringUTF16" "$assertionsDisabled" "Z" (.int (1 : Int32))) (S_hi : Sta Z Z.heap "java/lang/StringUTF16" "HI_BYTE_SHIFT" "I" (.int (0 : Int32))) (S_lo : Sta Z Z.heap "java/lang/StringUTF16" "LO_BYTE_SHIFT" "I" (.int (8 : Int32))) :
    MetFree l Y42 (head1 (Jvm.Cond.code Y42 jdk_52_method_17_code 6 (some (.array .byte)) :: ws) R54) (fun a U => a = #[(.ref r0), (.int (own_n f)), (.int (own_len cs_))] ∧ Z.Warmed39 U.vm ∧ U.heap = h0) (fun _ _ _ _ _ => True) (fun _ U o U' => ∃ v L, o = .returned v ∧ Q54 Z r0 kc cs_ ts_ f fm h0 n0 v U'.heap L ∧ FrameEnd U o U' L R54.cells R54.slots) := by
  refine own_start (C := "java/lang/StringUTF16") (Q := Q54 Z r0 kc cs_ ts_ f fm h0 n0) rfl (plainFor_of_name pn7) ?_
  intro p e s m below meth c s₁ g₀ hg₀ Bd hx hby hml hZ hown hnm X0 e0
  have N0 := Fr.nil n0
  have pre0 : ∀ t, Sx p e below s₁ (mkF m 0 #[rv r0, iv (own_n f), iv (own_len cs_), .unset, .unset, .unset] []) t → Sx p e below s₁ g₀ t := fun t k => by subst hg₀; exact castTop (ef_54 m r0 (own_n f) (own_len cs_)) k
  have pre1 : ∀ t, Sx p e below s₁ (mkF m 1 #[rv r0, iv (own_n f), iv (own_len cs_), .unset, .unset, .unset] [(.int (own_len cs_))]) t → Sx p e below s₁ g₀ t := by
    intro t kt
    refine pre0 _ ?_
    refine XS.iloadN X0.here hx rfl (hb hby d54_0) rfl ?_
    exact kt
  obtain ⟨T2, h2, k2, X2, e2, E2, A2, Ex2, st2⟩ := newPE X0 hx hZ (own_w hw 7 rfl) e0 (g := (mkF m 1 #[rv r0, iv (own_n f), iv (own_len cs_), .unset, .unset, .unset] [(.int (own_len cs_))])) rfl (hb hby d54_1) rfl (own_lenP cs_ (by omega)) (cap := 5) (by rw [own_lenN cs_ (by omega)]; omega) (by decide) (by decide) (by decide) (ad := "[B") rfl
  obtain ⟨b2, g2⟩ : ∃ z, z = h0.size := ⟨_, rfl⟩
  rw [← g2] at A2 Ex2 st2
  have g_b2 : n0 ≤ b2 := Nat.le_trans (Nat.le_trans Z0 (Keep.refl h0 []).1) (Nat.le_of_eq g2.symm)
  have sz_b2 : h0.size ≤ b2 := Nat.le_trans (Keep.refl h0 []).1 (Nat.le_of_eq g2.symm)
  have V_b2 : Arv Z h2 b2 k2 .byte (own_len cs_) (own_M []) (.int (0 : Int32)) := (Arv.new A2 (own_lenP cs_ (by omega)))
  have K2 : Keep h0 h2 [] := (Keep.refl h0 []).ext E2
  have pre3 : ∀ t, Sx p e below T2 (mkF m 9 #[rv r0, iv (own_n f), iv (own_len cs_), rv b2, .unset, .unset] [(.int (own_len cs_)), (.int (0 : Int32)), (.ref b2), (.int (own_n f)), (.ref r0)]) t → Sx p e below s₁ g₀ t := by
    intro t kt
    refine pre1 _ ?_
    refine st2 _ ?_
    show Sx p e below T2 (mkF m 3 #[rv r0, iv (own_n f), iv (own_len cs_), .unset, .unset, .unset] [(.ref b2)]) _
    refine XS.astoreN X2.here hx rfl (hb hby d54_3) rfl rfl (l' := #[rv r0, iv (own_n f), iv (own_len cs_), rv b2, .unset, .unset]) rfl ?_
    refine XS.aloadN X2.here hx rfl (hb hby d54_4) rfl rfl ?_
    refine XS.iloadN X2.here hx rfl (hb hby d54_5) rfl ?_
    refine XS.aloadN X2.here hx rfl (hb hby d54_6) rfl rfl ?_
    refine XS.iconst X2.here hx rfl (hb hby d54_7) ?_
    refine XS.iloadN X2.here hx rfl (hb hby d54_8) rfl ?_
    exact kt
  obtain ⟨_, T4, Lc4, X4, hQ4, st4⟩ := own_cS X2 hx hZ (y := Y19) hown (own_w hw 246 rfl) (own_w hw 247 rfl) (own_w hw 27 rfl) (own_w hw 248 rfl) (by decide) (W := 0) (rm55 l Z a0 hw [] r0 b2 kc k2 cs_ ts_ f fm h2 n0 (Nat.le_trans Z0 K2.1) (V_r0.ext E2) V_b2 g_b2 (Nat.ne_of_lt (Nat.lt_of_lt_of_le V_r0.lt (Nat.le_of_eq g2.symm))) hl5 hpos hss hts hfl (O0.keep K2 all0) S_fm hr_fm S_ad S_hi S_lo) (by decide) (by decide) (g := (mkF m 9 #[rv r0, iv (own_n f), iv (own_len cs_), rv b2, .unset, .unset] [(.int (own_len cs_)), (.int (0 : Int32)), (.ref b2), (.int (own_n f)), (.ref r0)])) rfl hml.symm (argsL := [(.ref r0), (.int (own_n f)), (.ref b2), (.int (0 : Int32)), (.int (own_len cs_))]) (rest := []) (lenOf pd31 rfl) rfl (Nat.le_of_eq rfl) (hb hby d54_9) rfl e2 (by decide) (by decide)
  obtain ⟨r4, us4, rfl, N4q, Kc4, Vd4, hD4⟩ := hQ4
  have N4 := Fr.app N0 N4q
  have K4 : Keep h0 T4.heap [] := K2.trans Kc4 (allS (Or.inr sz_b2) all0)
  have pre5 : ∀ t, Sx p e below T4 (mkF m 12 #[rv r0, iv (own_n f), iv (own_len cs_), rv b2, .unset, .unset] [(.int r4)]) t → Sx p e below s₁ g₀ t := by
    intro t kt
    refine pre3 _ ?_
    refine st4 _ ?_
    exact kt
  rcases hD4 with ⟨rfl, rfl, hL⟩ | ⟨jj, xx, rfl, hx1, hx2⟩
  · have pre6 : ∀ t, Sx p e below T4 (mkF m 65 #[rv r0, iv (own_n f), iv (own_len cs_), rv b2, iv (own_len cs_), .unset] [(.ref b2)]) t → Sx p e below s₁ g₀ t := by
      intro t kt
      refine pre5 _ ?_
      refine XS.istore X4.here hx rfl (hb hby d54_12) rfl (l' := #[rv r0, iv (own_n f), iv (own_len cs_), rv b2, iv (own_len cs_), .unset]) rfl ?_
      refine XS.iload X4.here hx rfl (hb hby d54_14) rfl ?_
      refine XS.iloadN X4.here hx rfl (hb hby d54_16) rfl ?_
      refine XS.icmpYes X4.here hx rfl (pc0 := 17) (pc' := 64) rfl (hb hby d54_17) rfl (teq rfl).1 (by decide) (by decide) ?_
      refine XS.aloadN X4.here hx rfl (hb hby d54_64) rfl rfl ?_
      exact kt
    obtain ⟨fs, hr, hrun, hended, hW, hsame⟩ := X4.leave (v := some (.ref b2)) (fun h => by rw [Bd.returns] at h; cases h)
    refine ⟨_, _, _, pre6 _ ?_, hrun, hended, ?_, ⟨_, rfl⟩, hW, hsame.mono (by decide) (by decide)⟩
    · show Steps p.tables e below (T4.setTop (mkF m 65 #[rv r0, iv (own_n f), iv (own_len cs_), rv b2, iv (own_len cs_), .unset] [(.ref b2)])) _
      jvm_step X4.here [X4.here.top, hx, (hb hby d54_65), X4.method', Bd.returns, Value.isRef, FieldType.isReference]
      first | (intro acts; rw [hr _ acts rfl rfl rfl]) | rw [hr _ _ rfl rfl rfl]
      exact Steps.refl _
    · show Q54 Z r0 kc cs_ ts_ f fm h0 n0 _ T4.heap _
      exact ⟨b2, k2, rfl, N4, K4, sz_b2, (Ex2.keep Kc4), Or.inl ⟨hL, Vd4⟩⟩
  · have pre8 : ∀ t, Sx p e below T4 (mkF m 17 #[rv r0, iv (own_n f), iv (own_len cs_), rv b2, iv (own_n jj), .unset] [(.int (own_len cs_)), (.int (own_n jj))]) t → Sx p e below s₁ g₀ t := by
      intro t kt
      refine pre5 _ ?_
      refine XS.istore X4.here hx rfl (hb hby d54_12) rfl (l' := #[rv r0, iv (own_n f), iv (own_len cs_), rv b2, iv (own_n jj), .unset]) rfl ?_
      refine XS.iload X4.here hx rfl (hb hby d54_14) rfl ?_
      refine XS.iloadN X4.here hx rfl (hb hby d54_16) rfl ?_
      exact kt
    have hc17_7 : ¬ ((own_n jj) = (own_len cs_)) := (own_nne (Nat.ne_of_lt (List.getElem?_eq_some_iff.mp hx1).1) (by have := (List.getElem?_eq_some_iff.mp hx1).1; omega) (by omega))
    have pre9 : ∀ t, Sx p e below T4 (mkF m 27 #[rv r0, iv (own_n f), iv (own_len cs_), rv b2, iv (own_n jj), .unset] [(.int (own_n (f + cs_.length))), (.int (own_n (2 * f))), (.ref r0)]) t → Sx p e below s₁ g₀ t := by
      intro t kt
      refine pre8 _ ?_
      refine XS.icmpNo X4.here hx rfl (hb hby d54_17) rfl (feq hc17_7).1 ?_
      refine XS.aloadN X4.here hx rfl (hb hby d54_20) rfl rfl ?_
      refine XS.iloadN X4.here hx rfl (hb hby d54_21) rfl ?_
      refine XS.iconst X4.here hx rfl (hb hby d54_22) ?_
      refine XS.ishl X4.here hx rfl (hb hby d54_23) rfl ?_
      show Sx p e below T4 (mkF m 24 #[rv r0, iv (own_n f), iv (own_len cs_), rv b2, iv (own_n jj), .unset] [(.int ((own_n f) <<< ((1 : Int32) &&& 31))), (.ref r0)]) _
      rw [show ((own_n f) <<< ((1 : Int32) &&& 31)) = (own_n (2 * f)) from (own_nD (by omega))]
      show Sx p e below T4 (mkF m 24 #[rv r0, iv (own_n f), iv (own_len cs_), rv b2, iv (own_n jj), .unset] [(.int (own_n (2 * f))), (.ref r0)]) _
      refine XS.iloadN X4.here hx rfl (hb hby d54_24) rfl ?_
      refine XS.iloadN X4.here hx rfl (hb hby d54_25) rfl ?_
      refine XS.iadd X4.here hx rfl (hb hby d54_26) rfl ?_
      show Sx p e below T4 (mkF m 27 #[rv r0, iv (own_n f), iv (own_len cs_), rv b2, iv (own_n jj), .unset] [(.int ((own_n f) + (own_len cs_))), (.int (own_n (2 * f))), (.ref r0)]) _
      rw [show ((own_n f) + (own_len cs_)) = (own_n (f + cs_.length)) from (own_nadd (by omega))]
      exact kt
    obtain ⟨_, T10, Lc10, X10, hQ10, st10⟩ := own_cS X4 hx hZ (y := Y13) hown (own_w hw 207 rfl) (own_w hw 208 rfl) (own_w hw 27 rfl) (own_w hw 209 rfl) (by decide) (W := 2) (rm45 l Z a0 hw [] (own_n (f + cs_.length)) (own_n (2 * (f + cs_.length))) T4.heap n0 (Nat.le_trans Z0 K4.1) (own_nP (by omega)) (own_nsm (by omega)) (own_nD (by omega))) (by decide) (by decide) (g := (mkF m 27 #[rv r0, iv (own_n f), iv (own_len cs_), rv b2, iv (own_n jj), .unset] [(.int (own_n (f + cs_.length))), (.int (own_n (2 * f))), (.ref r0)])) rfl hml.symm (argsL := [(.int (own_n (f + cs_.length)))]) (rest := [(.int (own_n (2 * f))), (.ref r0)]) (lenOf pd12 rfl) rfl (Nat.le_of_eq rfl) (hb hby d54_27) rfl rfl (by decide) (by decide)
    obtain ⟨rfl, N10q, hh10⟩ := hQ10
    have N10 := Fr.app N4 N10q
    have pre11 : ∀ t, Sx p e below T10 (mkF m 30 #[rv r0, iv (own_n f), iv (own_len cs_), rv b2, iv (own_n jj), .unset] [(.int (own_n (2 * (f + cs_.length)))), (.int (own_n (2 * f))), (.ref r0)]) t → Sx p e below s₁ g₀ t := by
      intro t kt
      refine pre9 _ ?_
      refine st10 _ ?_
      exact kt
    have hcr : own_cr (own_len (own_U ts_)) (own_n (2 * f)) (own_n (2 * (f + cs_.length))) (own_n (2 * cs_.length)) (2 * f) (2 * cs_.length) := by
      rw [own_ULn, Nat.mul_add]; exact own_crn (by omega) (by omega) (by omega) (fun q => by have := hpr (by omega); omega)
    obtain ⟨_, T12, Lc12, X12, hQ12, st12⟩ := own_cS X10 hx hZ (y := Y40) hown (own_w hw 258 rfl) (own_w hw 109 rfl) (own_w hw 110 rfl) (own_w hw 111 rfl) (by decide) (W := 0) (rm25 l Z a0 hw [] r0 (own_n (2 * f)) (own_n (2 * (f + cs_.length))) kc (own_len (own_U ts_)) (own_M (own_U ts_)) (own_n (2 * cs_.length)) (2 * f) (2 * cs_.length) T4.heap n0 (Nat.le_trans Z0 K4.1) ((V_r0.ext E2).keep Kc4 (ninS (Nat.ne_of_lt (Nat.lt_of_lt_of_le V_r0.lt (Nat.le_of_eq g2.symm))) nin0)) hcr) (by decide) (by decide) (g := (mkF m 30 #[rv r0, iv (own_n f), iv (own_len cs_), rv b2, iv (own_n jj), .unset] [(.int (own_n (2 * (f + cs_.length)))), (.int (own_n (2 * f))), (.ref r0)])) rfl hml.symm (argsL := [(.ref r0), (.int (own_n (2 * f))), (.int (own_n (2 * (f + cs_.length))))]) (rest := []) (lenOf pd29 rfl) rfl (Nat.le_of_eq rfl) (hb hby d54_30) rfl hh10 (by decide) (by decide)
    obtain ⟨y12, ky12, rfl, N12q, Kc12, hy12, Vy12, Ey12⟩ := hQ12
    have N12 := Fr.app N10 N12q
    have K12 : Keep h0 T12.heap [] := K4.trans Kc12 all0
    have g_y12 : n0 ≤ y12 := Nat.le_trans (Nat.le_trans Z0 K4.1) hy12
    have sz_y12 : h0.size ≤ y12 := Nat.le_trans K4.1 hy12
    have Vz12 : Arv Z T12.heap y12 ky12 .byte (own_len (own_U cs_)) (own_M (own_U cs_)) (.int (0 : Int32)) := by rw [own_ULn]; exact (own_usU (fun j x q => (hss j x q).1)) ▸ Vy12
    have pre13 : ∀ t, Sx p e below T12 (mkF m 39 #[rv r0, iv (own_n f), iv (own_len cs_), rv b2, iv (own_n jj), rv y12] [(.int (own_n jj)), (.ref y12)]) t → Sx p e below s₁ g₀ t := by
      intro t kt
      refine pre11 _ ?_
      refine st12 _ ?_
      show Sx p e below T12 (mkF m 33 #[rv r0, iv (own_n f), iv (own_len cs_), rv b2, iv (own_n jj), .unset] [(.ref y12)]) _
      refine XS.astore X12.here hx rfl (hb hby d54_33) rfl rfl (l' := #[rv r0, iv (own_n f), iv (own_len cs_), rv b2, iv (own_n jj), rv y12]) rfl ?_
      refine XS.aload X12.here hx rfl (hb hby d54_35) rfl rfl ?_
      refine XS.iload X12.here hx rfl (hb hby d54_37) rfl ?_
      exact kt
    obtain ⟨_, T14, Lc14, X14, hQ14, st14⟩ := own_cS X12 hx hZ (y := Y15) hown (own_w hw 217 rfl) (own_w hw 218 rfl) (own_w hw 27 rfl) (own_w hw 219 rfl) (by decide) (W := 0) (rm47 l Z a0 hw [] y12 (own_n jj) ky12 (own_len (own_U cs_)) (own_M (own_U cs_)) xx (2 * jj) T12.heap n0 (Nat.le_trans Z0 K12.1) Vz12 (own_atU hx1 (by omega) (hss _ _ hx1).2) (O0.keep K12 all0) S_ad S_hi S_lo) (by decide) (by decide) (g := (mkF m 39 #[rv r0, iv (own_n f), iv (own_len cs_), rv b2, iv (own_n jj), rv y12] [(.int (own_n jj)), (.ref y12)])) rfl hml.symm (argsL := [(.ref y12), (.int (own_n jj))]) (rest := []) (lenOf pd15 rfl) rfl (Nat.le_of_eq rfl) (hb hby d54_39) rfl rfl (by decide) (by decide)
    obtain ⟨rfl, N14q, hh14⟩ := hQ14
    have N14 := Fr.app N12 N14q
    have pre15 : ∀ t, Sx p e below T14 (mkF m 63 #[rv r0, iv (own_n f), iv (own_len cs_), rv b2, iv (own_n jj), rv y12] [(.ref y12)]) t → Sx p e below s₁ g₀ t := by
      intro t kt
      refine pre13 _ ?_
      refine st14 _ ?_
      show Sx p e below T14 (mkF m 42 #[rv r0, iv (own_n f), iv (own_len cs_), rv b2, iv (own_n jj), rv y12] [(.int xx)]) _
      refine XS.sipush X14.here hx rfl (hb hby d54_42) ?_
      refine XS.icmpYes X14.here hx rfl (pc0 := 45) (pc' := 61) rfl (hb hby d54_45) rfl (tlt hx2).2.2.1 (by decide) (by decide) ?_
      refine XS.aload X14.here hx rfl (hb hby d54_61) rfl rfl ?_
      exact kt
    obtain ⟨fs, hr, hrun, hended, hW, hsame⟩ := X14.leave (v := some (.ref y12)) (fun h => by rw [Bd.returns] at h; cases h)
    refine ⟨_, _, _, pre15 _ ?_, hrun, hended, ?_, ⟨_, rfl⟩, hW, hsame.mono (by decide) (by decide)⟩
    · show Steps p.tables e below (T14.setTop (mkF m 63 #[rv r0, iv (own_n f), iv (own_len cs_), rv b2, iv (own_n jj), rv y12] [(.ref y12)])) _
      jvm_step X14.here [X14.here.top, hx, (hb hby d54_63), X14.method', Bd.returns, Value.isRef, FieldType.isReference]
      first | (intro acts; rw [hr _ acts rfl rfl rfl]) | rw [hr _ _ rfl rfl rfl]
      exact Steps.refl _
    · show Q54 Z r0 kc cs_ ts_ f fm h0 n0 _ T14.heap _
      rw [hh14]
      exact ⟨y12, ky12, rfl, N14, K12, sz_y12, Ey12, Or.inr (Vz12)⟩
abbrev D53 (q : Nat) (i : Instr) (k : Nat) : Prop := decode jdk_52_method_69_code q = .ok (i, k)
theorem d53_0 : D53 0 (.iload_n 2) 1 := by decide +kernel
theorem d53_1 : D53 1 (.ifCond .ne 7) 3 := by decide +kernel
theorem d53_8 : D53 8 (.getstatic 251) 3 := by decide +kernel
theorem d53_11 : D53 11 (.ifCond .eq 28) 3 := by decide +kernel
theorem d53_14 : D53 14 (.aload_n 0) 1 := by decide +kernel
theorem d53_15 : D53 15 (.iload_n 1) 1 := by decide +kernel
theorem d53_16 : D53 16 (.iload_n 2) 1 := by decide +kernel
theorem d53_17 : D53 17 (.invokestatic 257) 3 := by decide +kernel
theorem d53_20 : D53 20 (.astore_n 3) 1 := by decide +kernel
theorem d53_21 : D53 21 (.aload_n 3) 1 := by decide +kernel
theorem d53_22 : D53 22 (.iload_n 2) 1 := by decide +kernel
theorem d53_23 : D53 23 (.invokestatic 259) 3 := by decide +kernel
theorem d53_26 : D53 26 (.istore 4) 2 := by decide +kernel
theorem d53_28 : D53 28 (.new 3) 3 := by decide +kernel
theorem d53_31 : D53 31 (.dup) 1 := by decide +kernel
theorem d53_32 : D53 32 (.aload_n 3) 1 := by decide +kernel
theorem d53_33 : D53 33 (.iload 4) 2 := by decide +kernel
theorem d53_35 : D53 35 (.invokespecial 263) 3 := by decide +kernel
theorem d53_38 : D53 38 (.areturn) 1 := by decide +kernel
theorem ef_53 (m : MethodId) (x0 : Addr) (x1 : Int32) (x2 : Int32) : entryFrame m #[(.ref x0), (.int x1), (.int x2)] 5 = mkF m 0 #[.val (.ref x0), .val (.int x1), .val (.int x2), .unset, .unset] [] := by first | (simp [entryFrame, mkF, argsToLocals, Value.category]; done) | rfl
def Q53 (Z : State) (r0 : Addr) (kc : ClassId) (cs_ : List Int32) (ts_ : List Int32) (f : Nat) (cs : Int32) (fm : Value) (h0 : Heap) (n0 : Nat) (v : Option Value) (h : Heap) (L : List Loc) : Prop := ∃ x y k, v = some (.ref x) ∧ Fr n0 L ∧ Keep h0 h [] ∧ h0.size ≤ x ∧ h0.size ≤ y ∧ Exa Z h x "java/lang/String" ∧ Fld Z h x "java/lang/String" "value" "[B" (.ref y) ∧ Exa Z h y "[B" ∧ own_sf Z h x y k cs_
abbrev R53 : Room := { frames := 6, cells := 3, slots := 19, locals := 125 }
theorem rm53 (l : Launch) (Z : State) (a0 : Array Value) (hw : ∀ d ∈ tables_1, d.before a0 Z = true) (ws : List Jvm.Cond) (r0 : Addr) (kc : ClassId) (cs_ : List Int32) (ts_ : List Int32) (f : Nat) (cs : Int32) (fm : Value) (h0 : Heap) (n0 : Nat) (Z0 : n0 ≤ h0.size) (V_r0 : Arv Z h0 r0 kc .byte (own_len (own_U ts_)) (own_M (own_U ts_)) (.int (0 : Int32))) (hl5 : cs_.length ≤ 5) (hpos : 0 < cs_.length) (hss : ∀ j x, cs_[j]? = some x → ts_[f + j]? = some x ∧ own_ch x) (hts : ts_.length ≤ 5) (hfl : f + cs_.length ≤ ts_.length) (hpr : f = 0 → cs_.length < ts_.length) (O0 : Old Z n0 h0) (S_cs : Sta Z Z.heap "java/lang/String" "COMPACT_STRINGS" "Z" (.int cs)) (hcs : ¬ (cs = (0 : Int32))) (S_fm : Sta Z Z.heap "jdk/internal/util/Preconditions" "SIOOBE_FORMATTER" "Ljava/util/function/BiFunction;" fm) (hr_fm : fm.isRef = true) (S_ad : Sta Z Z.heap "java/lang/StringUTF16" "$assertionsDisabled" "Z" (.int (1 : Int32))) (S_hi : Sta Z Z.heap "java/lang/StringUTF16" "HI_BYTE_SHIFT" "I" (.int (0 : Int32))) (S_lo : Sta Z Z.heap "java/lang/StringUTF16" "LO_BYTE_SHIFT" "I" (.int (8 : Int32))) :
    MetFree l Y43 (head1 (Jvm.Cond.code Y43 jdk_52_method_69_code 5 (some (.object "java/lang/String")) :: ws) R53) (fun a U => a = #[(.ref r0), (.int (own_n f)), (.int (own_len cs_))] ∧ Z.Warmed39 U.vm ∧ U.heap = h0) (fun _ _ _ _ _ => True) (fun _ U o U' => ∃ v L, o = .returned v ∧ Q53 Z r0 kc cs_ ts_ f cs fm h0 n0 v U'.heap L ∧ FrameEnd U o U' L R53.cells R53.slots) := by
  refine own_start (C := "java/lang/StringUTF16") (Q := Q53 Z r0 kc cs_ ts_ f cs fm h0 n0) rfl (plainFor_of_name pn7) ?_
  intro p e s m below meth c s₁ g₀ hg₀ Bd hx hby hml hZ hown hnm X0 e0
  have N0 := Fr.nil n0
  have pre0 : ∀ t, Sx p e below s₁ (mkF m 0 #[rv r0, iv (own_n f), iv (own_len cs_), .unset, .unset] []) t → Sx p e below s₁ g₀ t := fun t k => by subst hg₀; exact castTop (ef_53 m r0 (own_n f) (own_len cs_)) k
  have pre2 : ∀ t, Sx p e below s₁ (mkF m 1 #[rv r0, iv (own_n f), iv (own_len cs_), .unset, .unset] [(.int (own_len cs_))]) t → Sx p e below s₁ g₀ t := by
    intro t kt
    refine pre0 _ ?_
    refine XS.iloadN X0.here hx rfl (hb hby d53_0) rfl ?_
    exact kt
  have hc1_1 : ¬ ((own_len cs_) = (0 : Int32)) := (own_nz hpos (by omega))
  have pre3 : ∀ t, Sx p e below s₁ (mkF m 8 #[rv r0, iv (own_n f), iv (own_len cs_), .unset, .unset] []) t → Sx p e below s₁ g₀ t := by
    intro t kt
    refine pre2 _ ?_
    refine XS.ifYes X0.here hx rfl (pc0 := 1) (pc' := 8) rfl (hb hby d53_1) rfl ((if0 _ _).trans (feq hc1_1).2) (by decide) (by decide) ?_
    exact kt
  obtain ⟨T4, X4, e4, st4⟩ := getS2 X0 hx hZ hown (host := "") (Or.inl (own_w hw 242 rfl)) Via.refl e0 (S_cs.ext (O0.keep (Keep.refl h0 []) all0).2) (g := (mkF m 8 #[rv r0, iv (own_n f), iv (own_len cs_), .unset, .unset] [])) rfl (hb hby d53_8)
  have pre6 : ∀ t, Sx p e below T4 (mkF m 11 #[rv r0, iv (own_n f), iv (own_len cs_), .unset, .unset] [(.int cs)]) t → Sx p e below s₁ g₀ t := by
    intro t kt
    refine pre3 _ ?_
    refine st4 _ ?_
    exact kt
  have hc11_5 : ¬ (cs = (0 : Int32)) := hcs
  have pre7 : ∀ t, Sx p e below T4 (mkF m 17 #[rv r0, iv (own_n f), iv (own_len cs_), .unset, .unset] [(.int (own_len cs_)), (.int (own_n f)), (.ref r0)]) t → Sx p e below s₁ g₀ t := by
    intro t kt
    refine pre6 _ ?_
    refine XS.ifNo X4.here hx rfl (hb hby d53_11) rfl ((if0 _ _).trans (feq hc11_5).1) ?_
    refine XS.aloadN X4.here hx rfl (hb hby d53_14) rfl rfl ?_
    refine XS.iloadN X4.here hx rfl (hb hby d53_15) rfl ?_
    refine XS.iloadN X4.here hx rfl (hb hby d53_16) rfl ?_
    exact kt
  obtain ⟨_, T8, Lc8, X8, hQ8, st8⟩ := own_cS X4 hx hZ (y := Y42) hown (own_w hw 243 rfl) (own_w hw 244 rfl) (own_w hw 27 rfl) (own_w hw 245 rfl) (by decide) (W := 0) (rm54 l Z a0 hw [] r0 kc cs_ ts_ f fm h0 n0 (Nat.le_trans Z0 (Keep.refl h0 []).1) V_r0 hl5 hpos hss hts hfl hpr (O0.keep (Keep.refl h0 []) all0) S_fm hr_fm S_ad S_hi S_lo) (by decide) (by decide) (g := (mkF m 17 #[rv r0, iv (own_n f), iv (own_len cs_), .unset, .unset] [(.int (own_len cs_)), (.int (own_n f)), (.ref r0)])) rfl hml.symm (argsL := [(.ref r0), (.int (own_n f)), (.int (own_len cs_))]) (rest := []) (lenOf pd29 rfl) rfl (Nat.le_of_eq rfl) (hb hby d53_17) rfl e4 (by decide) (by decide)
  obtain ⟨y8, ky8, rfl, N8q, Kc8, hy8, Ey8, hD8⟩ := hQ8
  have N8 := Fr.app N0 N8q
  have K8 : Keep h0 T8.heap [] := (Keep.refl h0 []).trans Kc8 all0
  have g_y8 : n0 ≤ y8 := Nat.le_trans (Nat.le_trans Z0 (Keep.refl h0 []).1) hy8
  have sz_y8 : h0.size ≤ y8 := Nat.le_trans (Keep.refl h0 []).1 hy8
  have pre9 : ∀ t, Sx p e below T8 (mkF m 20 #[rv r0, iv (own_n f), iv (own_len cs_), .unset, .unset] [(.ref y8)]) t → Sx p e below s₁ g₀ t := by
    intro t kt
    refine pre7 _ ?_
    refine st8 _ ?_
    exact kt
  rcases hD8 with ⟨hL, Vy8⟩ | Vy8
  · have pre10 : ∀ t, Sx p e below T8 (mkF m 23 #[rv r0, iv (own_n f), iv (own_len cs_), rv y8, .unset] [(.int (own_len cs_)), (.ref y8)]) t → Sx p e below s₁ g₀ t := by
      intro t kt
      refine pre9 _ ?_
      refine XS.astoreN X8.here hx rfl (hb hby d53_20) rfl rfl (l' := #[rv r0, iv (own_n f), iv (own_len cs_), rv y8, .unset]) rfl ?_
      refine XS.aloadN X8.here hx rfl (hb hby d53_21) rfl rfl ?_
      refine XS.iloadN X8.here hx rfl (hb hby d53_22) rfl ?_
      exact kt
    obtain ⟨_, T11, Lc11, X11, hQ11, st11⟩ := own_cS X8 hx hZ (y := Y21) hown (own_w hw 259 rfl) (own_w hw 33 rfl) (own_w hw 27 rfl) (own_w hw 34 rfl) (by decide) (W := 0) (rm8 l Z a0 hw [] y8 (own_len cs_) ky8 (own_len cs_) (own_M (own_Lb cs_)) (0 : Int32) T8.heap n0 (Nat.le_trans Z0 K8.1) Vy8 (own_cf0 _) (by decide)) (by decide) (by decide) (g := (mkF m 23 #[rv r0, iv (own_n f), iv (own_len cs_), rv y8, .unset] [(.int (own_len cs_)), (.ref y8)])) rfl hml.symm (argsL := [(.ref y8), (.int (own_len cs_))]) (rest := []) (lenOf pd19 rfl) rfl (Nat.le_of_eq rfl) (hb hby d53_23) rfl rfl (by decide) (by decide)
    obtain ⟨rfl, N11q, hh11⟩ := hQ11
    have N11 := Fr.app N8 N11q
    have pre12 : ∀ t, Sx p e below T11 (mkF m 28 #[rv r0, iv (own_n f), iv (own_len cs_), rv y8, iv (0 : Int32)] []) t → Sx p e below s₁ g₀ t := by
      intro t kt
      refine pre10 _ ?_
      refine st11 _ ?_
      show Sx p e below T11 (mkF m 26 #[rv r0, iv (own_n f), iv (own_len cs_), rv y8, .unset] [(.int (0 : Int32))]) _
      refine XS.istore X11.here hx rfl (hb hby d53_26) rfl (l' := #[rv r0, iv (own_n f), iv (own_len cs_), rv y8, iv (0 : Int32)]) rfl ?_
      exact kt
    obtain ⟨T13, h13, X13, e13, E13, A13, D13, -, st13⟩ := newO X11 hx hZ hown (own_w hw 260 rfl) (own_w hw 12 rfl) (own_w hw 13 rfl) hh11 (g := (mkF m 28 #[rv r0, iv (own_n f), iv (own_len cs_), rv y8, iv (0 : Int32)] [])) rfl (hb hby d53_28) (by decide) (by decide)
    obtain ⟨b13, g13⟩ : ∃ z, z = T8.heap.size := ⟨_, rfl⟩
    rw [← g13] at A13 D13 st13
    have g_b13 : n0 ≤ b13 := Nat.le_trans (Nat.le_trans Z0 K8.1) (Nat.le_of_eq g13.symm)
    have sz_b13 : h0.size ≤ b13 := Nat.le_trans K8.1 (Nat.le_of_eq g13.symm)
    have F_coder_b13 : Fld Z h13 b13 "java/lang/String" "coder" "B" (.int (0 : Int32)) := D13 (Or.inr (own_w hw 36 rfl)) (ty := .byte) (by decide)
    have F_value_b13 : Fld Z h13 b13 "java/lang/String" "value" "[B" .null := D13 (Or.inr (own_w hw 38 rfl)) (ty := (.array .byte)) (by decide)
    have K13 : Keep h0 h13 [] := K8.ext E13
    have pre14 : ∀ t, Sx p e below T13 (mkF m 35 #[rv r0, iv (own_n f), iv (own_len cs_), rv y8, iv (0 : Int32)] [(.int (0 : Int32)), (.ref y8), (.ref b13), (.ref b13)]) t → Sx p e below s₁ g₀ t := by
      intro t kt
      refine pre12 _ ?_
      refine st13 _ ?_
      show Sx p e below T13 (mkF m 31 #[rv r0, iv (own_n f), iv (own_len cs_), rv y8, iv (0 : Int32)] [(.ref b13)]) _
      refine XS.dup X13.here hx rfl (hb hby d53_31) rfl rfl ?_
      refine XS.aloadN X13.here hx rfl (hb hby d53_32) rfl rfl ?_
      refine XS.iload X13.here hx rfl (hb hby d53_33) rfl ?_
      exact kt
    obtain ⟨_, _, ⟨T15, L15, k15, n15⟩, -, X15, ⟨Lc15, hQ15, l15, y15, z15⟩, st15⟩ := X13.specialBack hx (y := Y22) rfl hown (mvT hZ (own_w hw 261 rfl)) (mvT hZ (own_w hw 124 rfl)) (mvT hZ (own_w hw 125 rfl)) (by decide) (backOf (W := 1) (rm28v0 l Z a0 hw [] b13 y8 h13 n0 (Nat.le_trans Z0 K13.1) F_value_b13 F_coder_b13 A13 g_b13) hZ (own_w hw 125 rfl) (own_w hw 13 rfl) (by decide) (by decide)) (g := (mkF m 35 #[rv r0, iv (own_n f), iv (own_len cs_), rv y8, iv (0 : Int32)] [(.int (0 : Int32)), (.ref y8), (.ref b13), (.ref b13)])) rfl (by rw [hml]; rfl) (Steps.refl _) (a := b13) (argsL := [(.ref y8), (.int (0 : Int32))]) (rest := [(.ref b13)]) (lenOf pd30 rfl) rfl (by show 2 * 0 + _ ≤ _; exact Nat.le_of_eq rfl) (hb hby d53_35) (fun _ _ => ⟨rfl, e13, (by decide : 3 + 0 ≤ _), (by decide : 19 + 0 ≤ _)⟩)
    dsimp only [Pt.U, Pt.locs, Pt.cells, Pt.slots] at X15 l15 y15 z15 st15 hQ15
    subst l15 y15 z15
    obtain ⟨rfl, N15q, Kc15, Fv15, Fc15⟩ := hQ15
    have N15 := Fr.app N11 N15q
    have K15 : Keep h0 T15.heap [] := K13.trans Kc15 (allS (Or.inr sz_b13) all0)
    have pre16 : ∀ t, Sx p e below T15 (mkF m 38 #[rv r0, iv (own_n f), iv (own_len cs_), rv y8, iv (0 : Int32)] [(.ref b13)]) t → Sx p e below s₁ g₀ t := by
      intro t kt
      refine pre14 _ ?_
      refine st15.trans ?_
      exact kt
    obtain ⟨fs, hr, hrun, hended, hW, hsame⟩ := X15.leave (v := some (.ref b13)) (fun h => by rw [Bd.returns] at h; cases h)
    refine ⟨_, _, _, pre16 _ ?_, hrun, hended, ?_, ⟨_, rfl⟩, hW, hsame.mono (by decide) (by decide)⟩
    · show Steps p.tables e below (T15.setTop (mkF m 38 #[rv r0, iv (own_n f), iv (own_len cs_), rv y8, iv (0 : Int32)] [(.ref b13)])) _
      jvm_step X15.here [X15.here.top, hx, (hb hby d53_38), X15.method', Bd.returns, Value.isRef, FieldType.isReference]
      first | (intro acts; rw [hr _ acts rfl rfl rfl]) | rw [hr _ _ rfl rfl rfl]
      exact Steps.refl _
    · show Q53 Z r0 kc cs_ ts_ f cs fm h0 n0 _ T15.heap _
      exact ⟨b13, y8, ky8, rfl, N15, K15, sz_b13, sz_y8, (A13.keep Kc15), Fv15, ((Ey8.ext E13).keep Kc15), Or.inl ⟨Fc15, hL, ((Vy8.ext E13).keep Kc15 (ninS (Exa.ne ((Ey8.ext E13).keep Kc15) (A13.keep Kc15) (by decide)) nin0))⟩⟩
  · have pre17 : ∀ t, Sx p e below T8 (mkF m 23 #[rv r0, iv (own_n f), iv (own_len cs_), rv y8, .unset] [(.int (own_len cs_)), (.ref y8)]) t → Sx p e below s₁ g₀ t := by
      intro t kt
      refine pre9 _ ?_
      refine XS.astoreN X8.here hx rfl (hb hby d53_20) rfl rfl (l' := #[rv r0, iv (own_n f), iv (own_len cs_), rv y8, .unset]) rfl ?_
      refine XS.aloadN X8.here hx rfl (hb hby d53_21) rfl rfl ?_
      refine XS.iloadN X8.here hx rfl (hb hby d53_22) rfl ?_
      exact kt
    obtain ⟨_, T18, Lc18, X18, hQ18, st18⟩ := own_cS X8 hx hZ (y := Y21) hown (own_w hw 259 rfl) (own_w hw 33 rfl) (own_w hw 27 rfl) (own_w hw 34 rfl) (by decide) (W := 0) (rm8 l Z a0 hw [] y8 (own_len cs_) ky8 (own_len (own_U cs_)) (own_M (own_U cs_)) (1 : Int32) T8.heap n0 (Nat.le_trans Z0 K8.1) Vy8 (own_cf1 hpos hl5) (by decide)) (by decide) (by decide) (g := (mkF m 23 #[rv r0, iv (own_n f), iv (own_len cs_), rv y8, .unset] [(.int (own_len cs_)), (.ref y8)])) rfl hml.symm (argsL := [(.ref y8), (.int (own_len cs_))]) (rest := []) (lenOf pd19 rfl) rfl (Nat.le_of_eq rfl) (hb hby d53_23) rfl rfl (by decide) (by decide)
    obtain ⟨rfl, N18q, hh18⟩ := hQ18
    have N18 := Fr.app N8 N18q
    have pre19 : ∀ t, Sx p e below T18 (mkF m 28 #[rv r0, iv (own_n f), iv (own_len cs_), rv y8, iv (1 : Int32)] []) t → Sx p e below s₁ g₀ t := by
      intro t kt
      refine pre17 _ ?_
      refine st18 _ ?_
      show Sx p e below T18 (mkF m 26 #[rv r0, iv (own_n f), iv (own_len cs_), rv y8, .unset] [(.int (1 : Int32))]) _
      refine XS.istore X18.here hx rfl (hb hby d53_26) rfl (l' := #[rv r0, iv (own_n f), iv (own_len cs_), rv y8, iv (1 : Int32)]) rfl ?_
      exact kt
    obtain ⟨T20, h20, X20, e20, E20, A20, D20, -, st20⟩ := newO X18 hx hZ hown (own_w hw 260 rfl) (own_w hw 12 rfl) (own_w hw 13 rfl) hh18 (g := (mkF m 28 #[rv r0, iv (own_n f), iv (own_len cs_), rv y8, iv (1 : Int32)] [])) rfl (hb hby d53_28) (by decide) (by decide)
    obtain ⟨b20, g20⟩ : ∃ z, z = T8.heap.size := ⟨_, rfl⟩
    rw [← g20] at A20 D20 st20
    have g_b20 : n0 ≤ b20 := Nat.le_trans (Nat.le_trans Z0 K8.1) (Nat.le_of_eq g20.symm)
    have sz_b20 : h0.size ≤ b20 := Nat.le_trans K8.1 (Nat.le_of_eq g20.symm)
    have F_coder_b20 : Fld Z h20 b20 "java/lang/String" "coder" "B" (.int (0 : Int32)) := D20 (Or.inr (own_w hw 36 rfl)) (ty := .byte) (by decide)
    have F_value_b20 : Fld Z h20 b20 "java/lang/String" "value" "[B" .null := D20 (Or.inr (own_w hw 38 rfl)) (ty := (.array .byte)) (by decide)
    have K20 : Keep h0 h20 [] := K8.ext E20
    have pre21 : ∀ t, Sx p e below T20 (mkF m 35 #[rv r0, iv (own_n f), iv (own_len cs_), rv y8, iv (1 : Int32)] [(.int (1 : Int32)), (.ref y8), (.ref b20), (.ref b20)]) t → Sx p e below s₁ g₀ t := by
      intro t kt
      refine pre19 _ ?_
      refine st20 _ ?_
      show Sx p e below T20 (mkF m 31 #[rv r0, iv (own_n f), iv (own_len cs_), rv y8, iv (1 : Int32)] [(.ref b20)]) _
      refine XS.dup X20.here hx rfl (hb hby d53_31) rfl rfl ?_
      refine XS.aloadN X20.here hx rfl (hb hby d53_32) rfl rfl ?_
      refine XS.iload X20.here hx rfl (hb hby d53_33) rfl ?_
      exact kt
    obtain ⟨_, _, ⟨T22, L22, k22, n22⟩, -, X22, ⟨Lc22, hQ22, l22, y22, z22⟩, st22⟩ := X20.specialBack hx (y := Y22) rfl hown (mvT hZ (own_w hw 261 rfl)) (mvT hZ (own_w hw 124 rfl)) (mvT hZ (own_w hw 125 rfl)) (by decide) (backOf (W := 1) (rm28v1 l Z a0 hw [] b20 y8 h20 n0 (Nat.le_trans Z0 K20.1) F_value_b20 F_coder_b20 A20 g_b20) hZ (own_w hw 125 rfl) (own_w hw 13 rfl) (by decide) (by decide)) (g := (mkF m 35 #[rv r0, iv (own_n f), iv (own_len cs_), rv y8, iv (1 : Int32)] [(.int (1 : Int32)), (.ref y8), (.ref b20), (.ref b20)])) rfl (by rw [hml]; rfl) (Steps.refl _) (a := b20) (argsL := [(.ref y8), (.int (1 : Int32))]) (rest := [(.ref b20)]) (lenOf pd30 rfl) rfl (by show 2 * 0 + _ ≤ _; exact Nat.le_of_eq rfl) (hb hby d53_35) (fun _ _ => ⟨rfl, e20, (by decide : 3 + 0 ≤ _), (by decide : 19 + 0 ≤ _)⟩)
    dsimp only [Pt.U, Pt.locs, Pt.cells, Pt.slots] at X22 l22 y22 z22 st22 hQ22
    subst l22 y22 z22
    obtain ⟨rfl, N22q, Kc22, Fv22, Fc22⟩ := hQ22
    have N22 := Fr.app N18 N22q
    have K22 : Keep h0 T22.heap [] := K20.trans Kc22 (allS (Or.inr sz_b20) all0)
    have pre23 : ∀ t, Sx p e below T22 (mkF m 38 #[rv r0, iv (own_n f), iv (own_len cs_), rv y8, iv (1 : Int32)] [(.ref b20)]) t → Sx p e below s₁ g₀ t := by
      intro t kt
      refine pre21 _ ?_
      refine st22.trans ?_
      exact kt
    obtain ⟨fs, hr, hrun, hended, hW, hsame⟩ := X22.leave (v := some (.ref b20)) (fun h => by rw [Bd.returns] at h; cases h)
    refine ⟨_, _, _, pre23 _ ?_, hrun, hended, ?_, ⟨_, rfl⟩, hW, hsame.mono (by decide) (by decide)⟩
    · show Steps p.tables e below (T22.setTop (mkF m 38 #[rv r0, iv (own_n f), iv (own_len cs_), rv y8, iv (1 : Int32)] [(.ref b20)])) _
      jvm_step X22.here [X22.here.top, hx, (hb hby d53_38), X22.method', Bd.returns, Value.isRef, FieldType.isReference]
      first | (intro acts; rw [hr _ acts rfl rfl rfl]) | rw [hr _ _ rfl rfl rfl]
      exact Steps.refl _
    · show Q53 Z r0 kc cs_ ts_ f cs fm h0 n0 _ T22.heap _
      exact ⟨b20, y8, ky8, rfl, N22, K22, sz_b20, sz_y8, (A20.keep Kc22), Fv22, ((Ey8.ext E20).keep Kc22), Or.inr ⟨Fc22, ((Vy8.ext E20).keep Kc22 (ninS (Exa.ne ((Ey8.ext E20).keep Kc22) (A20.keep Kc22) (by decide)) nin0))⟩⟩
abbrev D21 (q : Nat) (i : Instr) (k : Nat) : Prop := decode jdk_42_method_92_code q = .ok (i, k)
theorem d21_0 : D21 0 (.aload_n 0) 1 := by decide +kernel
theorem d21_1 : D21 1 (.invokevirtual 505) 3 := by decide +kernel
theorem d21_4 : D21 4 (.istore_n 3) 1 := by decide +kernel
theorem d21_5 : D21 5 (.iload_n 1) 1 := by decide +kernel
theorem d21_6 : D21 6 (.iload_n 2) 1 := by decide +kernel
theorem d21_7 : D21 7 (.iload_n 3) 1 := by decide +kernel
theorem d21_8 : D21 8 (.invokestatic 521) 3 := by decide +kernel
theorem d21_11 : D21 11 (.iload_n 1) 1 := by decide +kernel
theorem d21_12 : D21 12 (.ifCond .ne 10) 3 := by decide +kernel
theorem d21_15 : D21 15 (.iload_n 2) 1 := by decide +kernel
theorem d21_16 : D21 16 (.iload_n 3) 1 := by decide +kernel
theorem d21_17 : D21 17 (.if_icmp .ne 5) 3 := by decide +kernel
theorem d21_22 : D21 22 (.iload_n 2) 1 := by decide +kernel
theorem d21_23 : D21 23 (.iload_n 1) 1 := by decide +kernel
theorem d21_24 : D21 24 (.isub) 1 := by decide +kernel
theorem d21_25 : D21 25 (.istore 4) 2 := by decide +kernel
theorem d21_27 : D21 27 (.aload_n 0) 1 := by decide +kernel
theorem d21_28 : D21 28 (.invokevirtual 492) 3 := by decide +kernel
theorem d21_31 : D21 31 (.ifCond .eq 16) 3 := by decide +kernel
theorem d21_34 : D21 34 (.aload_n 0) 1 := by decide +kernel
theorem d21_35 : D21 35 (.getfield 9) 3 := by decide +kernel
theorem d21_38 : D21 38 (.iload_n 1) 1 := by decide +kernel
theorem d21_39 : D21 39 (.iload 4) 2 := by decide +kernel
theorem pd32 : parseMethodDescriptor "([BII)Ljava/lang/String;" = some ⟨[(.array .byte), .int, .int], some (.object "java/lang/String")⟩ := by decide +kernel
theorem d21_41 : D21 41 (.invokestatic 685) 3 := by decide +kernel
theorem d21_44 : D21 44 (.goto 13) 3 := by decide +kernel
theorem d21_57 : D21 57 (.areturn) 1 := by decide +kernel
theorem d21_47 : D21 47 (.aload_n 0) 1 := by decide +kernel
theorem d21_48 : D21 48 (.getfield 9) 3 := by decide +kernel
theorem d21_51 : D21 51 (.iload_n 1) 1 := by decide +kernel
theorem d21_52 : D21 52 (.iload 4) 2 := by decide +kernel
theorem d21_54 : D21 54 (.invokestatic 689) 3 := by decide +kernel
theorem ef_21s (m : MethodId) (x0 : Addr) (x1 : Int32) (x2 : Int32) : entryFrame m #[(.ref x0), (.int x1), (.int x2)] 5 = mkF m 0 #[.val (.ref x0), .val (.int x1), .val (.int x2), .unset, .unset] [] := by first | (simp [entryFrame, mkF, argsToLocals, Value.category]; done) | rfl
def Q21s (Z : State) (r0 : Addr) (va : Addr) (kc : ClassId) (ts_ : List Int32) (cs_ : List Int32) (f : Nat) (cs : Int32) (fm : Value) (h0 : Heap) (n0 : Nat) (v : Option Value) (h : Heap) (L : List Loc) : Prop := ∃ x y k, v = some (.ref x) ∧ Fr n0 L ∧ Keep h0 h [] ∧ h0.size ≤ x ∧ h0.size ≤ y ∧ Exa Z h x "java/lang/String" ∧ Fld Z h x "java/lang/String" "value" "[B" (.ref y) ∧ Exa Z h y "[B" ∧ own_sf Z h x y k cs_
abbrev R21s : Room := { frames := 7, cells := 3, slots := 19, locals := 141 }
theorem rm21s (l : Launch) (Z : State) (a0 : Array Value) (hw : ∀ d ∈ tables_1, d.before a0 Z = true) (ws : List Jvm.Cond) (r0 : Addr) (va : Addr) (kc : ClassId) (ts_ : List Int32) (cs_ : List Int32) (f : Nat) (cs : Int32) (fm : Value) (h0 : Heap) (n0 : Nat) (Z0 : n0 ≤ h0.size) (F_v : Fld Z h0 r0 "java/lang/String" "value" "[B" (.ref va)) (E_r0 : Exa Z h0 r0 "java/lang/String") (hD : own_sf Z h0 r0 va kc ts_) (hl5 : cs_.length ≤ 5) (hpos : 0 < cs_.length) (hss : ∀ j x, cs_[j]? = some x → ts_[f + j]? = some x ∧ own_ch x) (hts : ts_.length ≤ 5) (hfl : f + cs_.length ≤ ts_.length) (hpr : f = 0 → cs_.length < ts_.length) (O0 : Old Z n0 h0) (S_cs : Sta Z Z.heap "java/lang/String" "COMPACT_STRINGS" "Z" (.int cs)) (hcs : ¬ (cs = (0 : Int32))) (S_fm : Sta Z Z.heap "jdk/internal/util/Preconditions" "SIOOBE_FORMATTER" "Ljava/util/function/BiFunction;" fm) (hr_fm : fm.isRef = true) (S_ad : Sta Z Z.heap "java/lang/StringUTF16" "$assertionsDisabled" "Z" (.int (1 : Int32))) (S_hi : Sta Z Z.heap "java/lang/StringUTF16" "HI_BYTE_SHIFT" "I" (.int (0 : Int32))) (S_lo : Sta Z Z.heap "java/lang/StringUTF16" "LO_BYTE_SHIFT" "I" (.int (8 : Int32))) :
    MetFree l Y44 (head1 (Jvm.Cond.code Y44 jdk_42_method_92_code 5 (some (.object "java/lang/String")) :: ws) R21s) (fun a U => a = #[(.ref r0), (.int (own_n f)), (.int (own_n (f + cs_.length)))] ∧ Z.Warmed39 U.vm ∧ U.heap = h0) (fun _ _ _ _ _ => True) (fun _ U o U' => ∃ v L, o = .returned v ∧ Q21s Z r0 va kc ts_ cs_ f cs fm h0 n0 v U'.heap L ∧ FrameEnd U o U' L R21s.cells R21s.slots) := by
  refine own_start (C := "java/lang/String") (Q := Q21s Z r0 va kc ts_ cs_ f cs fm h0 n0) rfl (plainFor_of_name pn4) ?_
  intro p e s m below meth c s₁ g₀ hg₀ Bd hx hby hml hZ hown hnm X0 e0
  have N0 := Fr.nil n0
  have pre0 : ∀ t, Sx p e below s₁ (mkF m 0 #[rv r0, iv (own_n f), iv (own_n (f + cs_.length)), .unset, .unset] []) t → Sx p e below s₁ g₀ t := fun t k => by subst hg₀; exact castTop (ef_21s m r0 (own_n f) (own_n (f + cs_.length))) k
  have pre1 : ∀ t, Sx p e below s₁ (mkF m 1 #[rv r0, iv (own_n f), iv (own_n (f + cs_.length)), .unset, .unset] [(.ref r0)]) t → Sx p e below s₁ g₀ t := by
    intro t kt
    refine pre0 _ ?_
    refine XS.aloadN X0.here hx rfl (hb hby d21_0) rfl rfl ?_
    exact kt
  obtain ⟨_, T2, Lc2, X2, hQ2, st2⟩ := own_cV X0 hx hZ (y := Y27) hown (own_w hw 58 rfl) (own_w hw 59 rfl) (own_w hw 61 rfl) (own_w hw 60 rfl) (own_w hw 62 rfl) (own_w hw 13 rfl) (by decide) (W := 0) (rm13s l Z a0 hw [] r0 va kc ts_ cs h0 n0 (Nat.le_trans Z0 (Keep.refl h0 []).1) F_v E_r0 hD hts (O0.keep (Keep.refl h0 []) all0) S_cs hcs) (by decide) (by decide) E_r0 (g := (mkF m 1 #[rv r0, iv (own_n f), iv (own_n (f + cs_.length)), .unset, .unset] [(.ref r0)])) rfl hml.symm (argsL := []) (rest := []) (lenOf pd27 rfl) rfl (Nat.le_of_eq rfl) (hb hby d21_1) rfl e0 (by decide) (by decide)
  obtain ⟨rfl, N2q, hh2⟩ := hQ2
  have N2 := Fr.app N0 N2q
  have pre3 : ∀ t, Sx p e below T2 (mkF m 8 #[rv r0, iv (own_n f), iv (own_n (f + cs_.length)), iv (own_len ts_), .unset] [(.int (own_len ts_)), (.int (own_n (f + cs_.length))), (.int (own_n f))]) t → Sx p e below s₁ g₀ t := by
    intro t kt
    refine pre1 _ ?_
    refine st2.trans ?_
    show Sx p e below T2 (mkF m 4 #[rv r0, iv (own_n f), iv (own_n (f + cs_.length)), .unset, .unset] [(.int (own_len ts_))]) _
    refine XS.istoreN X2.here hx rfl (hb hby d21_4) rfl (l' := #[rv r0, iv (own_n f), iv (own_n (f + cs_.length)), iv (own_len ts_), .unset]) rfl ?_
    refine XS.iloadN X2.here hx rfl (hb hby d21_5) rfl ?_
    refine XS.iloadN X2.here hx rfl (hb hby d21_6) rfl ?_
    refine XS.iloadN X2.here hx rfl (hb hby d21_7) rfl ?_
    exact kt
  obtain ⟨_, T4, Lc4, X4, hQ4, st4⟩ := own_cS X2 hx hZ (y := Y6) hown (own_w hw 96 rfl) (own_w hw 97 rfl) (own_w hw 13 rfl) (own_w hw 98 rfl) (by decide) (W := 0) (rm22 l Z a0 hw [] (own_n f) (own_n (f + cs_.length)) (own_len ts_) fm h0 n0 (Nat.le_trans Z0 (Keep.refl h0 []).1) (O0.keep (Keep.refl h0 []) all0) S_fm hr_fm (own_nP (by omega)) (own_nge (by omega) (by omega)) (own_nge (i := ts_.length) hfl (by omega))) (by decide) (by decide) (g := (mkF m 8 #[rv r0, iv (own_n f), iv (own_n (f + cs_.length)), iv (own_len ts_), .unset] [(.int (own_len ts_)), (.int (own_n (f + cs_.length))), (.int (own_n f))])) rfl hml.symm (argsL := [(.int (own_n f)), (.int (own_n (f + cs_.length))), (.int (own_len ts_))]) (rest := []) (lenOf pd10 rfl) rfl (Nat.le_of_eq rfl) (hb hby d21_8) rfl hh2 (by decide) (by decide)
  obtain ⟨rfl, N4q, hh4⟩ := hQ4
  have N4 := Fr.app N2 N4q
  have pre5 : ∀ t, Sx p e below T4 (mkF m 12 #[rv r0, iv (own_n f), iv (own_n (f + cs_.length)), iv (own_len ts_), .unset] [(.int (own_n f))]) t → Sx p e below s₁ g₀ t := by
    intro t kt
    refine pre3 _ ?_
    refine st4 _ ?_
    show Sx p e below T4 (mkF m 11 #[rv r0, iv (own_n f), iv (own_n (f + cs_.length)), iv (own_len ts_), .unset] []) _
    refine XS.iloadN X4.here hx rfl (hb hby d21_11) rfl ?_
    exact kt
  obtain ⟨hj10, pre10⟩ : ((((own_n f) = (0 : Int32)) ∧ (¬ ((own_n (f + cs_.length)) = (own_len ts_)))) ∨ ((¬ ((own_n f) = (0 : Int32))))) ∧ ∀ t, Sx p e below T4 (mkF m 22 #[rv r0, iv (own_n f), iv (own_n (f + cs_.length)), iv (own_len ts_), .unset] []) t → Steps p.tables e below (s₁.setTop g₀) t := by
    by_cases hc12 : (own_n f) = (0 : Int32)
    · have pre7 : ∀ t, Sx p e below T4 (mkF m 17 #[rv r0, iv (own_n f), iv (own_n (f + cs_.length)), iv (own_len ts_), .unset] [(.int (own_len ts_)), (.int (own_n (f + cs_.length)))]) t → Sx p e below s₁ g₀ t := by
        intro t kt
        refine pre5 _ ?_
        refine XS.ifNo X4.here hx rfl (hb hby d21_12) rfl ((if0 _ _).trans (teq hc12).2) ?_
        refine XS.iloadN X4.here hx rfl (hb hby d21_15) rfl ?_
        refine XS.iloadN X4.here hx rfl (hb hby d21_16) rfl ?_
        exact kt
      have hc17_6 : ¬ ((own_n (f + cs_.length)) = (own_len ts_)) := (own_nne (by have := own_nz' hc12 (by omega); have := hpr this; omega) (by omega) (by omega))
      have pre8 : ∀ t, Sx p e below T4 (mkF m 22 #[rv r0, iv (own_n f), iv (own_n (f + cs_.length)), iv (own_len ts_), .unset] []) t → Sx p e below s₁ g₀ t := by
        intro t kt
        refine pre7 _ ?_
        refine XS.icmpYes X4.here hx rfl (pc0 := 17) (pc' := 22) rfl (hb hby d21_17) rfl (feq hc17_6).2 (by decide) (by decide) ?_
        exact kt
      exact ⟨Or.inl ⟨hc12, hc17_6⟩, pre8⟩
    · have pre9 : ∀ t, Sx p e below T4 (mkF m 22 #[rv r0, iv (own_n f), iv (own_n (f + cs_.length)), iv (own_len ts_), .unset] []) t → Sx p e below s₁ g₀ t := by
        intro t kt
        refine pre5 _ ?_
        refine XS.ifYes X4.here hx rfl (pc0 := 12) (pc' := 22) rfl (hb hby d21_12) rfl ((if0 _ _).trans (feq hc12).2) (by decide) (by decide) ?_
        exact kt
      exact ⟨Or.inr (hc12), pre9⟩
  have pre11 : ∀ t, Sx p e below T4 (mkF m 27 #[rv r0, iv (own_n f), iv (own_n (f + cs_.length)), iv (own_len ts_), iv (own_len cs_)] []) t → Sx p e below s₁ g₀ t := by
    intro t kt
    refine pre10 _ ?_
    refine XS.iloadN X4.here hx rfl (hb hby d21_22) rfl ?_
    refine XS.iloadN X4.here hx rfl (hb hby d21_23) rfl ?_
    refine XS.isub X4.here hx rfl (hb hby d21_24) rfl ?_
    show Sx p e below T4 (mkF m 25 #[rv r0, iv (own_n f), iv (own_n (f + cs_.length)), iv (own_len ts_), .unset] [(.int ((own_n (f + cs_.length)) - (own_n f)))]) _
    rw [show ((own_n (f + cs_.length)) - (own_n f)) = (own_len cs_) from (own_nsub (by omega))]
    show Sx p e below T4 (mkF m 25 #[rv r0, iv (own_n f), iv (own_n (f + cs_.length)), iv (own_len ts_), .unset] [(.int (own_len cs_))]) _
    refine XS.istore X4.here hx rfl (hb hby d21_25) rfl (l' := #[rv r0, iv (own_n f), iv (own_n (f + cs_.length)), iv (own_len ts_), iv (own_len cs_)]) rfl ?_
    exact kt
  rcases hD with ⟨Fc, hL, V_⟩ | ⟨Fc, V_⟩
  · have pre12 : ∀ t, Sx p e below T4 (mkF m 28 #[rv r0, iv (own_n f), iv (own_n (f + cs_.length)), iv (own_len ts_), iv (own_len cs_)] [(.ref r0)]) t → Sx p e below s₁ g₀ t := by
      intro t kt
      refine pre11 _ ?_
      refine XS.aloadN X4.here hx rfl (hb hby d21_27) rfl rfl ?_
      exact kt
    obtain ⟨_, T13, Lc13, X13, hQ13, st13⟩ := own_cV X4 hx hZ (y := Y26) hown (own_w hw 53 rfl) (own_w hw 54 rfl) (own_w hw 56 rfl) (own_w hw 55 rfl) (own_w hw 57 rfl) (own_w hw 13 rfl) (by decide) (W := 0) (rm12v0 l Z a0 hw [] r0 va cs h0 n0 (Nat.le_trans Z0 (Keep.refl h0 []).1) F_v Fc E_r0 (O0.keep (Keep.refl h0 []) all0) S_cs hcs) (by decide) (by decide) E_r0 (g := (mkF m 28 #[rv r0, iv (own_n f), iv (own_n (f + cs_.length)), iv (own_len ts_), iv (own_len cs_)] [(.ref r0)])) rfl hml.symm (argsL := []) (rest := []) (lenOf pd23 rfl) rfl (Nat.le_of_eq rfl) (hb hby d21_28) rfl hh4 (by decide) (by decide)
    obtain ⟨rfl, N13q, hh13⟩ := hQ13
    have N13 := Fr.app N4 N13q
    have pre14 : ∀ t, Sx p e below T13 (mkF m 35 #[rv r0, iv (own_n f), iv (own_n (f + cs_.length)), iv (own_len ts_), iv (own_len cs_)] [(.ref r0)]) t → Sx p e below s₁ g₀ t := by
      intro t kt
      refine pre12 _ ?_
      refine st13.trans ?_
      show Sx p e below T13 (mkF m 31 #[rv r0, iv (own_n f), iv (own_n (f + cs_.length)), iv (own_len ts_), iv (own_len cs_)] [(.int (1 : Int32))]) _
      refine XS.ifNo X13.here hx rfl (hb hby d21_31) rfl ((if0 _ _).trans (feq (by decide)).1) ?_
      refine XS.aloadN X13.here hx rfl (hb hby d21_34) rfl rfl ?_
      exact kt
    obtain ⟨T15, X15, e15, st15⟩ := getF X13 hx hZ hown (host := "") (Or.inl (own_w hw 37 rfl)) Via.refl hh13 F_v (g := (mkF m 35 #[rv r0, iv (own_n f), iv (own_n (f + cs_.length)), iv (own_len ts_), iv (own_len cs_)] [(.ref r0)])) rfl rfl (hb hby d21_35)
    have pre16 : ∀ t, Sx p e below T15 (mkF m 41 #[rv r0, iv (own_n f), iv (own_n (f + cs_.length)), iv (own_len ts_), iv (own_len cs_)] [(.int (own_len cs_)), (.int (own_n f)), (.ref va)]) t → Sx p e below s₁ g₀ t := by
      intro t kt
      refine pre14 _ ?_
      refine st15 _ ?_
      show Sx p e below T15 (mkF m 38 #[rv r0, iv (own_n f), iv (own_n (f + cs_.length)), iv (own_len ts_), iv (own_len cs_)] [(.ref va)]) _
      refine XS.iloadN X15.here hx rfl (hb hby d21_38) rfl ?_
      refine XS.iload X15.here hx rfl (hb hby d21_39) rfl ?_
      exact kt
    obtain ⟨_, T17, Lc17, X17, hQ17, st17⟩ := own_cS X15 hx hZ (y := Y41) hown (own_w hw 104 rfl) (own_w hw 105 rfl) (own_w hw 70 rfl) (own_w hw 106 rfl) (by decide) (W := 0) (rm24 l Z a0 hw [] va (own_n f) (own_len cs_) kc (own_len ts_) (own_M (own_Lb ts_)) (own_n (f + cs_.length)) f cs_.length h0 n0 (Nat.le_trans Z0 (Keep.refl h0 []).1) V_ (own_nz hpos (by omega)) (own_nadd (by omega)) (own_crn hfl (by omega) (by omega) hpr)) (by decide) (by decide) (g := (mkF m 41 #[rv r0, iv (own_n f), iv (own_n (f + cs_.length)), iv (own_len ts_), iv (own_len cs_)] [(.int (own_len cs_)), (.int (own_n f)), (.ref va)])) rfl hml.symm (argsL := [(.ref va), (.int (own_n f)), (.int (own_len cs_))]) (rest := []) (lenOf pd32 rfl) rfl (Nat.le_of_eq rfl) (hb hby d21_41) rfl e15 (by decide) (by decide)
    obtain ⟨x17, y17, ky17, rfl, N17q, Kc17, hx17, hy17, Ex17, Fv17, Ey17, Fc17, Vy17⟩ := hQ17
    have N17 := Fr.app N13 N17q
    have K17 : Keep h0 T17.heap [] := (Keep.refl h0 []).trans Kc17 all0
    have sz_x17 : h0.size ≤ x17 := Nat.le_trans (Keep.refl h0 []).1 hx17
    have sz_y17 : h0.size ≤ y17 := Nat.le_trans (Keep.refl h0 []).1 hy17
    have hD17 : own_sf Z T17.heap x17 y17 ky17 cs_ := Or.inl ⟨Fc17, fun x q => hL x (by obtain ⟨i, hi⟩ := List.getElem?_of_mem q; exact List.mem_of_getElem? (hss i x hi).1), own_usL (fun j x q => (hss j x q).1) ▸ Vy17⟩
    have pre18 : ∀ t, Sx p e below T17 (mkF m 57 #[rv r0, iv (own_n f), iv (own_n (f + cs_.length)), iv (own_len ts_), iv (own_len cs_)] [(.ref x17)]) t → Sx p e below s₁ g₀ t := by
      intro t kt
      refine pre16 _ ?_
      refine st17 _ ?_
      show Sx p e below T17 (mkF m 44 #[rv r0, iv (own_n f), iv (own_n (f + cs_.length)), iv (own_len ts_), iv (own_len cs_)] [(.ref x17)]) _
      refine XS.goto X17.here hx rfl (pc0 := 44) (pc' := 57) rfl (hb hby d21_44) (by decide) (by decide) ?_
      exact kt
    obtain ⟨fs, hr, hrun, hended, hW, hsame⟩ := X17.leave (v := some (.ref x17)) (fun h => by rw [Bd.returns] at h; cases h)
    refine ⟨_, _, _, pre18 _ ?_, hrun, hended, ?_, ⟨_, rfl⟩, hW, hsame.mono (by decide) (by decide)⟩
    · show Steps p.tables e below (T17.setTop (mkF m 57 #[rv r0, iv (own_n f), iv (own_n (f + cs_.length)), iv (own_len ts_), iv (own_len cs_)] [(.ref x17)])) _
      jvm_step X17.here [X17.here.top, hx, (hb hby d21_57), X17.method', Bd.returns, Value.isRef, FieldType.isReference]
      first | (intro acts; rw [hr _ acts rfl rfl rfl]) | rw [hr _ _ rfl rfl rfl]
      exact Steps.refl _
    · show Q21s Z r0 va kc ts_ cs_ f cs fm h0 n0 _ T17.heap _
      exact ⟨x17, y17, ky17, rfl, N17, K17, sz_x17, sz_y17, Ex17, Fv17, Ey17, hD17⟩
  · have pre19 : ∀ t, Sx p e below T4 (mkF m 28 #[rv r0, iv (own_n f), iv (own_n (f + cs_.length)), iv (own_len ts_), iv (own_len cs_)] [(.ref r0)]) t → Sx p e below s₁ g₀ t := by
      intro t kt
      refine pre11 _ ?_
      refine XS.aloadN X4.here hx rfl (hb hby d21_27) rfl rfl ?_
      exact kt
    obtain ⟨_, T20, Lc20, X20, hQ20, st20⟩ := own_cV X4 hx hZ (y := Y26) hown (own_w hw 53 rfl) (own_w hw 54 rfl) (own_w hw 56 rfl) (own_w hw 55 rfl) (own_w hw 57 rfl) (own_w hw 13 rfl) (by decide) (W := 0) (rm12v1 l Z a0 hw [] r0 va cs h0 n0 (Nat.le_trans Z0 (Keep.refl h0 []).1) F_v Fc E_r0 (O0.keep (Keep.refl h0 []) all0) S_cs hcs) (by decide) (by decide) E_r0 (g := (mkF m 28 #[rv r0, iv (own_n f), iv (own_n (f + cs_.length)), iv (own_len ts_), iv (own_len cs_)] [(.ref r0)])) rfl hml.symm (argsL := []) (rest := []) (lenOf pd23 rfl) rfl (Nat.le_of_eq rfl) (hb hby d21_28) rfl hh4 (by decide) (by decide)
    obtain ⟨rfl, N20q, hh20⟩ := hQ20
    have N20 := Fr.app N4 N20q
    have pre21 : ∀ t, Sx p e below T20 (mkF m 48 #[rv r0, iv (own_n f), iv (own_n (f + cs_.length)), iv (own_len ts_), iv (own_len cs_)] [(.ref r0)]) t → Sx p e below s₁ g₀ t := by
      intro t kt
      refine pre19 _ ?_
      refine st20.trans ?_
      show Sx p e below T20 (mkF m 31 #[rv r0, iv (own_n f), iv (own_n (f + cs_.length)), iv (own_len ts_), iv (own_len cs_)] [(.int (0 : Int32))]) _
      refine XS.ifYes X20.here hx rfl (pc0 := 31) (pc' := 47) rfl (hb hby d21_31) rfl ((if0 _ _).trans (teq (by decide)).1) (by decide) (by decide) ?_
      refine XS.aloadN X20.here hx rfl (hb hby d21_47) rfl rfl ?_
      exact kt
    obtain ⟨T22, X22, e22, st22⟩ := getF X20 hx hZ hown (host := "") (Or.inl (own_w hw 37 rfl)) Via.refl hh20 F_v (g := (mkF m 48 #[rv r0, iv (own_n f), iv (own_n (f + cs_.length)), iv (own_len ts_), iv (own_len cs_)] [(.ref r0)])) rfl rfl (hb hby d21_48)
    have pre23 : ∀ t, Sx p e below T22 (mkF m 54 #[rv r0, iv (own_n f), iv (own_n (f + cs_.length)), iv (own_len ts_), iv (own_len cs_)] [(.int (own_len cs_)), (.int (own_n f)), (.ref va)]) t → Sx p e below s₁ g₀ t := by
      intro t kt
      refine pre21 _ ?_
      refine st22 _ ?_
      show Sx p e below T22 (mkF m 51 #[rv r0, iv (own_n f), iv (own_n (f + cs_.length)), iv (own_len ts_), iv (own_len cs_)] [(.ref va)]) _
      refine XS.iloadN X22.here hx rfl (hb hby d21_51) rfl ?_
      refine XS.iload X22.here hx rfl (hb hby d21_52) rfl ?_
      exact kt
    obtain ⟨_, T24, Lc24, X24, hQ24, st24⟩ := own_cS X22 hx hZ (y := Y43) hown (own_w hw 239 rfl) (own_w hw 240 rfl) (own_w hw 27 rfl) (own_w hw 241 rfl) (by decide) (W := 0) (rm53 l Z a0 hw [] va kc cs_ ts_ f cs fm h0 n0 (Nat.le_trans Z0 (Keep.refl h0 []).1) V_ hl5 hpos hss hts hfl hpr (O0.keep (Keep.refl h0 []) all0) S_cs hcs S_fm hr_fm S_ad S_hi S_lo) (by decide) (by decide) (g := (mkF m 54 #[rv r0, iv (own_n f), iv (own_n (f + cs_.length)), iv (own_len ts_), iv (own_len cs_)] [(.int (own_len cs_)), (.int (own_n f)), (.ref va)])) rfl hml.symm (argsL := [(.ref va), (.int (own_n f)), (.int (own_len cs_))]) (rest := []) (lenOf pd32 rfl) rfl (Nat.le_of_eq rfl) (hb hby d21_54) rfl e22 (by decide) (by decide)
    obtain ⟨x24, y24, ky24, rfl, N24q, Kc24, hx24, hy24, Ex24, Fv24, Ey24, hD24⟩ := hQ24
    have N24 := Fr.app N20 N24q
    have K24 : Keep h0 T24.heap [] := (Keep.refl h0 []).trans Kc24 all0
    have sz_x24 : h0.size ≤ x24 := Nat.le_trans (Keep.refl h0 []).1 hx24
    have sz_y24 : h0.size ≤ y24 := Nat.le_trans (Keep.refl h0 []).1 hy24
    have pre25 : ∀ t, Sx p e below T24 (mkF m 57 #[rv r0, iv (own_n f), iv (own_n (f + cs_.length)), iv (own_len ts_), iv (own_len cs_)] [(.ref x24)]) t → Sx p e below s₁ g₀ t := by
      intro t kt
      refine pre23 _ ?_
      refine st24 _ ?_
      exact kt
    obtain ⟨fs, hr, hrun, hended, hW, hsame⟩ := X24.leave (v := some (.ref x24)) (fun h => by rw [Bd.returns] at h; cases h)
    refine ⟨_, _, _, pre25 _ ?_, hrun, hended, ?_, ⟨_, rfl⟩, hW, hsame.mono (by decide) (by decide)⟩
    · show Steps p.tables e below (T24.setTop (mkF m 57 #[rv r0, iv (own_n f), iv (own_n (f + cs_.length)), iv (own_len ts_), iv (own_len cs_)] [(.ref x24)])) _
      jvm_step X24.here [X24.here.top, hx, (hb hby d21_57), X24.method', Bd.returns, Value.isRef, FieldType.isReference]
      first | (intro acts; rw [hr _ acts rfl rfl rfl]) | rw [hr _ _ rfl rfl rfl]
      exact Steps.refl _
    · show Q21s Z r0 va kc ts_ cs_ f cs fm h0 n0 _ T24.heap _
      exact ⟨x24, y24, ky24, rfl, N24, K24, sz_x24, sz_y24, Ex24, Fv24, Ey24, hD24⟩
abbrev D20 (q : Nat) (i : Instr) (k : Nat) : Prop := decode jdk_42_method_91_code q = .ok (i, k)
theorem d20_0 : D20 0 (.aload_n 0) 1 := by decide +kernel
theorem d20_1 : D20 1 (.iload_n 1) 1 := by decide +kernel
theorem d20_2 : D20 2 (.aload_n 0) 1 := by decide +kernel
theorem d20_3 : D20 3 (.invokevirtual 505) 3 := by decide +kernel
theorem pd33 : parseMethodDescriptor "(II)Ljava/lang/String;" = some ⟨[.int, .int], some (.object "java/lang/String")⟩ := by decide +kernel
theorem d20_6 : D20 6 (.invokevirtual 681) 3 := by decide +kernel
theorem d20_9 : D20 9 (.areturn) 1 := by decide +kernel
theorem ef_20s (m : MethodId) (x0 : Addr) (x1 : Int32) : entryFrame m #[(.ref x0), (.int x1)] 2 = mkF m 0 #[.val (.ref x0), .val (.int x1)] [] := by first | (simp [entryFrame, mkF, argsToLocals, Value.category]; done) | rfl
def Q20s (Z : State) (r0 : Addr) (va : Addr) (kc : ClassId) (ts_ : List Int32) (cs_ : List Int32) (f : Nat) (cs : Int32) (fm : Value) (h0 : Heap) (n0 : Nat) (v : Option Value) (h : Heap) (L : List Loc) : Prop := ∃ x y k, v = some (.ref x) ∧ Fr n0 L ∧ Keep h0 h [] ∧ h0.size ≤ x ∧ h0.size ≤ y ∧ Exa Z h x "java/lang/String" ∧ Fld Z h x "java/lang/String" "value" "[B" (.ref y) ∧ Exa Z h y "[B" ∧ own_sf Z h x y k cs_
abbrev R20s : Room := { frames := 8, cells := 3, slots := 19, locals := 157 }
theorem rm20s (l : Launch) (Z : State) (a0 : Array Value) (hw : ∀ d ∈ tables_1, d.before a0 Z = true) (ws : List Jvm.Cond) (r0 : Addr) (va : Addr) (kc : ClassId) (ts_ : List Int32) (cs_ : List Int32) (f : Nat) (cs : Int32) (fm : Value) (h0 : Heap) (n0 : Nat) (Z0 : n0 ≤ h0.size) (F_v : Fld Z h0 r0 "java/lang/String" "value" "[B" (.ref va)) (E_r0 : Exa Z h0 r0 "java/lang/String") (hD : own_sf Z h0 r0 va kc ts_) (hl5 : cs_.length ≤ 5) (hpos : 0 < cs_.length) (hss : ∀ j x, cs_[j]? = some x → ts_[f + j]? = some x ∧ own_ch x) (hts : ts_.length ≤ 5) (hfl : f + cs_.length ≤ ts_.length) (hpr : f = 0 → cs_.length < ts_.length) (hend : f + cs_.length = ts_.length) (O0 : Old Z n0 h0) (S_cs : Sta Z Z.heap "java/lang/String" "COMPACT_STRINGS" "Z" (.int cs)) (hcs : ¬ (cs = (0 : Int32))) (S_fm : Sta Z Z.heap "jdk/internal/util/Preconditions" "SIOOBE_FORMATTER" "Ljava/util/function/BiFunction;" fm) (hr_fm : fm.isRef = true) (S_ad : Sta Z Z.heap "java/lang/StringUTF16" "$assertionsDisabled" "Z" (.int (1 : Int32))) (S_hi : Sta Z Z.heap "java/lang/StringUTF16" "HI_BYTE_SHIFT" "I" (.int (0 : Int32))) (S_lo : Sta Z Z.heap "java/lang/StringUTF16" "LO_BYTE_SHIFT" "I" (.int (8 : Int32))) :
    MetFree l Y45 (head1 (Jvm.Cond.code Y45 jdk_42_method_91_code 2 (some (.object "java/lang/String")) :: ws) R20s) (fun a U => a = #[(.ref r0), (.int (own_n f))] ∧ Z.Warmed39 U.vm ∧ U.heap = h0) (fun _ _ _ _ _ => True) (fun _ U o U' => ∃ v L, o = .returned v ∧ Q20s Z r0 va kc ts_ cs_ f cs fm h0 n0 v U'.heap L ∧ FrameEnd U o U' L R20s.cells R20s.slots) := by
  refine own_start (C := "java/lang/String") (Q := Q20s Z r0 va kc ts_ cs_ f cs fm h0 n0) rfl (plainFor_of_name pn4) ?_
  intro p e s m below meth c s₁ g₀ hg₀ Bd hx hby hml hZ hown hnm X0 e0
  have N0 := Fr.nil n0
  have pre0 : ∀ t, Sx p e below s₁ (mkF m 0 #[rv r0, iv (own_n f)] []) t → Sx p e below s₁ g₀ t := fun t k => by subst hg₀; exact castTop (ef_20s m r0 (own_n f)) k
  have pre1 : ∀ t, Sx p e below s₁ (mkF m 3 #[rv r0, iv (own_n f)] [(.ref r0), (.int (own_n f)), (.ref r0)]) t → Sx p e below s₁ g₀ t := by
    intro t kt
    refine pre0 _ ?_
    refine XS.aloadN X0.here hx rfl (hb hby d20_0) rfl rfl ?_
    refine XS.iloadN X0.here hx rfl (hb hby d20_1) rfl ?_
    refine XS.aloadN X0.here hx rfl (hb hby d20_2) rfl rfl ?_
    exact kt
  obtain ⟨_, T2, Lc2, X2, hQ2, st2⟩ := own_cV X0 hx hZ (y := Y27) hown (own_w hw 58 rfl) (own_w hw 59 rfl) (own_w hw 61 rfl) (own_w hw 60 rfl) (own_w hw 62 rfl) (own_w hw 13 rfl) (by decide) (W := 2) (rm13s l Z a0 hw [] r0 va kc ts_ cs h0 n0 (Nat.le_trans Z0 (Keep.refl h0 []).1) F_v E_r0 hD hts (O0.keep (Keep.refl h0 []) all0) S_cs hcs) (by decide) (by decide) E_r0 (g := (mkF m 3 #[rv r0, iv (own_n f)] [(.ref r0), (.int (own_n f)), (.ref r0)])) rfl hml.symm (argsL := []) (rest := [(.int (own_n f)), (.ref r0)]) (lenOf pd27 rfl) rfl (Nat.le_of_eq rfl) (hb hby d20_3) rfl e0 (by decide) (by decide)
  obtain ⟨rfl, N2q, hh2⟩ := hQ2
  have N2 := Fr.app N0 N2q
  have pre3 : ∀ t, Sx p e below T2 (mkF m 6 #[rv r0, iv (own_n f)] [(.int (own_n (f + cs_.length))), (.int (own_n f)), (.ref r0)]) t → Sx p e below s₁ g₀ t := by
    intro t kt
    refine pre1 _ ?_
    refine st2.trans ?_
    show Sx p e below T2 (mkF m 6 #[rv r0, iv (own_n f)] [(.int (own_len ts_)), (.int (own_n f)), (.ref r0)]) _
    rw [show (own_len ts_) = (own_n (f + cs_.length)) from (by rw [hend]; rfl)]
    exact kt
  obtain ⟨_, T4, Lc4, X4, hQ4, st4⟩ := own_cV X2 hx hZ (y := Y44) hown (own_w hw 91 rfl) (own_w hw 92 rfl) (own_w hw 94 rfl) (own_w hw 93 rfl) (own_w hw 95 rfl) (own_w hw 13 rfl) (by decide) (W := 0) (rm21s l Z a0 hw [] r0 va kc ts_ cs_ f cs fm h0 n0 (Nat.le_trans Z0 (Keep.refl h0 []).1) F_v E_r0 hD hl5 hpos hss hts hfl hpr (O0.keep (Keep.refl h0 []) all0) S_cs hcs S_fm hr_fm S_ad S_hi S_lo) (by decide) (by decide) E_r0 (g := (mkF m 6 #[rv r0, iv (own_n f)] [(.int (own_n (f + cs_.length))), (.int (own_n f)), (.ref r0)])) rfl hml.symm (argsL := [(.int (own_n f)), (.int (own_n (f + cs_.length)))]) (rest := []) (lenOf pd33 rfl) rfl (Nat.le_of_eq rfl) (hb hby d20_6) rfl hh2 (by decide) (by decide)
  obtain ⟨x4, y4, ky4, rfl, N4q, Kc4, hx4, hy4, Ex4, Fv4, Ey4, hD4⟩ := hQ4
  have N4 := Fr.app N2 N4q
  have K4 : Keep h0 T4.heap [] := (Keep.refl h0 []).trans Kc4 all0
  have sz_x4 : h0.size ≤ x4 := Nat.le_trans (Keep.refl h0 []).1 hx4
  have sz_y4 : h0.size ≤ y4 := Nat.le_trans (Keep.refl h0 []).1 hy4
  have pre5 : ∀ t, Sx p e below T4 (mkF m 9 #[rv r0, iv (own_n f)] [(.ref x4)]) t → Sx p e below s₁ g₀ t := by
    intro t kt
    refine pre3 _ ?_
    refine st4.trans ?_
    exact kt
  obtain ⟨fs, hr, hrun, hended, hW, hsame⟩ := X4.leave (v := some (.ref x4)) (fun h => by rw [Bd.returns] at h; cases h)
  refine ⟨_, _, _, pre5 _ ?_, hrun, hended, ?_, ⟨_, rfl⟩, hW, hsame.mono (by decide) (by decide)⟩
  · show Steps p.tables e below (T4.setTop (mkF m 9 #[rv r0, iv (own_n f)] [(.ref x4)])) _
    jvm_step X4.here [X4.here.top, hx, (hb hby d20_9), X4.method', Bd.returns, Value.isRef, FieldType.isReference]
    first | (intro acts; rw [hr _ acts rfl rfl rfl]) | rw [hr _ _ rfl rfl rfl]
    exact Steps.refl _
  · show Q20s Z r0 va kc ts_ cs_ f cs fm h0 n0 _ T4.heap _
    exact ⟨x4, y4, ky4, rfl, N4, K4, sz_x4, sz_y4, Ex4, Fv4, Ey4, hD4⟩
abbrev D41 (q : Nat) (i : Instr) (k : Nat) : Prop := decode jdk_65_method_121_code q = .ok (i, k)
theorem d41_0 : D41 0 (.iload_n 1) 1 := by decide +kernel
theorem d41_1 : D41 1 (.aload_n 0) 1 := by decide +kernel
theorem d41_2 : D41 2 (.arraylength) 1 := by decide +kernel
theorem d41_3 : D41 3 (.if_icmp .ne 11) 3 := by decide +kernel
theorem d41_6 : D41 6 (.aload_n 0) 1 := by decide +kernel
theorem d41_7 : D41 7 (.invokevirtual 310) 3 := by decide +kernel
theorem d41_10 : D41 10 (.checkcast 311) 3 := by decide +kernel
theorem d41_13 : D41 13 (.areturn) 1 := by decide +kernel
theorem d41_14 : D41 14 (.iload_n 1) 1 := by decide +kernel
theorem d41_15 : D41 15 (.newarray .byte) 2 := by decide +kernel
theorem d41_17 : D41 17 (.astore_n 2) 1 := by decide +kernel
theorem d41_18 : D41 18 (.aload_n 0) 1 := by decide +kernel
theorem d41_19 : D41 19 (.iconst 0) 1 := by decide +kernel
theorem d41_20 : D41 20 (.aload_n 2) 1 := by decide +kernel
theorem d41_21 : D41 21 (.iconst 0) 1 := by decide +kernel
theorem d41_22 : D41 22 (.aload_n 0) 1 := by decide +kernel
theorem d41_23 : D41 23 (.arraylength) 1 := by decide +kernel
theorem d41_24 : D41 24 (.iload_n 1) 1 := by decide +kernel
theorem d41_25 : D41 25 (.invokestatic 304) 3 := by decide +kernel
theorem d41_28 : D41 28 (.invokestatic 150) 3 := by decide +kernel
theorem d41_31 : D41 31 (.aload_n 2) 1 := by decide +kernel
theorem d41_32 : D41 32 (.areturn) 1 := by decide +kernel
theorem ef_41 (m : MethodId) (x0 : Addr) (x1 : Int32) : entryFrame m #[(.ref x0), (.int x1)] 3 = mkF m 0 #[.val (.ref x0), .val (.int x1), .unset] [] := by first | (simp [entryFrame, mkF, argsToLocals, Value.category]; done) | rfl
def Q41 (Z : State) (r0 : Addr) (kc : ClassId) (z : Int32) (LL : List Int32) (h0 : Heap) (n0 : Nat) (v : Option Value) (h : Heap) (L : List Loc) : Prop := ∃ y k, v = some (.ref y) ∧ Fr n0 L ∧ Keep h0 h [] ∧ h0.size ≤ y ∧ Arv Z h y k .byte (own_len LL) (own_M LL) (.int (0 : Int32)) ∧ Exa Z h y "[B"
abbrev R41 : Room := { frames := 1, cells := 1, slots := 15, locals := 18 }
theorem rm41 (l : Launch) (Z : State) (a0 : Array Value) (hw : ∀ d ∈ tables_1, d.before a0 Z = true) (ws : List Jvm.Cond) (r0 : Addr) (kc : ClassId) (z : Int32) (LL : List Int32) (h0 : Heap) (n0 : Nat) (Z0 : n0 ≤ h0.size) (V_r0 : Arv Z h0 r0 kc .byte z (own_M LL) (.int (0 : Int32))) (E_r0 : Exa Z h0 r0 "[B") (hz : LL.length ≤ z.toNatClampNeg) (hL15 : LL.length ≤ 15) (hzn : ¬ (z < (0 : Int32))) :
    MetFree l Y46 (head1 (Jvm.Cond.code Y46 jdk_65_method_121_code 3 (some (.array .byte)) :: ws) R41) (fun a U => a = #[(.ref r0), (.int (own_len LL))] ∧ Z.Warmed39 U.vm ∧ U.heap = h0) (fun _ _ _ _ _ => True) (fun _ U o U' => ∃ v L, o = .returned v ∧ Q41 Z r0 kc z LL h0 n0 v U'.heap L ∧ FrameEnd U o U' L R41.cells R41.slots) := by
  refine own_start (C := "java/util/Arrays") (Q := Q41 Z r0 kc z LL h0 n0) rfl (plainFor_of_name pn28) ?_
  intro p e s m below meth c s₁ g₀ hg₀ Bd hx hby hml hZ hown hnm X0 e0
  have N0 := Fr.nil n0
  have pre0 : ∀ t, Sx p e below s₁ (mkF m 0 #[rv r0, iv (own_len LL), .unset] []) t → Sx p e below s₁ g₀ t := fun t k => by subst hg₀; exact castTop (ef_41 m r0 (own_len LL)) k
  obtain ⟨cl1, Ar1, -, S1, M1, -, -⟩ := id V_r0
  have pre2 : ∀ t, Sx p e below s₁ (mkF m 3 #[rv r0, iv (own_len LL), .unset] [(.int z), (.int (own_len LL))]) t → Sx p e below s₁ g₀ t := by
    intro t kt
    refine pre0 _ ?_
    refine XS.iloadN X0.here hx rfl (hb hby d41_0) rfl ?_
    refine XS.aloadN X0.here hx rfl (hb hby d41_1) rfl rfl ?_
    refine X0.arraylength hx (by rw [e0]; exact Ar1.1) (State.isArrayOf_alike hZ.alike Ar1.2.1) (g := (mkF m 2 #[rv r0, iv (own_len LL), .unset] [(.ref r0), (.int (own_len LL))])) rfl rfl (hb hby d41_2) _ ?_
    rw [len_of S1 M1]
    exact kt
  by_cases hc3 : (own_len LL) = z
  · have pre3 : ∀ t, Sx p e below s₁ (mkF m 7 #[rv r0, iv (own_len LL), .unset] [(.ref r0)]) t → Sx p e below s₁ g₀ t := by
      intro t kt
      refine pre2 _ ?_
      refine XS.icmpNo X0.here hx rfl (hb hby d41_3) rfl (teq hc3).2 ?_
      refine XS.aloadN X0.here hx rfl (hb hby d41_6) rfl rfl ?_
      exact kt
    obtain ⟨T5, h5, X5, e5, E5, A5, Ex5, st5⟩ := cloneH X0 hx hZ hown (own_w hw 196 rfl) (own_w hw 149 rfl) (own_w hw 153 rfl) (own_w hw 151 rfl) (own_w hw 152 rfl) (own_w hw 154 rfl) e0 (Arv.arh V_r0) E_r0 (g := (mkF m 7 #[rv r0, iv (own_len LL), .unset] [(.ref r0)])) rfl (by rw [hml]; rfl) rfl (hb hby d41_7) (by decide) (W := 0) (cap := 15) (by show 2 * 0 + _ ≤ _; exact Nat.le_of_eq rfl) (by decide) (by rw [← hc3, own_lenN LL (by omega)]; exact hL15) (by decide) (by decide)
    obtain ⟨b5, g5⟩ : ∃ z, z = h0.size := ⟨_, rfl⟩
    rw [← g5] at A5 Ex5 st5
    have g_b5 : n0 ≤ b5 := Nat.le_trans (Nat.le_trans Z0 (Keep.refl h0 []).1) (Nat.le_of_eq g5.symm)
    have sz_b5 : h0.size ≤ b5 := Nat.le_trans (Keep.refl h0 []).1 (Nat.le_of_eq g5.symm)
    have V_b5 : Arv Z h5 b5 kc .byte z (own_M LL) (.int (0 : Int32)) := A5
    have K5 : Keep h0 h5 [] := (Keep.refl h0 []).ext E5
    have pre6 : ∀ t, Sx p e below T5 (mkF m 10 #[rv r0, iv (own_len LL), .unset] [(.ref b5)]) t → Sx p e below s₁ g₀ t := by
      intro t kt
      refine pre3 _ ?_
      refine st5 _ ?_
      exact kt
    obtain ⟨T7, X7, e7, st7⟩ := castY X5 hx hZ hown (own_w hw 197 rfl) e5 (Ins.self Ex5) (g := (mkF m 10 #[rv r0, iv (own_len LL), .unset] [(.ref b5)])) rfl rfl (hb hby d41_10)
    have pre8 : ∀ t, Sx p e below T7 (mkF m 13 #[rv r0, iv (own_len LL), .unset] [(.ref b5)]) t → Sx p e below s₁ g₀ t := by
      intro t kt
      refine pre6 _ ?_
      refine st7 _ ?_
      exact kt
    obtain ⟨fs, hr, hrun, hended, hW, hsame⟩ := X7.leave (v := some (.ref b5)) (fun h => by rw [Bd.returns] at h; cases h)
    refine ⟨_, _, _, pre8 _ ?_, hrun, hended, ?_, ⟨_, rfl⟩, hW, hsame.mono (by decide) (by decide)⟩
    · show Steps p.tables e below (T7.setTop (mkF m 13 #[rv r0, iv (own_len LL), .unset] [(.ref b5)])) _
      jvm_step X7.here [X7.here.top, hx, (hb hby d41_13), X7.method', Bd.returns, Value.isRef, FieldType.isReference]
      first | (intro acts; rw [hr _ acts rfl rfl rfl]) | rw [hr _ _ rfl rfl rfl]
      exact Steps.refl _
    · show Q41 Z r0 kc z LL h0 n0 _ T7.heap _
      rw [e7]
      exact ⟨b5, kc, rfl, N0, K5, sz_b5, (by rw [hc3]; exact V_b5), Ex5⟩
  · have pre9 : ∀ t, Sx p e below s₁ (mkF m 15 #[rv r0, iv (own_len LL), .unset] [(.int (own_len LL))]) t → Sx p e below s₁ g₀ t := by
      intro t kt
      refine pre2 _ ?_
      refine XS.icmpYes X0.here hx rfl (pc0 := 3) (pc' := 14) rfl (hb hby d41_3) rfl (feq hc3).2 (by decide) (by decide) ?_
      refine XS.iloadN X0.here hx rfl (hb hby d41_14) rfl ?_
      exact kt
    obtain ⟨T10, h10, k10, X10, e10, E10, A10, Ex10, st10⟩ := newPE X0 hx hZ (own_w hw 7 rfl) e0 (g := (mkF m 15 #[rv r0, iv (own_len LL), .unset] [(.int (own_len LL))])) rfl (hb hby d41_15) rfl (own_lenP LL (by omega)) (cap := 15) (by rw [own_lenN LL (by omega)]; exact hL15) (by decide) (by decide) (by decide) (ad := "[B") rfl
    obtain ⟨b10, g10⟩ : ∃ z, z = h0.size := ⟨_, rfl⟩
    rw [← g10] at A10 Ex10 st10
    have g_b10 : n0 ≤ b10 := Nat.le_trans (Nat.le_trans Z0 (Keep.refl h0 []).1) (Nat.le_of_eq g10.symm)
    have sz_b10 : h0.size ≤ b10 := Nat.le_trans (Keep.refl h0 []).1 (Nat.le_of_eq g10.symm)
    have V_b10 : Arv Z h10 b10 k10 .byte (own_len LL) [] (.int (0 : Int32)) := (Arv.new A10 (own_lenP LL (by omega)))
    have K10 : Keep h0 h10 [] := (Keep.refl h0 []).ext E10
    obtain ⟨cl11, Ar11, -, S11, M11, -, -⟩ := id (V_r0.ext E10)
    have pre12 : ∀ t, Sx p e below T10 (mkF m 25 #[rv r0, iv (own_len LL), rv b10] [(.int (own_len LL)), (.int z), (.int (0 : Int32)), (.ref b10), (.int (0 : Int32)), (.ref r0)]) t → Sx p e below s₁ g₀ t := by
      intro t kt
      refine pre9 _ ?_
      refine st10 _ ?_
      show Sx p e below T10 (mkF m 17 #[rv r0, iv (own_len LL), .unset] [(.ref b10)]) _
      refine XS.astoreN X10.here hx rfl (hb hby d41_17) rfl rfl (l' := #[rv r0, iv (own_len LL), rv b10]) rfl ?_
      refine XS.aloadN X10.here hx rfl (hb hby d41_18) rfl rfl ?_
      refine XS.iconst X10.here hx rfl (hb hby d41_19) ?_
      refine XS.aloadN X10.here hx rfl (hb hby d41_20) rfl rfl ?_
      refine XS.iconst X10.here hx rfl (hb hby d41_21) ?_
      refine XS.aloadN X10.here hx rfl (hb hby d41_22) rfl rfl ?_
      refine X10.arraylength hx (by rw [e10]; exact Ar11.1) (State.isArrayOf_alike hZ.alike Ar11.2.1) (g := (mkF m 23 #[rv r0, iv (own_len LL), rv b10] [(.ref r0), (.int (0 : Int32)), (.ref b10), (.int (0 : Int32)), (.ref r0)])) rfl rfl (hb hby d41_23) _ ?_
      rw [len_of S11 M11]
      show Sx p e below T10 (mkF m 24 #[rv r0, iv (own_len LL), rv b10] [(.int z), (.int (0 : Int32)), (.ref b10), (.int (0 : Int32)), (.ref r0)]) _
      refine XS.iloadN X10.here hx rfl (hb hby d41_24) rfl ?_
      exact kt
    obtain ⟨_, T13, Lc13, X13, hQ13, st13⟩ := own_cS X10 hx hZ (y := Y0) hown (own_w hw 118 rfl) (own_w hw 80 rfl) (own_w hw 77 rfl) (own_w hw 81 rfl) (by decide) (W := 4) (rm18 l Z a0 hw [] z (own_len LL) (own_len LL) h10 n0 (Nat.le_trans Z0 K10.1) (own_minz hz (by omega) hzn)) (by decide) (by decide) (g := (mkF m 25 #[rv r0, iv (own_len LL), rv b10] [(.int (own_len LL)), (.int z), (.int (0 : Int32)), (.ref b10), (.int (0 : Int32)), (.ref r0)])) rfl hml.symm (argsL := [(.int z), (.int (own_len LL))]) (rest := [(.int (0 : Int32)), (.ref b10), (.int (0 : Int32)), (.ref r0)]) (lenOf pd25 rfl) rfl (Nat.le_of_eq rfl) (hb hby d41_25) rfl e10 (by decide) (by decide)
    obtain ⟨rfl, N13q, hh13⟩ := hQ13
    have N13 := Fr.app N0 N13q
    have pre14 : ∀ t, Sx p e below T13 (mkF m 28 #[rv r0, iv (own_len LL), rv b10] [(.int (own_len LL)), (.int (0 : Int32)), (.ref b10), (.int (0 : Int32)), (.ref r0)]) t → Sx p e below s₁ g₀ t := by
      intro t kt
      refine pre12 _ ?_
      refine st13 _ ?_
      exact kt
    obtain ⟨T15, h15, L15, X15, e15, N15, Kc15, Vc15, st15⟩ := cpA X13 hx hZ hown (own_w hw 119 rfl) (own_w hw 122 rfl) (own_w hw 120 rfl) (own_w hw 121 rfl) hh13 (V_r0.ext E10) (V_b10.pad (pad_rep [] (.int (0 : Int32)) LL.length)) (Or.inl ⟨rfl, rfl⟩) (by decide) (by decide) (own_lenP LL (by omega)) (own_h4z hz (by omega)) (own_h5 _) rfl (own_hl (own_lenN LL (by omega))) N13 g_b10 (g := (mkF m 28 #[rv r0, iv (own_len LL), rv b10] [(.int (own_len LL)), (.int (0 : Int32)), (.ref b10), (.int (0 : Int32)), (.ref r0)])) rfl (by rw [hml]; rfl) rfl (hb hby d41_28) (by decide) (W := 0) (by show 2 * 0 + _ ≤ _; exact Nat.le_of_eq rfl) (by decide)
    have K15 : Keep h0 h15 [] := K10.trans Kc15 (allS (Or.inr sz_b10) all0)
    have V15 : Arv Z h15 b10 k10 .byte (own_len LL) (own_M LL) (.int (0 : Int32)) := (own_usM LL) ▸ (own_cpeq (own_M LL) 0 LL.length (0 : Int32) (own_len LL) (own_lenN LL (by omega)) (by decide)) ▸ Vc15
    have pre16 : ∀ t, Sx p e below T15 (mkF m 32 #[rv r0, iv (own_len LL), rv b10] [(.ref b10)]) t → Sx p e below s₁ g₀ t := by
      intro t kt
      refine pre14 _ ?_
      refine st15 _ ?_
      show Sx p e below T15 (mkF m 31 #[rv r0, iv (own_len LL), rv b10] []) _
      refine XS.aloadN X15.here hx rfl (hb hby d41_31) rfl rfl ?_
      exact kt
    obtain ⟨fs, hr, hrun, hended, hW, hsame⟩ := X15.leave (v := some (.ref b10)) (fun h => by rw [Bd.returns] at h; cases h)
    refine ⟨_, _, _, pre16 _ ?_, hrun, hended, ?_, ⟨_, rfl⟩, hW, hsame.mono (by decide) (by decide)⟩
    · show Steps p.tables e below (T15.setTop (mkF m 32 #[rv r0, iv (own_len LL), rv b10] [(.ref b10)])) _
      jvm_step X15.here [X15.here.top, hx, (hb hby d41_32), X15.method', Bd.returns, Value.isRef, FieldType.isReference]
      first | (intro acts; rw [hr _ acts rfl rfl rfl]) | rw [hr _ _ rfl rfl rfl]
      exact Steps.refl _
    · show Q41 Z r0 kc z LL h0 n0 _ T15.heap _
      rw [e15]
      exact ⟨b10, k10, rfl, N15, K15, sz_b10, V15, (Ex10.keep Kc15)⟩
abbrev D33 (q : Nat) (i : Instr) (k : Nat) : Prop := decode jdk_123_method_3_code q = .ok (i, k)
theorem d33_7 : D33 7 (.iload 4) 2 := by decide +kernel
theorem d33_9 : D33 9 (.iload_n 3) 1 := by decide +kernel
theorem d33_10 : D33 10 (.if_icmp .ge 21) 3 := by decide +kernel
theorem d33_13 : D33 13 (.aload_n 0) 1 := by decide +kernel
theorem d33_14 : D33 14 (.iload 4) 2 := by decide +kernel
theorem d33_16 : D33 16 (.baload) 1 := by decide +kernel
theorem d33_17 : D33 17 (.ifCond .ge 8) 3 := by decide +kernel
theorem d33_25 : D33 25 (.iinc 4 1) 3 := by decide +kernel
theorem d33_28 : D33 28 (.goto (-21)) 3 := by decide +kernel
theorem own_t33 {p : Program} {l : Launch} {e : Env} {s : State} {m : MethodId} {args : Array Value} {below : List Frame} {meth : Method} {c : Code} {T0 : State} {locs : List Loc} {Z : State} {a0 : Array Value} {h0 : Heap} {n0 : Nat} (r0 : Addr) (i : Nat) (xx : Int32) (kc : ClassId) (cs_ : List Int32)
    (X0 : Stand p l e ({ frames := 0, cells := 0, slots := 0, locals := 0 } : Room) s m args below meth c T0 locs 0 0) (hx : p.tables.exec = Jvm.exec) (hZ : Z.Warmed39 s.vm) (hw : ∀ d ∈ tables_1, d.before a0 Z = true) (hby : c.code = jdk_123_method_3_code) (hml : c.maxLocals = 5) (hown : s.vm.findClass "java/lang/StringCoding" = some m.cls) (e0 : T0.heap = h0) (Z0 : n0 ≤ h0.size) (N0 : Fr n0 locs) (V_r0 : Arv Z h0 r0 kc .byte (own_len cs_) (own_M (own_Lb cs_)) (.int (0 : Int32))) (hxx : cs_[i]? = some xx) (hi : i < cs_.length) (hl5 : cs_.length ≤ 5) (hnn : ¬ ((xx.toInt8.toInt32) < (0 : Int32))) :
    ∃ (T' : State) (h' : Heap) (Ls : List Loc), Stand p l e ({ frames := 0, cells := 0, slots := 0, locals := 0 } : Room) s m args below meth c T' Ls 0 0 ∧ T'.heap = h' ∧ Fr n0 Ls ∧ Keep h0 h' [] ∧ h' = h0 ∧ ∀ t, Steps p.tables e below (T'.setTop (mkF m 7 #[.val (.ref r0), .val (.int (0 : Int32)), .val (.int (own_len cs_)), .val (.int (own_len cs_)), .val (.int (own_n (i + 1)))] [])) t → Steps p.tables e below (T0.setTop (mkF m 7 #[.val (.ref r0), .val (.int (0 : Int32)), .val (.int (own_len cs_)), .val (.int (own_len cs_)), .val (.int (own_n i))] [])) t := by
  have pre0 : ∀ t, Steps p.tables e below (T0.setTop (mkF m 7 #[rv r0, iv (0 : Int32), iv (own_len cs_), iv (own_len cs_), iv (own_n i)] [])) t → Steps p.tables e below (T0.setTop (mkF m 7 #[rv r0, iv (0 : Int32), iv (own_len cs_), iv (own_len cs_), iv (own_n i)] [])) t := fun _ k => k
  have pre2 : ∀ t, Sx p e below T0 (mkF m 10 #[rv r0, iv (0 : Int32), iv (own_len cs_), iv (own_len cs_), iv (own_n i)] [(.int (own_len cs_)), (.int (own_n i))]) t → Steps p.tables e below (T0.setTop (mkF m 7 #[rv r0, iv (0 : Int32), iv (own_len cs_), iv (own_len cs_), iv (own_n i)] [])) t := by
    intro t kt
    refine pre0 _ ?_
    refine XS.iload X0.here hx rfl (hb hby d33_7) rfl ?_
    refine XS.iloadN X0.here hx rfl (hb hby d33_9) rfl ?_
    exact kt
  have hc10_1 : (own_n i) < (own_len cs_) := (own_nlt hi (by omega))
  obtain ⟨cl3, Ar3, q3, S3, M3, H3, G3⟩ := id V_r0
  have hin3 : ¬ ((own_n i) < 0 ∨ cl3.slots.size ≤ ((own_n i)).toNatClampNeg) := inb_of S3 ⟨own_nP (by omega), own_nlt hi (by omega)⟩
  have hat3 : cl3.slots[((own_n i)).toNatClampNeg]? = some (.int (xx.toInt8.toInt32)) := H3.at hin3 (own_Mat (own_Lbat hxx) (by omega))
  have pre5 : ∀ t, Sx p e below T0 (mkF m 17 #[rv r0, iv (0 : Int32), iv (own_len cs_), iv (own_len cs_), iv (own_n i)] [(.int (xx.toInt8.toInt32))]) t → Steps p.tables e below (T0.setTop (mkF m 7 #[rv r0, iv (0 : Int32), iv (own_len cs_), iv (own_len cs_), iv (own_n i)] [])) t := by
    intro t kt
    refine pre2 _ ?_
    refine XS.icmpNo X0.here hx rfl (hb hby d33_10) rfl (tlt hc10_1).2.1 ?_
    refine XS.aloadN X0.here hx rfl (hb hby d33_13) rfl rfl ?_
    refine XS.iload X0.here hx rfl (hb hby d33_14) rfl ?_
    refine X0.baloadBytes hx (j := (own_n i)) (v := (.int (xx.toInt8.toInt32))) (by rw [e0]; exact Ar3.1) (State.isArrayOf_alike hZ.alike Ar3.2.1) Ar3.2.2 hin3 hat3 (g := (mkF m 16 #[rv r0, iv (0 : Int32), iv (own_len cs_), iv (own_len cs_), iv (own_n i)] [(.int (own_n i)), (.ref r0)])) rfl rfl (hb hby d33_16) _ ?_
    exact kt
  have hc17_4 : ¬ ((xx.toInt8.toInt32) < (0 : Int32)) := hnn
  have pre6 : ∀ t, Sx p e below T0 (mkF m 7 #[rv r0, iv (0 : Int32), iv (own_len cs_), iv (own_len cs_), iv (own_n (i + 1))] []) t → Steps p.tables e below (T0.setTop (mkF m 7 #[rv r0, iv (0 : Int32), iv (own_len cs_), iv (own_len cs_), iv (own_n i)] [])) t := by
    intro t kt
    refine pre5 _ ?_
    refine XS.ifYes X0.here hx rfl (pc0 := 17) (pc' := 25) rfl (hb hby d33_17) rfl ((if0 _ _).trans (flt hc17_4).2.1) (by decide) (by decide) ?_
    refine XS.iinc X0.here hx rfl (hb hby d33_25) rfl (l' := #[rv r0, iv (0 : Int32), iv (own_len cs_), iv (own_len cs_), iv ((own_n i) + (1 : Int32))]) rfl ?_
    show Sx p e below T0 (mkF m 28 #[rv r0, iv (0 : Int32), iv (own_len cs_), iv (own_len cs_), iv ((own_n i) + (1 : Int32))] []) _
    rw [show ((own_n i) + (1 : Int32)) = (own_n (i + 1)) from (own_nS (by omega))]
    show Sx p e below T0 (mkF m 28 #[rv r0, iv (0 : Int32), iv (own_len cs_), iv (own_len cs_), iv (own_n (i + 1))] []) _
    refine XS.goto X0.here hx rfl (pc0 := 28) (pc' := 7) rfl (hb hby d33_28) (by decide) (by decide) ?_
    exact kt
  exact ⟨T0, h0, _, X0, e0, N0, (Keep.refl h0 []), rfl, pre6⟩
theorem pn34 : plainName "java/lang/StringCoding" = true := by first | (simp [plainName, overriddenIn]; done) | decide +kernel
theorem d33_0 : D33 0 (.iload_n 1) 1 := by decide +kernel
theorem d33_1 : D33 1 (.iload_n 2) 1 := by decide +kernel
theorem d33_2 : D33 2 (.iadd) 1 := by decide +kernel
theorem d33_3 : D33 3 (.istore_n 3) 1 := by decide +kernel
theorem d33_4 : D33 4 (.iload_n 1) 1 := by decide +kernel
theorem d33_5 : D33 5 (.istore 4) 2 := by decide +kernel
theorem d33_31 : D33 31 (.iload_n 2) 1 := by decide +kernel
theorem d33_32 : D33 32 (.ireturn) 1 := by decide +kernel
theorem d33_20 : D33 20 (.iload 4) 2 := by decide +kernel
theorem d33_22 : D33 22 (.iload_n 1) 1 := by decide +kernel
theorem d33_23 : D33 23 (.isub) 1 := by decide +kernel
theorem d33_24 : D33 24 (.ireturn) 1 := by decide +kernel
theorem ef_33 (m : MethodId) (x0 : Addr) (x1 : Int32) (x2 : Int32) : entryFrame m #[(.ref x0), (.int x1), (.int x2)] 5 = mkF m 0 #[.val (.ref x0), .val (.int x1), .val (.int x2), .unset, .unset] [] := by first | (simp [entryFrame, mkF, argsToLocals, Value.category]; done) | rfl
def Q33 (Z : State) (r0 : Addr) (kc : ClassId) (cs_ : List Int32) (h0 : Heap) (n0 : Nat) (v : Option Value) (h : Heap) (L : List Loc) : Prop := ∃ r, v = some (.int r) ∧ Fr n0 L ∧ h = h0 ∧ ((r = own_len cs_ ∧ ∀ x ∈ cs_, ¬ ((x.toInt8.toInt32) < (0 : Int32))) ∨ (∃ j, r = own_n j ∧ j < cs_.length))
abbrev R33 : Room := { frames := 0, cells := 0, slots := 0, locals := 0 }
theorem rm33 (l : Launch) (Z : State) (a0 : Array Value) (hw : ∀ d ∈ tables_1, d.before a0 Z = true) (ws : List Jvm.Cond) (r0 : Addr) (kc : ClassId) (cs_ : List Int32) (h0 : Heap) (n0 : Nat) (Z0 : n0 ≤ h0.size) (V_r0 : Arv Z h0 r0 kc .byte (own_len cs_) (own_M (own_Lb cs_)) (.int (0 : Int32))) (hl5 : cs_.length ≤ 5) :
    MetFree l Y47 (head1 (Jvm.Cond.code Y47 jdk_123_method_3_code 5 (some .int) :: ws) R33) (fun a U => a = #[(.ref r0), (.int (0 : Int32)), (.int (own_len cs_))] ∧ Z.Warmed39 U.vm ∧ U.heap = h0) (fun _ _ _ _ _ => True) (fun _ U o U' => ∃ v L, o = .returned v ∧ Q33 Z r0 kc cs_ h0 n0 v U'.heap L ∧ FrameEnd U o U' L R33.cells R33.slots) := by
  refine own_start (C := "java/lang/StringCoding") (Q := Q33 Z r0 kc cs_ h0 n0) rfl (plainFor_of_name pn34) ?_
  intro p e s m below meth c s₁ g₀ hg₀ Bd hx hby hml hZ hown hnm X0 e0
  have N0 := Fr.nil n0
  have pre0 : ∀ t, Sx p e below s₁ (mkF m 0 #[rv r0, iv (0 : Int32), iv (own_len cs_), .unset, .unset] []) t → Sx p e below s₁ g₀ t := fun t k => by subst hg₀; exact castTop (ef_33 m r0 (0 : Int32) (own_len cs_)) k
  have pre1 : ∀ t, Sx p e below s₁ (mkF m 7 #[rv r0, iv (0 : Int32), iv (own_len cs_), iv (own_len cs_), iv (0 : Int32)] []) t → Sx p e below s₁ g₀ t := by
    intro t kt
    refine pre0 _ ?_
    refine XS.iloadN X0.here hx rfl (hb hby d33_0) rfl ?_
    refine XS.iloadN X0.here hx rfl (hb hby d33_1) rfl ?_
    refine XS.iadd X0.here hx rfl (hb hby d33_2) rfl ?_
    show Sx p e below s₁ (mkF m 3 #[rv r0, iv (0 : Int32), iv (own_len cs_), .unset, .unset] [(.int ((0 : Int32) + (own_len cs_)))]) _
    rw [show ((0 : Int32) + (own_len cs_)) = (own_len cs_) from (Int32.zero_add _)]
    show Sx p e below s₁ (mkF m 3 #[rv r0, iv (0 : Int32), iv (own_len cs_), .unset, .unset] [(.int (own_len cs_))]) _
    refine XS.istoreN X0.here hx rfl (hb hby d33_3) rfl (l' := #[rv r0, iv (0 : Int32), iv (own_len cs_), iv (own_len cs_), .unset]) rfl ?_
    refine XS.iloadN X0.here hx rfl (hb hby d33_4) rfl ?_
    refine XS.istore X0.here hx rfl (hb hby d33_5) rfl (l' := #[rv r0, iv (0 : Int32), iv (own_len cs_), iv (own_len cs_), iv (0 : Int32)]) rfl ?_
    exact kt
  obtain ⟨j, hj1, hj2, hj3⟩ := own_first (fun x => (x.toInt8.toInt32) < (0 : Int32)) cs_
  obtain ⟨T2, h2, L2, ⟨X2, e2, N2, zz2, Va2, hq2⟩, Kl2, st2⟩ := own_iter (tb := p.tables) (e := e) (below := below) (F := fun i => mkF m 7 #[.val (.ref r0), .val (.int (0 : Int32)), .val (.int (own_len cs_)), .val (.int (own_len cs_)), .val (.int (own_n i))] []) (Inv := fun i T h Ls => Stand p l e R33 s m #[(.ref r0), (.int (0 : Int32)), (.int (own_len cs_))] below meth c T Ls 0 0 ∧ T.heap = h ∧ Fr n0 Ls ∧ n0 ≤ h.size ∧ Arv Z h r0 kc .byte (own_len cs_) (own_M (own_Lb cs_)) (.int (0 : Int32)) ∧ h = h0) (ws := []) (n := j) (fun i T h Ls hi ⟨X, e1, N1, z1, Va, hq⟩ => by
      obtain ⟨T', h', L', X', e', N', K', hq', s'⟩ := own_t33 r0 i (cs_.getD i (0 : Int32)) kc cs_ X hx hZ hw hby hml hown e1 z1 N1 Va (own_get (by omega)) (by omega) hl5 (hj2 i _ hi (own_get (by omega)))
      exact ⟨T', h', L', ⟨X', e', N', Nat.le_trans z1 K'.1, hq' ▸ Va, hq'.trans hq⟩, K', s'⟩) (j) 0 s₁ h0 _ (Nat.zero_add _) ⟨X0, e0, N0, Nat.le_trans Z0 (Keep.refl h0 []).1, V_r0, rfl⟩
  have K2 : Keep h0 h2 [] := (Keep.refl h0 []).trans Kl2 all0
  have pre3 : ∀ t, Sx p e below T2 (mkF m 7 #[rv r0, iv (0 : Int32), iv (own_len cs_), iv (own_len cs_), iv (own_n j)] []) t → Sx p e below s₁ g₀ t := by
    intro t kt
    refine pre1 _ ?_
    refine st2 _ ?_
    exact kt
  rcases hj3 with hj3 | ⟨x, hx1, hx2⟩
  · have pre5 : ∀ t, Sx p e below T2 (mkF m 10 #[rv r0, iv (0 : Int32), iv (own_len cs_), iv (own_len cs_), iv (own_n j)] [(.int (own_len cs_)), (.int (own_n j))]) t → Sx p e below s₁ g₀ t := by
      intro t kt
      refine pre3 _ ?_
      refine XS.iload X2.here hx rfl (hb hby d33_7) rfl ?_
      refine XS.iloadN X2.here hx rfl (hb hby d33_9) rfl ?_
      exact kt
    have hc10_4 : ¬ ((own_n j) < (own_len cs_)) := (own_nge (by omega) (by omega))
    have pre6 : ∀ t, Sx p e below T2 (mkF m 32 #[rv r0, iv (0 : Int32), iv (own_len cs_), iv (own_len cs_), iv (own_n j)] [(.int (own_len cs_))]) t → Sx p e below s₁ g₀ t := by
      intro t kt
      refine pre5 _ ?_
      refine XS.icmpYes X2.here hx rfl (pc0 := 10) (pc' := 31) rfl (hb hby d33_10) rfl (flt hc10_4).2.1 (by decide) (by decide) ?_
      refine XS.iloadN X2.here hx rfl (hb hby d33_31) rfl ?_
      exact kt
    obtain ⟨fs, hr, hrun, hended, hW, hsame⟩ := X2.leave (v := some (.int (own_len cs_))) (fun h => by rw [Bd.returns] at h; cases h)
    refine ⟨_, _, _, pre6 _ ?_, hrun, hended, ?_, ⟨_, rfl⟩, hW, hsame.mono (by decide) (by decide)⟩
    · show Steps p.tables e below (T2.setTop (mkF m 32 #[rv r0, iv (0 : Int32), iv (own_len cs_), iv (own_len cs_), iv (own_n j)] [(.int (own_len cs_))])) _
      exact retI X2 hx Bd.returns (hb hby d33_32) hr
    · show Q33 Z r0 kc cs_ h0 n0 _ T2.heap _
      rw [e2]
      exact ⟨_, rfl, N2, hq2, Or.inl ⟨rfl, own_all_of (fun i x h1 h2 => hj2 i x (by omega) h2)⟩⟩
  · have pre8 : ∀ t, Sx p e below T2 (mkF m 10 #[rv r0, iv (0 : Int32), iv (own_len cs_), iv (own_len cs_), iv (own_n j)] [(.int (own_len cs_)), (.int (own_n j))]) t → Sx p e below s₁ g₀ t := by
      intro t kt
      refine pre3 _ ?_
      refine XS.iload X2.here hx rfl (hb hby d33_7) rfl ?_
      refine XS.iloadN X2.here hx rfl (hb hby d33_9) rfl ?_
      exact kt
    have hc10_7 : (own_n j) < (own_len cs_) := (own_nlt (List.getElem?_eq_some_iff.mp hx1).1 (by omega))
    obtain ⟨cl9, Ar9, q9, S9, M9, H9, G9⟩ := id Va2
    have hin9 : ¬ ((own_n j) < 0 ∨ cl9.slots.size ≤ ((own_n j)).toNatClampNeg) := inb_of S9 ⟨own_nP (by omega), own_nlt (List.getElem?_eq_some_iff.mp hx1).1 (by omega)⟩
    have hat9 : cl9.slots[((own_n j)).toNatClampNeg]? = some (.int (x.toInt8.toInt32)) := H9.at hin9 (own_Mat (own_Lbat hx1) (by omega))
    have pre11 : ∀ t, Sx p e below T2 (mkF m 17 #[rv r0, iv (0 : Int32), iv (own_len cs_), iv (own_len cs_), iv (own_n j)] [(.int (x.toInt8.toInt32))]) t → Sx p e below s₁ g₀ t := by
      intro t kt
      refine pre8 _ ?_
      refine XS.icmpNo X2.here hx rfl (hb hby d33_10) rfl (tlt hc10_7).2.1 ?_
      refine XS.aloadN X2.here hx rfl (hb hby d33_13) rfl rfl ?_
      refine XS.iload X2.here hx rfl (hb hby d33_14) rfl ?_
      refine X2.baloadBytes hx (j := (own_n j)) (v := (.int (x.toInt8.toInt32))) (by rw [e2]; exact Ar9.1) (State.isArrayOf_alike hZ.alike Ar9.2.1) Ar9.2.2 hin9 hat9 (g := (mkF m 16 #[rv r0, iv (0 : Int32), iv (own_len cs_), iv (own_len cs_), iv (own_n j)] [(.int (own_n j)), (.ref r0)])) rfl rfl (hb hby d33_16) _ ?_
      exact kt
    have hc17_10 : (x.toInt8.toInt32) < (0 : Int32) := hx2
    have pre12 : ∀ t, Sx p e below T2 (mkF m 24 #[rv r0, iv (0 : Int32), iv (own_len cs_), iv (own_len cs_), iv (own_n j)] [(.int (own_n j))]) t → Sx p e below s₁ g₀ t := by
      intro t kt
      refine pre11 _ ?_
      refine XS.ifNo X2.here hx rfl (hb hby d33_17) rfl ((if0 _ _).trans (tlt hc17_10).2.1) ?_
      refine XS.iload X2.here hx rfl (hb hby d33_20) rfl ?_
      refine XS.iloadN X2.here hx rfl (hb hby d33_22) rfl ?_
      refine XS.isub X2.here hx rfl (hb hby d33_23) rfl ?_
      show Sx p e below T2 (mkF m 24 #[rv r0, iv (0 : Int32), iv (own_len cs_), iv (own_len cs_), iv (own_n j)] [(.int ((own_n j) - (0 : Int32)))]) _
      rw [show ((own_n j) - (0 : Int32)) = (own_n j) from (Int32.sub_zero _)]
      exact kt
    obtain ⟨fs, hr, hrun, hended, hW, hsame⟩ := X2.leave (v := some (.int (own_n j))) (fun h => by rw [Bd.returns] at h; cases h)
    refine ⟨_, _, _, pre12 _ ?_, hrun, hended, ?_, ⟨_, rfl⟩, hW, hsame.mono (by decide) (by decide)⟩
    · show Steps p.tables e below (T2.setTop (mkF m 24 #[rv r0, iv (0 : Int32), iv (own_len cs_), iv (own_len cs_), iv (own_n j)] [(.int (own_n j))])) _
      exact retI X2 hx Bd.returns (hb hby d33_24) hr
    · show Q33 Z r0 kc cs_ h0 n0 _ T2.heap _
      rw [e2]
      exact ⟨_, rfl, N2, hq2, Or.inr ⟨j, rfl, (List.getElem?_eq_some_iff.mp hx1).1⟩⟩
abbrev D32 (q : Nat) (i : Instr) (k : Nat) : Prop := decode jdk_123_method_2_code q = .ok (i, k)
theorem d32_0 : D32 0 (.aload_n 0) 1 := by decide +kernel
theorem d32_1 : D32 1 (.iload_n 1) 1 := by decide +kernel
theorem d32_2 : D32 2 (.iload_n 2) 1 := by decide +kernel
theorem pd35 : parseMethodDescriptor "([BII)I" = some ⟨[(.array .byte), .int, .int], some .int⟩ := by decide +kernel
theorem d32_3 : D32 3 (.invokestatic 7) 3 := by decide +kernel
theorem d32_6 : D32 6 (.iload_n 2) 1 := by decide +kernel
theorem d32_7 : D32 7 (.if_icmp .eq 7) 3 := by decide +kernel
theorem d32_14 : D32 14 (.iconst 0) 1 := by decide +kernel
theorem d32_15 : D32 15 (.ireturn) 1 := by decide +kernel
theorem d32_10 : D32 10 (.iconst 1) 1 := by decide +kernel
theorem d32_11 : D32 11 (.goto 4) 3 := by decide +kernel
theorem ef_32 (m : MethodId) (x0 : Addr) (x1 : Int32) (x2 : Int32) : entryFrame m #[(.ref x0), (.int x1), (.int x2)] 3 = mkF m 0 #[.val (.ref x0), .val (.int x1), .val (.int x2)] [] := by first | (simp [entryFrame, mkF, argsToLocals, Value.category]; done) | rfl
def Q32 (Z : State) (r0 : Addr) (kc : ClassId) (cs_ : List Int32) (h0 : Heap) (n0 : Nat) (v : Option Value) (h : Heap) (L : List Loc) : Prop := ∃ w, v = some (.int w) ∧ Fr n0 L ∧ h = h0 ∧ ((w = (0 : Int32) ∧ ∀ x ∈ cs_, ¬ ((x.toInt8.toInt32) < (0 : Int32))) ∨ w = (1 : Int32))
abbrev R32 : Room := { frames := 1, cells := 0, slots := 0, locals := 16 }
theorem rm32 (l : Launch) (Z : State) (a0 : Array Value) (hw : ∀ d ∈ tables_1, d.before a0 Z = true) (ws : List Jvm.Cond) (r0 : Addr) (kc : ClassId) (cs_ : List Int32) (h0 : Heap) (n0 : Nat) (Z0 : n0 ≤ h0.size) (V_r0 : Arv Z h0 r0 kc .byte (own_len cs_) (own_M (own_Lb cs_)) (.int (0 : Int32))) (hl5 : cs_.length ≤ 5) :
    MetFree l Y48 (head1 (Jvm.Cond.code Y48 jdk_123_method_2_code 3 (some .boolean) :: ws) R32) (fun a U => a = #[(.ref r0), (.int (0 : Int32)), (.int (own_len cs_))] ∧ Z.Warmed39 U.vm ∧ U.heap = h0) (fun _ _ _ _ _ => True) (fun _ U o U' => ∃ v L, o = .returned v ∧ Q32 Z r0 kc cs_ h0 n0 v U'.heap L ∧ FrameEnd U o U' L R32.cells R32.slots) := by
  refine own_start (C := "java/lang/StringCoding") (Q := Q32 Z r0 kc cs_ h0 n0) rfl (plainFor_of_name pn34) ?_
  intro p e s m below meth c s₁ g₀ hg₀ Bd hx hby hml hZ hown hnm X0 e0
  have N0 := Fr.nil n0
  have pre0 : ∀ t, Sx p e below s₁ (mkF m 0 #[rv r0, iv (0 : Int32), iv (own_len cs_)] []) t → Sx p e below s₁ g₀ t := fun t k => by subst hg₀; exact castTop (ef_32 m r0 (0 : Int32) (own_len cs_)) k
  have pre1 : ∀ t, Sx p e below s₁ (mkF m 3 #[rv r0, iv (0 : Int32), iv (own_len cs_)] [(.int (own_len cs_)), (.int (0 : Int32)), (.ref r0)]) t → Sx p e below s₁ g₀ t := by
    intro t kt
    refine pre0 _ ?_
    refine XS.aloadN X0.here hx rfl (hb hby d32_0) rfl rfl ?_
    refine XS.iloadN X0.here hx rfl (hb hby d32_1) rfl ?_
    refine XS.iloadN X0.here hx rfl (hb hby d32_2) rfl ?_
    exact kt
  obtain ⟨_, T2, Lc2, X2, hQ2, st2⟩ := own_cS X0 hx hZ (y := Y47) hown (own_w hw 145 rfl) (own_w hw 146 rfl) (own_w hw 143 rfl) (own_w hw 147 rfl) (by decide) (W := 0) (rm33 l Z a0 hw [] r0 kc cs_ h0 n0 (Nat.le_trans Z0 (Keep.refl h0 []).1) V_r0 hl5) (by decide) (by decide) (g := (mkF m 3 #[rv r0, iv (0 : Int32), iv (own_len cs_)] [(.int (own_len cs_)), (.int (0 : Int32)), (.ref r0)])) rfl hml.symm (argsL := [(.ref r0), (.int (0 : Int32)), (.int (own_len cs_))]) (rest := []) (lenOf pd35 rfl) rfl (Nat.le_of_eq rfl) (hb hby d32_3) rfl e0 (by decide) (by decide)
  obtain ⟨r2, rfl, N2q, hh2⟩ := hQ2
  have N2 := Fr.app N0 N2q
  obtain ⟨hh2, hd2⟩ := hh2
  have pre3 : ∀ t, Sx p e below T2 (mkF m 6 #[rv r0, iv (0 : Int32), iv (own_len cs_)] [(.int r2)]) t → Sx p e below s₁ g₀ t := by
    intro t kt
    refine pre1 _ ?_
    refine st2 _ ?_
    exact kt
  rcases hd2 with ⟨rfl, hA⟩ | ⟨j, rfl, hj⟩
  · have pre4 : ∀ t, Sx p e below T2 (mkF m 15 #[rv r0, iv (0 : Int32), iv (own_len cs_)] [(.int (0 : Int32))]) t → Sx p e below s₁ g₀ t := by
      intro t kt
      refine pre3 _ ?_
      refine XS.iloadN X2.here hx rfl (hb hby d32_6) rfl ?_
      refine XS.icmpYes X2.here hx rfl (pc0 := 7) (pc' := 14) rfl (hb hby d32_7) rfl (teq rfl).1 (by decide) (by decide) ?_
      refine XS.iconst X2.here hx rfl (hb hby d32_14) ?_
      exact kt
    obtain ⟨fs, hr, hrun, hended, hW, hsame⟩ := X2.leave (v := some (.int (0 : Int32))) (fun h => by rw [Bd.returns] at h; cases h)
    refine ⟨_, _, _, pre4 _ ?_, hrun, hended, ?_, ⟨_, rfl⟩, hW, hsame.mono (by decide) (by decide)⟩
    · show Steps p.tables e below (T2.setTop (mkF m 15 #[rv r0, iv (0 : Int32), iv (own_len cs_)] [(.int (0 : Int32))])) _
      exact retN X2 hx (t := .boolean) Bd.returns (by simp) (hb hby d32_15) hr
    · show Q32 Z r0 kc cs_ h0 n0 _ T2.heap _
      rw [hh2]
      exact ⟨_, rfl, N2, rfl, Or.inl ⟨rfl, hA⟩⟩
  · have pre6 : ∀ t, Sx p e below T2 (mkF m 7 #[rv r0, iv (0 : Int32), iv (own_len cs_)] [(.int (own_len cs_)), (.int (own_n j))]) t → Sx p e below s₁ g₀ t := by
      intro t kt
      refine pre3 _ ?_
      refine XS.iloadN X2.here hx rfl (hb hby d32_6) rfl ?_
      exact kt
    have hc7_5 : ¬ ((own_n j) = (own_len cs_)) := (own_nne (by omega) (by omega) (by omega))
    have pre7 : ∀ t, Sx p e below T2 (mkF m 15 #[rv r0, iv (0 : Int32), iv (own_len cs_)] [(.int (1 : Int32))]) t → Sx p e below s₁ g₀ t := by
      intro t kt
      refine pre6 _ ?_
      refine XS.icmpNo X2.here hx rfl (hb hby d32_7) rfl (feq hc7_5).1 ?_
      refine XS.iconst X2.here hx rfl (hb hby d32_10) ?_
      refine XS.goto X2.here hx rfl (pc0 := 11) (pc' := 15) rfl (hb hby d32_11) (by decide) (by decide) ?_
      exact kt
    obtain ⟨fs, hr, hrun, hended, hW, hsame⟩ := X2.leave (v := some (.int (1 : Int32))) (fun h => by rw [Bd.returns] at h; cases h)
    refine ⟨_, _, _, pre7 _ ?_, hrun, hended, ?_, ⟨_, rfl⟩, hW, hsame.mono (by decide) (by decide)⟩
    · show Steps p.tables e below (T2.setTop (mkF m 15 #[rv r0, iv (0 : Int32), iv (own_len cs_)] [(.int (1 : Int32))])) _
      exact retN X2 hx (t := .boolean) Bd.returns (by simp) (hb hby d32_15) hr
    · show Q32 Z r0 kc cs_ h0 n0 _ T2.heap _
      rw [hh2]
      exact ⟨_, rfl, N2, rfl, Or.inr rfl⟩
abbrev D31 (q : Nat) (i : Instr) (k : Nat) : Prop := decode jdk_42_method_46_code q = .ok (i, k)
theorem d31_63 : D31 63 (.iload 8) 2 := by decide +kernel
theorem d31_65 : D31 65 (.ifCond .ge 44) 3 := by decide +kernel
theorem d31_68 : D31 68 (.aload 4) 2 := by decide +kernel
theorem d31_70 : D31 70 (.iload_n 3) 1 := by decide +kernel
theorem d31_71 : D31 71 (.iinc 3 1) 3 := by decide +kernel
theorem d31_74 : D31 74 (.sipush 192) 3 := by decide +kernel
theorem d31_77 : D31 77 (.iload 8) 2 := by decide +kernel
theorem d31_79 : D31 79 (.sipush 255) 3 := by decide +kernel
theorem d31_82 : D31 82 (.iand) 1 := by decide +kernel
theorem d31_83 : D31 83 (.bipush 6) 2 := by decide +kernel
theorem d31_85 : D31 85 (.ishr) 1 := by decide +kernel
theorem d31_86 : D31 86 (.ior) 1 := by decide +kernel
theorem d31_87 : D31 87 (.i2b) 1 := by decide +kernel
theorem d31_88 : D31 88 (.bastore) 1 := by decide +kernel
theorem d31_89 : D31 89 (.aload 4) 2 := by decide +kernel
theorem d31_91 : D31 91 (.iload_n 3) 1 := by decide +kernel
theorem d31_92 : D31 92 (.iinc 3 1) 3 := by decide +kernel
theorem d31_95 : D31 95 (.sipush 128) 3 := by decide +kernel
theorem d31_98 : D31 98 (.iload 8) 2 := by decide +kernel
theorem d31_100 : D31 100 (.bipush 63) 2 := by decide +kernel
theorem d31_102 : D31 102 (.iand) 1 := by decide +kernel
theorem d31_103 : D31 103 (.ior) 1 := by decide +kernel
theorem d31_104 : D31 104 (.i2b) 1 := by decide +kernel
theorem d31_105 : D31 105 (.bastore) 1 := by decide +kernel
theorem d31_106 : D31 106 (.goto 12) 3 := by decide +kernel
theorem d31_109 : D31 109 (.aload 4) 2 := by decide +kernel
theorem d31_111 : D31 111 (.iload_n 3) 1 := by decide +kernel
theorem d31_112 : D31 112 (.iinc 3 1) 3 := by decide +kernel
theorem d31_115 : D31 115 (.iload 8) 2 := by decide +kernel
theorem d31_117 : D31 117 (.bastore) 1 := by decide +kernel
theorem own_c31 {p : Program} {l : Launch} {e : Env} {s : State} {m : MethodId} {args : Array Value} {below : List Frame} {meth : Method} {c : Code} {T0 : State} {locs : List Loc} {Z : State} {a0 : Array Value} {h0 : Heap} {n0 : Nat} (r1 d : Addr) (ixx xx z : Int32) (kd : ClassId) (cs_ LL : List Int32)
    (X0 : Stand p l e ({ frames := 2, cells := 3, slots := 40, locals := 80 } : Room) s m args below meth c T0 locs 1 10) (hx : p.tables.exec = Jvm.exec) (hZ : Z.Warmed39 s.vm) (hw : ∀ d ∈ tables_1, d.before a0 Z = true) (hby : c.code = jdk_42_method_46_code) (hml : c.maxLocals = 9) (hown : s.vm.findClass "java/lang/String" = some m.cls) (e0 : T0.heap = h0) (Z0 : n0 ≤ h0.size) (N0 : Fr n0 locs) (V_d : Arv Z h0 d kd .byte z (own_M LL) (.int (0 : Int32))) (g_d : n0 ≤ d) (hch : own_ch xx) (hlat : ¬ ((255 : Int32) < xx)) (hz : LL.length + 2 ≤ z.toNatClampNeg) (hL30 : LL.length ≤ 30) :
    ∃ (T' : State) (h' : Heap) (Ls : List Loc) (LL' : List Int32), Stand p l e ({ frames := 2, cells := 3, slots := 40, locals := 80 } : Room) s m args below meth c T' Ls 1 10 ∧ T'.heap = h' ∧ Fr n0 Ls ∧ Keep h0 h' [d] ∧ LL' = LL ++ own_enc xx ∧ Arv Z h' d kd .byte z (own_M LL') (.int (0 : Int32)) ∧ ∀ t, Steps p.tables e below (T'.setTop (mkF m 118 #[.val (.int (0 : Int32)), .val (.ref r1), .val (.int (1 : Int32)), .val (.int (own_len LL')), .val (.ref d), .val (.ref r1), .val (.int (own_len cs_)), .val (.int ixx), .val (.int (xx.toInt8.toInt32))] [])) t → Steps p.tables e below (T0.setTop (mkF m 63 #[.val (.int (0 : Int32)), .val (.ref r1), .val (.int (1 : Int32)), .val (.int (own_len LL)), .val (.ref d), .val (.ref r1), .val (.int (own_len cs_)), .val (.int ixx), .val (.int (xx.toInt8.toInt32))] [])) t := by
  have pre0 : ∀ t, Steps p.tables e below (T0.setTop (mkF m 63 #[iv (0 : Int32), rv r1, iv (1 : Int32), iv (own_len LL), rv d, rv r1, iv (own_len cs_), iv ixx, iv (xx.toInt8.toInt32)] [])) t → Steps p.tables e below (T0.setTop (mkF m 63 #[iv (0 : Int32), rv r1, iv (1 : Int32), iv (own_len LL), rv d, rv r1, iv (own_len cs_), iv ixx, iv (xx.toInt8.toInt32)] [])) t := fun _ k => k
  have pre1 : ∀ t, Sx p e below T0 (mkF m 65 #[iv (0 : Int32), rv r1, iv (1 : Int32), iv (own_len LL), rv d, rv r1, iv (own_len cs_), iv ixx, iv (xx.toInt8.toInt32)] [(.int (xx.toInt8.toInt32))]) t → Steps p.tables e below (T0.setTop (mkF m 63 #[iv (0 : Int32), rv r1, iv (1 : Int32), iv (own_len LL), rv d, rv r1, iv (own_len cs_), iv ixx, iv (xx.toInt8.toInt32)] [])) t := by
    intro t kt
    refine pre0 _ ?_
    refine XS.iload X0.here hx rfl (hb hby d31_63) rfl ?_
    exact kt
  by_cases hc65 : (xx.toInt8.toInt32) < (0 : Int32)
  · have pre2 : ∀ t, Sx p e below T0 (mkF m 88 #[iv (0 : Int32), rv r1, iv (1 : Int32), iv (own_len (LL ++ [(((192 : Int32) ||| (((xx.toInt8.toInt32) &&& (255 : Int32)) >>> ((6 : Int32) &&& 31))).toInt8.toInt32)])), rv d, rv r1, iv (own_len cs_), iv ixx, iv (xx.toInt8.toInt32)] [(.int (((192 : Int32) ||| (((xx.toInt8.toInt32) &&& (255 : Int32)) >>> ((6 : Int32) &&& 31))).toInt8.toInt32)), (.int (own_len LL)), (.ref d)]) t → Steps p.tables e below (T0.setTop (mkF m 63 #[iv (0 : Int32), rv r1, iv (1 : Int32), iv (own_len LL), rv d, rv r1, iv (own_len cs_), iv ixx, iv (xx.toInt8.toInt32)] [])) t := by
      intro t kt
      refine pre1 _ ?_
      refine XS.ifNo X0.here hx rfl (hb hby d31_65) rfl ((if0 _ _).trans (tlt hc65).2.1) ?_
      refine XS.aload X0.here hx rfl (hb hby d31_68) rfl rfl ?_
      refine XS.iloadN X0.here hx rfl (hb hby d31_70) rfl ?_
      refine XS.iinc X0.here hx rfl (hb hby d31_71) rfl (l' := #[iv (0 : Int32), rv r1, iv (1 : Int32), iv ((own_len LL) + (1 : Int32)), rv d, rv r1, iv (own_len cs_), iv ixx, iv (xx.toInt8.toInt32)]) rfl ?_
      show Sx p e below T0 (mkF m 74 #[iv (0 : Int32), rv r1, iv (1 : Int32), iv ((own_len LL) + (1 : Int32)), rv d, rv r1, iv (own_len cs_), iv ixx, iv (xx.toInt8.toInt32)] [(.int (own_len LL)), (.ref d)]) _
      rw [show ((own_len LL) + (1 : Int32)) = (own_len (LL ++ [(((192 : Int32) ||| (((xx.toInt8.toInt32) &&& (255 : Int32)) >>> ((6 : Int32) &&& 31))).toInt8.toInt32)])) from (own_p1 _ _ (by omega))]
      show Sx p e below T0 (mkF m 74 #[iv (0 : Int32), rv r1, iv (1 : Int32), iv (own_len (LL ++ [(((192 : Int32) ||| (((xx.toInt8.toInt32) &&& (255 : Int32)) >>> ((6 : Int32) &&& 31))).toInt8.toInt32)])), rv d, rv r1, iv (own_len cs_), iv ixx, iv (xx.toInt8.toInt32)] [(.int (own_len LL)), (.ref d)]) _
      refine XS.sipush X0.here hx rfl (hb hby d31_74) ?_
      refine XS.iload X0.here hx rfl (hb hby d31_77) rfl ?_
      refine XS.sipush X0.here hx rfl (hb hby d31_79) ?_
      refine XS.iand X0.here hx rfl (hb hby d31_82) rfl ?_
      refine XS.bipush X0.here hx rfl (hb hby d31_83) ?_
      refine XS.ishr X0.here hx rfl (hb hby d31_85) rfl ?_
      refine XS.ior X0.here hx rfl (hb hby d31_86) rfl ?_
      refine XS.i2b X0.here hx rfl (hb hby d31_87) rfl ?_
      exact kt
    obtain ⟨cl3, Ar3, q3, S3, M3, H3, G3⟩ := id V_d
    have hin3 : ¬ ((own_len LL) < 0 ∨ cl3.slots.size ≤ ((own_len LL)).toNatClampNeg) := inb_of S3 (own_pb0 (by omega) (by omega))
    obtain ⟨T3, h3, X3, e3, W3, st3⟩ := stB X0 hx hZ e0 Ar3 (j := (own_len LL)) hin3 (g := (mkF m 88 #[iv (0 : Int32), rv r1, iv (1 : Int32), iv (own_len (LL ++ [(((192 : Int32) ||| (((xx.toInt8.toInt32) &&& (255 : Int32)) >>> ((6 : Int32) &&& 31))).toInt8.toInt32)])), rv d, rv r1, iv (own_len cs_), iv ixx, iv (xx.toInt8.toInt32)] [(.int (((192 : Int32) ||| (((xx.toInt8.toInt32) &&& (255 : Int32)) >>> ((6 : Int32) &&& 31))).toInt8.toInt32)), (.int (own_len LL)), (.ref d)])) rfl rfl (hb hby d31_88)
    have nn3 : nar .byte (((192 : Int32) ||| (((xx.toInt8.toInt32) &&& (255 : Int32)) >>> ((6 : Int32) &&& 31))).toInt8.toInt32) = (((192 : Int32) ||| (((xx.toInt8.toInt32) &&& (255 : Int32)) >>> ((6 : Int32) &&& 31))).toInt8.toInt32) := (own_nb _)
    rw [nn3] at W3
    have V3 : Arv Z h3 d kd .byte z (own_M (LL ++ [(((192 : Int32) ||| (((xx.toInt8.toInt32) &&& (255 : Int32)) >>> ((6 : Int32) &&& 31))).toInt8.toInt32)])) (.int (0 : Int32)) := own_push Ar3 q3 S3 M3 H3 G3 (own_fb nn3) W3 (own_lenN _ (by omega))
    have K3 : Keep h0 h3 [d] := (Keep.refl h0 [d]).wr W3 (Or.inl (List.mem_of_getElem? (i := 0) rfl))
    have N3 := Fr.snoc X3 N0 g_d
    have pre4 : ∀ t, Sx p e below T3 (mkF m 105 #[iv (0 : Int32), rv r1, iv (1 : Int32), iv (own_len (LL ++ [(((192 : Int32) ||| (((xx.toInt8.toInt32) &&& (255 : Int32)) >>> ((6 : Int32) &&& 31))).toInt8.toInt32)] ++ [(((128 : Int32) ||| ((xx.toInt8.toInt32) &&& (63 : Int32))).toInt8.toInt32)])), rv d, rv r1, iv (own_len cs_), iv ixx, iv (xx.toInt8.toInt32)] [(.int (((128 : Int32) ||| ((xx.toInt8.toInt32) &&& (63 : Int32))).toInt8.toInt32)), (.int (own_len (LL ++ [(((192 : Int32) ||| (((xx.toInt8.toInt32) &&& (255 : Int32)) >>> ((6 : Int32) &&& 31))).toInt8.toInt32)]))), (.ref d)]) t → Steps p.tables e below (T0.setTop (mkF m 63 #[iv (0 : Int32), rv r1, iv (1 : Int32), iv (own_len LL), rv d, rv r1, iv (own_len cs_), iv ixx, iv (xx.toInt8.toInt32)] [])) t := by
      intro t kt
      refine pre2 _ ?_
      refine st3 _ ?_
      show Sx p e below T3 (mkF m 89 #[iv (0 : Int32), rv r1, iv (1 : Int32), iv (own_len (LL ++ [(((192 : Int32) ||| (((xx.toInt8.toInt32) &&& (255 : Int32)) >>> ((6 : Int32) &&& 31))).toInt8.toInt32)])), rv d, rv r1, iv (own_len cs_), iv ixx, iv (xx.toInt8.toInt32)] []) _
      refine XS.aload X3.here hx rfl (hb hby d31_89) rfl rfl ?_
      refine XS.iloadN X3.here hx rfl (hb hby d31_91) rfl ?_
      refine XS.iinc X3.here hx rfl (hb hby d31_92) rfl (l' := #[iv (0 : Int32), rv r1, iv (1 : Int32), iv ((own_len (LL ++ [(((192 : Int32) ||| (((xx.toInt8.toInt32) &&& (255 : Int32)) >>> ((6 : Int32) &&& 31))).toInt8.toInt32)])) + (1 : Int32)), rv d, rv r1, iv (own_len cs_), iv ixx, iv (xx.toInt8.toInt32)]) rfl ?_
      show Sx p e below T3 (mkF m 95 #[iv (0 : Int32), rv r1, iv (1 : Int32), iv ((own_len (LL ++ [(((192 : Int32) ||| (((xx.toInt8.toInt32) &&& (255 : Int32)) >>> ((6 : Int32) &&& 31))).toInt8.toInt32)])) + (1 : Int32)), rv d, rv r1, iv (own_len cs_), iv ixx, iv (xx.toInt8.toInt32)] [(.int (own_len (LL ++ [(((192 : Int32) ||| (((xx.toInt8.toInt32) &&& (255 : Int32)) >>> ((6 : Int32) &&& 31))).toInt8.toInt32)]))), (.ref d)]) _
      rw [show ((own_len (LL ++ [(((192 : Int32) ||| (((xx.toInt8.toInt32) &&& (255 : Int32)) >>> ((6 : Int32) &&& 31))).toInt8.toInt32)])) + (1 : Int32)) = (own_len (LL ++ [(((192 : Int32) ||| (((xx.toInt8.toInt32) &&& (255 : Int32)) >>> ((6 : Int32) &&& 31))).toInt8.toInt32)] ++ [(((128 : Int32) ||| ((xx.toInt8.toInt32) &&& (63 : Int32))).toInt8.toInt32)])) from (own_p2 _ _ _ (by omega))]
      show Sx p e below T3 (mkF m 95 #[iv (0 : Int32), rv r1, iv (1 : Int32), iv (own_len (LL ++ [(((192 : Int32) ||| (((xx.toInt8.toInt32) &&& (255 : Int32)) >>> ((6 : Int32) &&& 31))).toInt8.toInt32)] ++ [(((128 : Int32) ||| ((xx.toInt8.toInt32) &&& (63 : Int32))).toInt8.toInt32)])), rv d, rv r1, iv (own_len cs_), iv ixx, iv (xx.toInt8.toInt32)] [(.int (own_len (LL ++ [(((192 : Int32) ||| (((xx.toInt8.toInt32) &&& (255 : Int32)) >>> ((6 : Int32) &&& 31))).toInt8.toInt32)]))), (.ref d)]) _
      refine XS.sipush X3.here hx rfl (hb hby d31_95) ?_
      refine XS.iload X3.here hx rfl (hb hby d31_98) rfl ?_
      refine XS.bipush X3.here hx rfl (hb hby d31_100) ?_
      refine XS.iand X3.here hx rfl (hb hby d31_102) rfl ?_
      refine XS.ior X3.here hx rfl (hb hby d31_103) rfl ?_
      refine XS.i2b X3.here hx rfl (hb hby d31_104) rfl ?_
      exact kt
    obtain ⟨cl5, Ar5, q5, S5, M5, H5, G5⟩ := id V3
    have hin5 : ¬ ((own_len (LL ++ [(((192 : Int32) ||| (((xx.toInt8.toInt32) &&& (255 : Int32)) >>> ((6 : Int32) &&& 31))).toInt8.toInt32)])) < 0 ∨ cl5.slots.size ≤ ((own_len (LL ++ [(((192 : Int32) ||| (((xx.toInt8.toInt32) &&& (255 : Int32)) >>> ((6 : Int32) &&& 31))).toInt8.toInt32)]))).toNatClampNeg) := inb_of S5 (own_pb0 (by simp; omega) (by simp; omega))
    obtain ⟨T5, h5, X5, e5, W5, st5⟩ := stB X3 hx hZ e3 Ar5 (j := (own_len (LL ++ [(((192 : Int32) ||| (((xx.toInt8.toInt32) &&& (255 : Int32)) >>> ((6 : Int32) &&& 31))).toInt8.toInt32)]))) hin5 (g := (mkF m 105 #[iv (0 : Int32), rv r1, iv (1 : Int32), iv (own_len (LL ++ [(((192 : Int32) ||| (((xx.toInt8.toInt32) &&& (255 : Int32)) >>> ((6 : Int32) &&& 31))).toInt8.toInt32)] ++ [(((128 : Int32) ||| ((xx.toInt8.toInt32) &&& (63 : Int32))).toInt8.toInt32)])), rv d, rv r1, iv (own_len cs_), iv ixx, iv (xx.toInt8.toInt32)] [(.int (((128 : Int32) ||| ((xx.toInt8.toInt32) &&& (63 : Int32))).toInt8.toInt32)), (.int (own_len (LL ++ [(((192 : Int32) ||| (((xx.toInt8.toInt32) &&& (255 : Int32)) >>> ((6 : Int32) &&& 31))).toInt8.toInt32)]))), (.ref d)])) rfl rfl (hb hby d31_105)
    have nn5 : nar .byte (((128 : Int32) ||| ((xx.toInt8.toInt32) &&& (63 : Int32))).toInt8.toInt32) = (((128 : Int32) ||| ((xx.toInt8.toInt32) &&& (63 : Int32))).toInt8.toInt32) := (own_nb _)
    rw [nn5] at W5
    have V5 : Arv Z h5 d kd .byte z (own_M (LL ++ [(((192 : Int32) ||| (((xx.toInt8.toInt32) &&& (255 : Int32)) >>> ((6 : Int32) &&& 31))).toInt8.toInt32)] ++ [(((128 : Int32) ||| ((xx.toInt8.toInt32) &&& (63 : Int32))).toInt8.toInt32)])) (.int (0 : Int32)) := own_push Ar5 q5 S5 M5 H5 G5 (own_fb nn5) W5 (own_lenN _ (by simp; omega))
    have K5 : Keep h0 h5 [d] := K3.wr W5 (Or.inl (List.mem_of_getElem? (i := 0) rfl))
    have N5 := Fr.snoc X5 N3 g_d
    have pre6 : ∀ t, Sx p e below T5 (mkF m 118 #[iv (0 : Int32), rv r1, iv (1 : Int32), iv (own_len (LL ++ [(((192 : Int32) ||| (((xx.toInt8.toInt32) &&& (255 : Int32)) >>> ((6 : Int32) &&& 31))).toInt8.toInt32)] ++ [(((128 : Int32) ||| ((xx.toInt8.toInt32) &&& (63 : Int32))).toInt8.toInt32)])), rv d, rv r1, iv (own_len cs_), iv ixx, iv (xx.toInt8.toInt32)] []) t → Steps p.tables e below (T0.setTop (mkF m 63 #[iv (0 : Int32), rv r1, iv (1 : Int32), iv (own_len LL), rv d, rv r1, iv (own_len cs_), iv ixx, iv (xx.toInt8.toInt32)] [])) t := by
      intro t kt
      refine pre4 _ ?_
      refine st5 _ ?_
      show Sx p e below T5 (mkF m 106 #[iv (0 : Int32), rv r1, iv (1 : Int32), iv (own_len (LL ++ [(((192 : Int32) ||| (((xx.toInt8.toInt32) &&& (255 : Int32)) >>> ((6 : Int32) &&& 31))).toInt8.toInt32)] ++ [(((128 : Int32) ||| ((xx.toInt8.toInt32) &&& (63 : Int32))).toInt8.toInt32)])), rv d, rv r1, iv (own_len cs_), iv ixx, iv (xx.toInt8.toInt32)] []) _
      refine XS.goto X5.here hx rfl (pc0 := 106) (pc' := 118) rfl (hb hby d31_106) (by decide) (by decide) ?_
      exact kt
    exact ⟨T5, h5, _, _, X5, e5, N5, K5, (by rw [own_encL hch hlat hc65]; simp), V5, pre6⟩
  · have pre7 : ∀ t, Sx p e below T0 (mkF m 117 #[iv (0 : Int32), rv r1, iv (1 : Int32), iv (own_len (LL ++ [(xx.toInt8.toInt32)])), rv d, rv r1, iv (own_len cs_), iv ixx, iv (xx.toInt8.toInt32)] [(.int (xx.toInt8.toInt32)), (.int (own_len LL)), (.ref d)]) t → Steps p.tables e below (T0.setTop (mkF m 63 #[iv (0 : Int32), rv r1, iv (1 : Int32), iv (own_len LL), rv d, rv r1, iv (own_len cs_), iv ixx, iv (xx.toInt8.toInt32)] [])) t := by
      intro t kt
      refine pre1 _ ?_
      refine XS.ifYes X0.here hx rfl (pc0 := 65) (pc' := 109) rfl (hb hby d31_65) rfl ((if0 _ _).trans (flt hc65).2.1) (by decide) (by decide) ?_
      refine XS.aload X0.here hx rfl (hb hby d31_109) rfl rfl ?_
      refine XS.iloadN X0.here hx rfl (hb hby d31_111) rfl ?_
      refine XS.iinc X0.here hx rfl (hb hby d31_112) rfl (l' := #[iv (0 : Int32), rv r1, iv (1 : Int32), iv ((own_len LL) + (1 : Int32)), rv d, rv r1, iv (own_len cs_), iv ixx, iv (xx.toInt8.toInt32)]) rfl ?_
      show Sx p e below T0 (mkF m 115 #[iv (0 : Int32), rv r1, iv (1 : Int32), iv ((own_len LL) + (1 : Int32)), rv d, rv r1, iv (own_len cs_), iv ixx, iv (xx.toInt8.toInt32)] [(.int (own_len LL)), (.ref d)]) _
      rw [show ((own_len LL) + (1 : Int32)) = (own_len (LL ++ [(xx.toInt8.toInt32)])) from (own_p1 _ _ (by omega))]
      show Sx p e below T0 (mkF m 115 #[iv (0 : Int32), rv r1, iv (1 : Int32), iv (own_len (LL ++ [(xx.toInt8.toInt32)])), rv d, rv r1, iv (own_len cs_), iv ixx, iv (xx.toInt8.toInt32)] [(.int (own_len LL)), (.ref d)]) _
      refine XS.iload X0.here hx rfl (hb hby d31_115) rfl ?_
      exact kt
    obtain ⟨cl8, Ar8, q8, S8, M8, H8, G8⟩ := id V_d
    have hin8 : ¬ ((own_len LL) < 0 ∨ cl8.slots.size ≤ ((own_len LL)).toNatClampNeg) := inb_of S8 (own_pb0 (by omega) (by omega))
    obtain ⟨T8, h8, X8, e8, W8, st8⟩ := stB X0 hx hZ e0 Ar8 (j := (own_len LL)) hin8 (g := (mkF m 117 #[iv (0 : Int32), rv r1, iv (1 : Int32), iv (own_len (LL ++ [(xx.toInt8.toInt32)])), rv d, rv r1, iv (own_len cs_), iv ixx, iv (xx.toInt8.toInt32)] [(.int (xx.toInt8.toInt32)), (.int (own_len LL)), (.ref d)])) rfl rfl (hb hby d31_117)
    have nn8 : nar .byte (xx.toInt8.toInt32) = (xx.toInt8.toInt32) := (own_nb _)
    rw [nn8] at W8
    have V8 : Arv Z h8 d kd .byte z (own_M (LL ++ [(xx.toInt8.toInt32)])) (.int (0 : Int32)) := own_push Ar8 q8 S8 M8 H8 G8 (own_fb nn8) W8 (own_lenN _ (by omega))
    have K8 : Keep h0 h8 [d] := (Keep.refl h0 [d]).wr W8 (Or.inl (List.mem_of_getElem? (i := 0) rfl))
    have N8 := Fr.snoc X8 N0 g_d
    have pre9 : ∀ t, Sx p e below T8 (mkF m 118 #[iv (0 : Int32), rv r1, iv (1 : Int32), iv (own_len (LL ++ [(xx.toInt8.toInt32)])), rv d, rv r1, iv (own_len cs_), iv ixx, iv (xx.toInt8.toInt32)] []) t → Steps p.tables e below (T0.setTop (mkF m 63 #[iv (0 : Int32), rv r1, iv (1 : Int32), iv (own_len LL), rv d, rv r1, iv (own_len cs_), iv ixx, iv (xx.toInt8.toInt32)] [])) t := by
      intro t kt
      refine pre7 _ ?_
      refine st8 _ ?_
      exact kt
    exact ⟨T8, h8, _, _, X8, e8, N8, K8, (by rw [own_e1 ((own_lneg hch hlat).2 hc65)]), V8, pre9⟩
theorem d31_118 : D31 118 (.iinc 7 1) 3 := by decide +kernel
theorem d31_121 : D31 121 (.goto (-72)) 3 := by decide +kernel
theorem d31_49 : D31 49 (.iload 7) 2 := by decide +kernel
theorem d31_51 : D31 51 (.iload 6) 2 := by decide +kernel
theorem d31_53 : D31 53 (.if_icmp .ge 71) 3 := by decide +kernel
theorem d31_56 : D31 56 (.aload 5) 2 := by decide +kernel
theorem d31_58 : D31 58 (.iload 7) 2 := by decide +kernel
theorem d31_60 : D31 60 (.baload) 1 := by decide +kernel
theorem d31_61 : D31 61 (.istore 8) 2 := by decide +kernel
theorem own_t31 {p : Program} {l : Launch} {e : Env} {s : State} {m : MethodId} {args : Array Value} {below : List Frame} {meth : Method} {c : Code} {T0 : State} {locs : List Loc} {Z : State} {a0 : Array Value} {h0 : Heap} {n0 : Nat} (r1 d : Addr) (i : Nat) (xx yy z : Int32) (kc kd : ClassId) (cs_ : List Int32)
    (X0 : Stand p l e ({ frames := 2, cells := 3, slots := 40, locals := 80 } : Room) s m args below meth c T0 locs 1 10) (hx : p.tables.exec = Jvm.exec) (hZ : Z.Warmed39 s.vm) (hw : ∀ d ∈ tables_1, d.before a0 Z = true) (hby : c.code = jdk_42_method_46_code) (hml : c.maxLocals = 9) (hown : s.vm.findClass "java/lang/String" = some m.cls) (e0 : T0.heap = h0) (Z0 : n0 ≤ h0.size) (N0 : Fr n0 locs) (V_r1 : Arv Z h0 r1 kc .byte (own_len cs_) (own_M (own_Lb cs_)) (.int (0 : Int32))) (V_d : Arv Z h0 d kd .byte z (own_M (own_encs (cs_.take i))) (.int (0 : Int32))) (g_d : n0 ≤ d) (hne : r1 ≠ d) (hxx : cs_[i]? = some xx) (hyy : cs_[i + 1]? = some yy) (hi : i + 1 < cs_.length) (hl5 : cs_.length ≤ 5) (hcs_ : ∀ x ∈ cs_, own_ch x) (hL : ∀ x ∈ cs_, ¬ ((255 : Int32) < x)) (hz : z.toNatClampNeg = 2 * cs_.length) :
    ∃ (T' : State) (h' : Heap) (Ls : List Loc) (LL' : List Int32), Stand p l e ({ frames := 2, cells := 3, slots := 40, locals := 80 } : Room) s m args below meth c T' Ls 1 10 ∧ T'.heap = h' ∧ Fr n0 Ls ∧ Keep h0 h' [d] ∧ LL' = (own_encs (cs_.take (i + 1))) ∧ Arv Z h' d kd .byte z (own_M LL') (.int (0 : Int32)) ∧ ∀ t, Steps p.tables e below (T'.setTop (mkF m 63 #[.val (.int (0 : Int32)), .val (.ref r1), .val (.int (1 : Int32)), .val (.int (own_len LL')), .val (.ref d), .val (.ref r1), .val (.int (own_len cs_)), .val (.int (own_n (i + 1))), .val (.int (yy.toInt8.toInt32))] [])) t → Steps p.tables e below (T0.setTop (mkF m 63 #[.val (.int (0 : Int32)), .val (.ref r1), .val (.int (1 : Int32)), .val (.int (own_len (own_encs (cs_.take i)))), .val (.ref d), .val (.ref r1), .val (.int (own_len cs_)), .val (.int (own_n i)), .val (.int (xx.toInt8.toInt32))] [])) t := by
  have pre0 : ∀ t, Steps p.tables e below (T0.setTop (mkF m 63 #[iv (0 : Int32), rv r1, iv (1 : Int32), iv (own_len (own_encs (cs_.take i))), rv d, rv r1, iv (own_len cs_), iv (own_n i), iv (xx.toInt8.toInt32)] [])) t → Steps p.tables e below (T0.setTop (mkF m 63 #[iv (0 : Int32), rv r1, iv (1 : Int32), iv (own_len (own_encs (cs_.take i))), rv d, rv r1, iv (own_len cs_), iv (own_n i), iv (xx.toInt8.toInt32)] [])) t := fun _ k => k
  have hb2 := own_encsT2 (i := i) hcs_ hL (by omega)
  obtain ⟨T1, h1, L1, LL1, X1, e1, N1, Kc1, hE1, Vc1, st1⟩ := own_c31 r1 d (own_n i) xx z kd cs_ (own_encs (cs_.take i)) X0 hx hZ hw hby hml hown e0 (Nat.le_trans Z0 (Keep.refl h0 [d]).1) N0 V_d g_d (hcs_ _ (List.mem_of_getElem? hxx)) (hL _ (List.mem_of_getElem? hxx)) (by omega) (by omega)
  have K1 : Keep h0 h1 [d] := (Keep.refl h0 [d]).trans Kc1 (allS (Or.inl (List.mem_of_getElem? (i := 0) rfl)) all0)
  have pre3 : ∀ t, Sx p e below T1 (mkF m 53 #[iv (0 : Int32), rv r1, iv (1 : Int32), iv (own_len LL1), rv d, rv r1, iv (own_len cs_), iv (own_n (i + 1)), iv (xx.toInt8.toInt32)] [(.int (own_len cs_)), (.int (own_n (i + 1)))]) t → Steps p.tables e below (T0.setTop (mkF m 63 #[iv (0 : Int32), rv r1, iv (1 : Int32), iv (own_len (own_encs (cs_.take i))), rv d, rv r1, iv (own_len cs_), iv (own_n i), iv (xx.toInt8.toInt32)] [])) t := by
    intro t kt
    refine pre0 _ ?_
    refine st1 _ ?_
    show Sx p e below T1 (mkF m 118 #[iv (0 : Int32), rv r1, iv (1 : Int32), iv (own_len LL1), rv d, rv r1, iv (own_len cs_), iv (own_n i), iv (xx.toInt8.toInt32)] []) _
    refine XS.iinc X1.here hx rfl (hb hby d31_118) rfl (l' := #[iv (0 : Int32), rv r1, iv (1 : Int32), iv (own_len LL1), rv d, rv r1, iv (own_len cs_), iv ((own_n i) + (1 : Int32)), iv (xx.toInt8.toInt32)]) rfl ?_
    show Sx p e below T1 (mkF m 121 #[iv (0 : Int32), rv r1, iv (1 : Int32), iv (own_len LL1), rv d, rv r1, iv (own_len cs_), iv ((own_n i) + (1 : Int32)), iv (xx.toInt8.toInt32)] []) _
    rw [show ((own_n i) + (1 : Int32)) = (own_n (i + 1)) from (own_nS (by omega))]
    show Sx p e below T1 (mkF m 121 #[iv (0 : Int32), rv r1, iv (1 : Int32), iv (own_len LL1), rv d, rv r1, iv (own_len cs_), iv (own_n (i + 1)), iv (xx.toInt8.toInt32)] []) _
    refine XS.goto X1.here hx rfl (pc0 := 121) (pc' := 49) rfl (hb hby d31_121) (by decide) (by decide) ?_
    refine XS.iload X1.here hx rfl (hb hby d31_49) rfl ?_
    refine XS.iload X1.here hx rfl (hb hby d31_51) rfl ?_
    exact kt
  have hc53_2 : (own_n (i + 1)) < (own_len cs_) := (own_nlt hi (by omega))
  obtain ⟨cl4, Ar4, q4, S4, M4, H4, G4⟩ := id (V_r1.keep Kc1 (ninS hne nin0))
  have hin4 : ¬ ((own_n (i + 1)) < 0 ∨ cl4.slots.size ≤ ((own_n (i + 1))).toNatClampNeg) := inb_of S4 ⟨own_nP (by omega), own_nlt hi (by omega)⟩
  have hat4 : cl4.slots[((own_n (i + 1))).toNatClampNeg]? = some (.int (yy.toInt8.toInt32)) := H4.at hin4 (own_Mat (own_Lbat hyy) (by omega))
  have pre5 : ∀ t, Sx p e below T1 (mkF m 63 #[iv (0 : Int32), rv r1, iv (1 : Int32), iv (own_len LL1), rv d, rv r1, iv (own_len cs_), iv (own_n (i + 1)), iv (yy.toInt8.toInt32)] []) t → Steps p.tables e below (T0.setTop (mkF m 63 #[iv (0 : Int32), rv r1, iv (1 : Int32), iv (own_len (own_encs (cs_.take i))), rv d, rv r1, iv (own_len cs_), iv (own_n i), iv (xx.toInt8.toInt32)] [])) t := by
    intro t kt
    refine pre3 _ ?_
    refine XS.icmpNo X1.here hx rfl (hb hby d31_53) rfl (tlt hc53_2).2.1 ?_
    refine XS.aload X1.here hx rfl (hb hby d31_56) rfl rfl ?_
    refine XS.iload X1.here hx rfl (hb hby d31_58) rfl ?_
    refine X1.baloadBytes hx (j := (own_n (i + 1))) (v := (.int (yy.toInt8.toInt32))) (by rw [e1]; exact Ar4.1) (State.isArrayOf_alike hZ.alike Ar4.2.1) Ar4.2.2 hin4 hat4 (g := (mkF m 60 #[iv (0 : Int32), rv r1, iv (1 : Int32), iv (own_len LL1), rv d, rv r1, iv (own_len cs_), iv (own_n (i + 1)), iv (xx.toInt8.toInt32)] [(.int (own_n (i + 1))), (.ref r1)])) rfl rfl (hb hby d31_60) _ ?_
    show Sx p e below T1 (mkF m 61 #[iv (0 : Int32), rv r1, iv (1 : Int32), iv (own_len LL1), rv d, rv r1, iv (own_len cs_), iv (own_n (i + 1)), iv (xx.toInt8.toInt32)] [(.int (yy.toInt8.toInt32))]) _
    refine XS.istore X1.here hx rfl (hb hby d31_61) rfl (l' := #[iv (0 : Int32), rv r1, iv (1 : Int32), iv (own_len LL1), rv d, rv r1, iv (own_len cs_), iv (own_n (i + 1)), iv (yy.toInt8.toInt32)]) rfl ?_
    exact kt
  exact ⟨T1, h1, _, _, X1, e1, N1, K1, hE1.trans (own_encsS hxx), Vc1, pre5⟩
theorem d31_0 : D31 0 (.iload_n 0) 1 := by decide +kernel
theorem d31_1 : D31 1 (.iconst 1) 1 := by decide +kernel
theorem d31_2 : D31 2 (.if_icmp .ne 9) 3 := by decide +kernel
theorem d31_11 : D31 11 (.aload_n 1) 1 := by decide +kernel
theorem d31_12 : D31 12 (.iconst 0) 1 := by decide +kernel
theorem d31_13 : D31 13 (.aload_n 1) 1 := by decide +kernel
theorem d31_14 : D31 14 (.arraylength) 1 := by decide +kernel
theorem pd36 : parseMethodDescriptor "([BII)Z" = some ⟨[(.array .byte), .int, .int], some .boolean⟩ := by decide +kernel
theorem d31_15 : D31 15 (.invokestatic 128) 3 := by decide +kernel
theorem d31_18 : D31 18 (.ifCond .ne 11) 3 := by decide +kernel
theorem d31_21 : D31 21 (.aload_n 1) 1 := by decide +kernel
theorem d31_22 : D31 22 (.invokevirtual 279) 3 := by decide +kernel
theorem d31_25 : D31 25 (.checkcast 280) 3 := by decide +kernel
theorem d31_28 : D31 28 (.areturn) 1 := by decide +kernel
theorem d31_29 : D31 29 (.iconst 0) 1 := by decide +kernel
theorem d31_30 : D31 30 (.istore_n 3) 1 := by decide +kernel
theorem d31_31 : D31 31 (.aload_n 1) 1 := by decide +kernel
theorem d31_32 : D31 32 (.arraylength) 1 := by decide +kernel
theorem d31_33 : D31 33 (.invokestatic 60) 3 := by decide +kernel
theorem d31_36 : D31 36 (.astore 4) 2 := by decide +kernel
theorem d31_38 : D31 38 (.aload_n 1) 1 := by decide +kernel
theorem d31_39 : D31 39 (.astore 5) 2 := by decide +kernel
theorem d31_41 : D31 41 (.aload 5) 2 := by decide +kernel
theorem d31_43 : D31 43 (.arraylength) 1 := by decide +kernel
theorem d31_44 : D31 44 (.istore 6) 2 := by decide +kernel
theorem d31_46 : D31 46 (.iconst 0) 1 := by decide +kernel
theorem d31_47 : D31 47 (.istore 7) 2 := by decide +kernel
theorem d31_124 : D31 124 (.iload_n 3) 1 := by decide +kernel
theorem d31_125 : D31 125 (.aload 4) 2 := by decide +kernel
theorem d31_127 : D31 127 (.arraylength) 1 := by decide +kernel
theorem d31_128 : D31 128 (.if_icmp .ne 6) 3 := by decide +kernel
theorem d31_131 : D31 131 (.aload 4) 2 := by decide +kernel
theorem d31_133 : D31 133 (.areturn) 1 := by decide +kernel
theorem d31_134 : D31 134 (.aload 4) 2 := by decide +kernel
theorem d31_136 : D31 136 (.iload_n 3) 1 := by decide +kernel
theorem pd37 : parseMethodDescriptor "([BI)[B" = some ⟨[(.array .byte), .int], some (.array .byte)⟩ := by decide +kernel
theorem d31_137 : D31 137 (.invokestatic 102) 3 := by decide +kernel
theorem d31_140 : D31 140 (.areturn) 1 := by decide +kernel
theorem ef_31L (m : MethodId) (x0 : Int32) (x1 : Addr) (x2 : Int32) : entryFrame m #[(.int x0), (.ref x1), (.int x2)] 9 = mkF m 0 #[.val (.int x0), .val (.ref x1), .val (.int x2), .unset, .unset, .unset, .unset, .unset, .unset] [] := by first | (simp [entryFrame, mkF, argsToLocals, Value.category]; done) | rfl
def Q31L (Z : State) (r1 : Addr) (kc : ClassId) (cs_ : List Int32) (h0 : Heap) (n0 : Nat) (v : Option Value) (h : Heap) (L : List Loc) : Prop := ∃ y k, v = some (.ref y) ∧ Fr n0 L ∧ Keep h0 h [] ∧ h0.size ≤ y ∧ Arv Z h y k .byte (own_len (own_encs cs_)) (own_M (own_encs cs_)) (.int (0 : Int32)) ∧ Exa Z h y "[B"
abbrev R31L : Room := { frames := 2, cells := 3, slots := 40, locals := 80 }
theorem rm31L (l : Launch) (Z : State) (a0 : Array Value) (hw : ∀ d ∈ tables_1, d.before a0 Z = true) (ws : List Jvm.Cond) (r1 : Addr) (kc : ClassId) (cs_ : List Int32) (h0 : Heap) (n0 : Nat) (Z0 : n0 ≤ h0.size) (V_r1 : Arv Z h0 r1 kc .byte (own_len cs_) (own_M (own_Lb cs_)) (.int (0 : Int32))) (E_r1 : Exa Z h0 r1 "[B") (hcs_ : ∀ x ∈ cs_, own_ch x) (hl5 : cs_.length ≤ 5) (hpos : 0 < cs_.length) (hL : ∀ x ∈ cs_, ¬ ((255 : Int32) < x)) :
    MetFree l Y49 (head1 (Jvm.Cond.code Y49 jdk_42_method_46_code 9 (some (.array .byte)) :: ws) R31L) (fun a U => a = #[(.int (0 : Int32)), (.ref r1), (.int (1 : Int32))] ∧ Z.Warmed39 U.vm ∧ U.heap = h0) (fun _ _ _ _ _ => True) (fun _ U o U' => ∃ v L, o = .returned v ∧ Q31L Z r1 kc cs_ h0 n0 v U'.heap L ∧ FrameEnd U o U' L R31L.cells R31L.slots) := by
  refine own_start (C := "java/lang/String") (Q := Q31L Z r1 kc cs_ h0 n0) rfl (plainFor_of_name pn4) ?_
  intro p e s m below meth c s₁ g₀ hg₀ Bd hx hby hml hZ hown hnm X0 e0
  have N0 := Fr.nil n0
  have pre0 : ∀ t, Sx p e below s₁ (mkF m 0 #[iv (0 : Int32), rv r1, iv (1 : Int32), .unset, .unset, .unset, .unset, .unset, .unset] []) t → Sx p e below s₁ g₀ t := fun t k => by subst hg₀; exact castTop (ef_31L m (0 : Int32) r1 (1 : Int32)) k
  obtain ⟨cl1, Ar1, -, S1, M1, -, -⟩ := id V_r1
  have pre2 : ∀ t, Sx p e below s₁ (mkF m 15 #[iv (0 : Int32), rv r1, iv (1 : Int32), .unset, .unset, .unset, .unset, .unset, .unset] [(.int (own_len cs_)), (.int (0 : Int32)), (.ref r1)]) t → Sx p e below s₁ g₀ t := by
    intro t kt
    refine pre0 _ ?_
    refine XS.iloadN X0.here hx rfl (hb hby d31_0) rfl ?_
    refine XS.iconst X0.here hx rfl (hb hby d31_1) ?_
    refine XS.icmpYes X0.here hx rfl (pc0 := 2) (pc' := 11) rfl (hb hby d31_2) rfl (feq (by decide)).2 (by decide) (by decide) ?_
    refine XS.aloadN X0.here hx rfl (hb hby d31_11) rfl rfl ?_
    refine XS.iconst X0.here hx rfl (hb hby d31_12) ?_
    refine XS.aloadN X0.here hx rfl (hb hby d31_13) rfl rfl ?_
    refine X0.arraylength hx (by rw [e0]; exact Ar1.1) (State.isArrayOf_alike hZ.alike Ar1.2.1) (g := (mkF m 14 #[iv (0 : Int32), rv r1, iv (1 : Int32), .unset, .unset, .unset, .unset, .unset, .unset] [(.ref r1), (.int (0 : Int32)), (.ref r1)])) rfl rfl (hb hby d31_14) _ ?_
    rw [len_of S1 M1]
    exact kt
  obtain ⟨_, T3, Lc3, X3, hQ3, st3⟩ := own_cS X0 hx hZ (y := Y48) hown (own_w hw 141 rfl) (own_w hw 142 rfl) (own_w hw 143 rfl) (own_w hw 144 rfl) (by decide) (W := 0) (rm32 l Z a0 hw [] r1 kc cs_ h0 n0 (Nat.le_trans Z0 (Keep.refl h0 []).1) V_r1 hl5) (by decide) (by decide) (g := (mkF m 15 #[iv (0 : Int32), rv r1, iv (1 : Int32), .unset, .unset, .unset, .unset, .unset, .unset] [(.int (own_len cs_)), (.int (0 : Int32)), (.ref r1)])) rfl hml.symm (argsL := [(.ref r1), (.int (0 : Int32)), (.int (own_len cs_))]) (rest := []) (lenOf pd36 rfl) rfl (Nat.le_of_eq rfl) (hb hby d31_15) rfl e0 (by decide) (by decide)
  obtain ⟨w3, rfl, N3q, hh3⟩ := hQ3
  have N3 := Fr.app N0 N3q
  obtain ⟨hh3, hd3⟩ := hh3
  have pre4 : ∀ t, Sx p e below T3 (mkF m 18 #[iv (0 : Int32), rv r1, iv (1 : Int32), .unset, .unset, .unset, .unset, .unset, .unset] [(.int w3)]) t → Sx p e below s₁ g₀ t := by
    intro t kt
    refine pre2 _ ?_
    refine st3 _ ?_
    exact kt
  rcases hd3 with ⟨rfl, hA⟩ | rfl
  · have pre5 : ∀ t, Sx p e below T3 (mkF m 22 #[iv (0 : Int32), rv r1, iv (1 : Int32), .unset, .unset, .unset, .unset, .unset, .unset] [(.ref r1)]) t → Sx p e below s₁ g₀ t := by
      intro t kt
      refine pre4 _ ?_
      refine XS.ifNo X3.here hx rfl (hb hby d31_18) rfl ((if0 _ _).trans (teq (by decide)).2) ?_
      refine XS.aloadN X3.here hx rfl (hb hby d31_21) rfl rfl ?_
      exact kt
    obtain ⟨T7, h7, X7, e7, E7, A7, Ex7, st7⟩ := cloneH X3 hx hZ hown (own_w hw 148 rfl) (own_w hw 149 rfl) (own_w hw 153 rfl) (own_w hw 151 rfl) (own_w hw 152 rfl) (own_w hw 154 rfl) hh3 (Arv.arh V_r1) E_r1 (g := (mkF m 22 #[iv (0 : Int32), rv r1, iv (1 : Int32), .unset, .unset, .unset, .unset, .unset, .unset] [(.ref r1)])) rfl (by rw [hml]; rfl) rfl (hb hby d31_22) (by decide) (W := 0) (cap := 5) (by show 2 * 0 + _ ≤ _; exact Nat.le_of_eq rfl) (by decide) (by rw [own_lenN cs_ (by omega)]; exact hl5) (by decide) (by decide)
    obtain ⟨b7, g7⟩ : ∃ z, z = h0.size := ⟨_, rfl⟩
    rw [← g7] at A7 Ex7 st7
    have g_b7 : n0 ≤ b7 := Nat.le_trans (Nat.le_trans Z0 (Keep.refl h0 []).1) (Nat.le_of_eq g7.symm)
    have sz_b7 : h0.size ≤ b7 := Nat.le_trans (Keep.refl h0 []).1 (Nat.le_of_eq g7.symm)
    have V_b7 : Arv Z h7 b7 kc .byte (own_len cs_) (own_M (own_Lb cs_)) (.int (0 : Int32)) := A7
    have K7 : Keep h0 h7 [] := (Keep.refl h0 []).ext E7
    have pre8 : ∀ t, Sx p e below T7 (mkF m 25 #[iv (0 : Int32), rv r1, iv (1 : Int32), .unset, .unset, .unset, .unset, .unset, .unset] [(.ref b7)]) t → Sx p e below s₁ g₀ t := by
      intro t kt
      refine pre5 _ ?_
      refine st7 _ ?_
      exact kt
    obtain ⟨T9, X9, e9, st9⟩ := castY X7 hx hZ hown (own_w hw 155 rfl) e7 (Ins.self Ex7) (g := (mkF m 25 #[iv (0 : Int32), rv r1, iv (1 : Int32), .unset, .unset, .unset, .unset, .unset, .unset] [(.ref b7)])) rfl rfl (hb hby d31_25)
    have pre10 : ∀ t, Sx p e below T9 (mkF m 28 #[iv (0 : Int32), rv r1, iv (1 : Int32), .unset, .unset, .unset, .unset, .unset, .unset] [(.ref b7)]) t → Sx p e below s₁ g₀ t := by
      intro t kt
      refine pre8 _ ?_
      refine st9 _ ?_
      exact kt
    obtain ⟨fs, hr, hrun, hended, hW, hsame⟩ := X9.leave (v := some (.ref b7)) (fun h => by rw [Bd.returns] at h; cases h)
    refine ⟨_, _, _, pre10 _ ?_, hrun, hended, ?_, ⟨_, rfl⟩, hW, hsame.mono (by decide) (by decide)⟩
    · show Steps p.tables e below (T9.setTop (mkF m 28 #[iv (0 : Int32), rv r1, iv (1 : Int32), .unset, .unset, .unset, .unset, .unset, .unset] [(.ref b7)])) _
      jvm_step X9.here [X9.here.top, hx, (hb hby d31_28), X9.method', Bd.returns, Value.isRef, FieldType.isReference]
      first | (intro acts; rw [hr _ acts rfl rfl rfl]) | rw [hr _ _ rfl rfl rfl]
      exact Steps.refl _
    · show Q31L Z r1 kc cs_ h0 n0 _ T9.heap _
      rw [e9]
      exact ⟨b7, kc, rfl, N3, K7, sz_b7, (by rw [← own_Lbe hcs_ hL hA]; show Arv Z h7 b7 kc .byte (own_n (own_Lb cs_).length) (own_M (own_Lb cs_)) (.int (0 : Int32)); rw [own_Lblen]; exact V_b7), Ex7⟩
  · obtain ⟨cl11, Ar11, -, S11, M11, -, -⟩ := id V_r1
    have pre12 : ∀ t, Sx p e below T3 (mkF m 33 #[iv (0 : Int32), rv r1, iv (1 : Int32), iv (0 : Int32), .unset, .unset, .unset, .unset, .unset] [(.int (own_len cs_))]) t → Sx p e below s₁ g₀ t := by
      intro t kt
      refine pre4 _ ?_
      refine XS.ifYes X3.here hx rfl (pc0 := 18) (pc' := 29) rfl (hb hby d31_18) rfl ((if0 _ _).trans (feq (by decide)).2) (by decide) (by decide) ?_
      refine XS.iconst X3.here hx rfl (hb hby d31_29) ?_
      refine XS.istoreN X3.here hx rfl (hb hby d31_30) rfl (l' := #[iv (0 : Int32), rv r1, iv (1 : Int32), iv (0 : Int32), .unset, .unset, .unset, .unset, .unset]) rfl ?_
      refine XS.aloadN X3.here hx rfl (hb hby d31_31) rfl rfl ?_
      refine X3.arraylength hx (by rw [hh3]; exact Ar11.1) (State.isArrayOf_alike hZ.alike Ar11.2.1) (g := (mkF m 32 #[iv (0 : Int32), rv r1, iv (1 : Int32), iv (0 : Int32), .unset, .unset, .unset, .unset, .unset] [(.ref r1)])) rfl rfl (hb hby d31_32) _ ?_
      rw [len_of S11 M11]
      exact kt
    obtain ⟨_, T13, Lc13, X13, hQ13, st13⟩ := own_cS X3 hx hZ (y := Y14) hown (own_w hw 281 rfl) (own_w hw 205 rfl) (own_w hw 27 rfl) (own_w hw 206 rfl) (by decide) (W := 0) (rm44 l Z a0 hw [] cs_.length h0 n0 (Nat.le_trans Z0 (Keep.refl h0 []).1) hl5) (by decide) (by decide) (g := (mkF m 33 #[iv (0 : Int32), rv r1, iv (1 : Int32), iv (0 : Int32), .unset, .unset, .unset, .unset, .unset] [(.int (own_len cs_))])) rfl hml.symm (argsL := [(.int (own_len cs_))]) (rest := []) (lenOf pd14 rfl) rfl (Nat.le_of_eq rfl) (hb hby d31_33) rfl hh3 (by decide) (by decide)
    obtain ⟨y13, ky13, rfl, N13q, Kc13, hy13, Vy13, Ey13⟩ := hQ13
    have N13 := Fr.app N3 N13q
    have K13 : Keep h0 T13.heap [] := (Keep.refl h0 []).trans Kc13 all0
    have g_y13 : n0 ≤ y13 := Nat.le_trans (Nat.le_trans Z0 (Keep.refl h0 []).1) hy13
    have sz_y13 : h0.size ≤ y13 := Nat.le_trans (Keep.refl h0 []).1 hy13
    obtain ⟨cl14, Ar14, -, S14, M14, -, -⟩ := id (V_r1.keep Kc13 nin0)
    have pre16 : ∀ t, Sx p e below T13 (mkF m 53 #[iv (0 : Int32), rv r1, iv (1 : Int32), iv (0 : Int32), rv y13, rv r1, iv (own_len cs_), iv (0 : Int32), .unset] [(.int (own_len cs_)), (.int (0 : Int32))]) t → Sx p e below s₁ g₀ t := by
      intro t kt
      refine pre12 _ ?_
      refine st13 _ ?_
      show Sx p e below T13 (mkF m 36 #[iv (0 : Int32), rv r1, iv (1 : Int32), iv (0 : Int32), .unset, .unset, .unset, .unset, .unset] [(.ref y13)]) _
      refine XS.astore X13.here hx rfl (hb hby d31_36) rfl rfl (l' := #[iv (0 : Int32), rv r1, iv (1 : Int32), iv (0 : Int32), rv y13, .unset, .unset, .unset, .unset]) rfl ?_
      refine XS.aloadN X13.here hx rfl (hb hby d31_38) rfl rfl ?_
      refine XS.astore X13.here hx rfl (hb hby d31_39) rfl rfl (l' := #[iv (0 : Int32), rv r1, iv (1 : Int32), iv (0 : Int32), rv y13, rv r1, .unset, .unset, .unset]) rfl ?_
      refine XS.aload X13.here hx rfl (hb hby d31_41) rfl rfl ?_
      refine X13.arraylength hx Ar14.1 (State.isArrayOf_alike hZ.alike Ar14.2.1) (g := (mkF m 43 #[iv (0 : Int32), rv r1, iv (1 : Int32), iv (0 : Int32), rv y13, rv r1, .unset, .unset, .unset] [(.ref r1)])) rfl rfl (hb hby d31_43) _ ?_
      rw [len_of S14 M14]
      show Sx p e below T13 (mkF m 44 #[iv (0 : Int32), rv r1, iv (1 : Int32), iv (0 : Int32), rv y13, rv r1, .unset, .unset, .unset] [(.int (own_len cs_))]) _
      refine XS.istore X13.here hx rfl (hb hby d31_44) rfl (l' := #[iv (0 : Int32), rv r1, iv (1 : Int32), iv (0 : Int32), rv y13, rv r1, iv (own_len cs_), .unset, .unset]) rfl ?_
      refine XS.iconst X13.here hx rfl (hb hby d31_46) ?_
      refine XS.istore X13.here hx rfl (hb hby d31_47) rfl (l' := #[iv (0 : Int32), rv r1, iv (1 : Int32), iv (0 : Int32), rv y13, rv r1, iv (own_len cs_), iv (0 : Int32), .unset]) rfl ?_
      refine XS.iload X13.here hx rfl (hb hby d31_49) rfl ?_
      refine XS.iload X13.here hx rfl (hb hby d31_51) rfl ?_
      exact kt
    have hc53_15 : (0 : Int32) < (own_len cs_) := (own_pos hpos (by omega))
    obtain ⟨cl17, Ar17, q17, S17, M17, H17, G17⟩ := id (V_r1.keep Kc13 nin0)
    have hin17 : ¬ ((0 : Int32) < 0 ∨ cl17.slots.size ≤ ((0 : Int32)).toNatClampNeg) := inb_of S17 ⟨by decide, own_pos hpos (by omega)⟩
    have hat17 : cl17.slots[((0 : Int32)).toNatClampNeg]? = some (.int ((cs_.getD 0 (0 : Int32)).toInt8.toInt32)) := H17.at hin17 (own_Mat0 (own_Lbat (own_get hpos)))
    have pre18 : ∀ t, Sx p e below T13 (mkF m 63 #[iv (0 : Int32), rv r1, iv (1 : Int32), iv (0 : Int32), rv y13, rv r1, iv (own_len cs_), iv (0 : Int32), iv ((cs_.getD 0 (0 : Int32)).toInt8.toInt32)] []) t → Sx p e below s₁ g₀ t := by
      intro t kt
      refine pre16 _ ?_
      refine XS.icmpNo X13.here hx rfl (hb hby d31_53) rfl (tlt hc53_15).2.1 ?_
      refine XS.aload X13.here hx rfl (hb hby d31_56) rfl rfl ?_
      refine XS.iload X13.here hx rfl (hb hby d31_58) rfl ?_
      refine X13.baloadBytes hx (j := (0 : Int32)) (v := (.int ((cs_.getD 0 (0 : Int32)).toInt8.toInt32))) Ar17.1 (State.isArrayOf_alike hZ.alike Ar17.2.1) Ar17.2.2 hin17 hat17 (g := (mkF m 60 #[iv (0 : Int32), rv r1, iv (1 : Int32), iv (0 : Int32), rv y13, rv r1, iv (own_len cs_), iv (0 : Int32), .unset] [(.int (0 : Int32)), (.ref r1)])) rfl rfl (hb hby d31_60) _ ?_
      show Sx p e below T13 (mkF m 61 #[iv (0 : Int32), rv r1, iv (1 : Int32), iv (0 : Int32), rv y13, rv r1, iv (own_len cs_), iv (0 : Int32), .unset] [(.int ((cs_.getD 0 (0 : Int32)).toInt8.toInt32))]) _
      refine XS.istore X13.here hx rfl (hb hby d31_61) rfl (l' := #[iv (0 : Int32), rv r1, iv (1 : Int32), iv (0 : Int32), rv y13, rv r1, iv (own_len cs_), iv (0 : Int32), iv ((cs_.getD 0 (0 : Int32)).toInt8.toInt32)]) rfl ?_
      exact kt
    obtain ⟨T19, h19, L19, ⟨X19, e19, N19, zz19, Va19, Vb19⟩, Kl19, st19⟩ := own_iter (tb := p.tables) (e := e) (below := below) (F := fun i => mkF m 63 #[.val (.int (0 : Int32)), .val (.ref r1), .val (.int (1 : Int32)), .val (.int (own_len (own_encs (cs_.take i)))), .val (.ref y13), .val (.ref r1), .val (.int (own_len cs_)), .val (.int (own_n i)), .val (.int ((cs_.getD i (0 : Int32)).toInt8.toInt32))] []) (Inv := fun i T h Ls => Stand p l e R31L s m #[(.int (0 : Int32)), (.ref r1), (.int (1 : Int32))] below meth c T Ls 1 10 ∧ T.heap = h ∧ Fr n0 Ls ∧ n0 ≤ h.size ∧ Arv Z h r1 kc .byte (own_len cs_) (own_M (own_Lb cs_)) (.int (0 : Int32)) ∧ Arv Z h y13 ky13 .byte (own_n (2 * cs_.length)) (own_M (own_encs (cs_.take i))) (.int (0 : Int32))) (ws := [y13]) (n := cs_.length - 1) (fun i T h Ls hi ⟨X, e1, N1, z1, Va, Vb⟩ => by
        have hne : r1 ≠ y13 := (Nat.ne_of_lt (Nat.lt_of_lt_of_le V_r1.lt hy13))
        obtain ⟨T', h', L', LL', X', e', N', K', hL', V', s'⟩ := own_t31 r1 y13 i (cs_.getD i (0 : Int32)) (cs_.getD (i + 1) (0 : Int32)) (own_n (2 * cs_.length)) kc ky13 cs_ X hx hZ hw hby hml hown e1 z1 N1 Va Vb g_y13 hne (own_get (by omega)) (own_get (by omega)) (by omega) hl5 hcs_ hL (own_nN (by omega))
        subst hL'
        exact ⟨T', h', L', ⟨X', e', N', Nat.le_trans z1 K'.1, Va.keep K' (ninS hne nin0), V'⟩, K', s'⟩) (cs_.length - 1) 0 T13 T13.heap _ (Nat.zero_add _) ⟨X13, rfl, N13, Nat.le_trans Z0 K13.1, (V_r1.keep Kc13 nin0), Vy13⟩
    have K19 : Keep h0 h19 [] := K13.trans Kl19 (allS (Or.inr sz_y13) all0)
    have hb2 := own_encsT2 (i := cs_.length - 1) hcs_ hL (by omega)
    have pre20 : ∀ t, Sx p e below T19 (mkF m 63 #[iv (0 : Int32), rv r1, iv (1 : Int32), iv (own_len (own_encs (cs_.take (cs_.length - 1)))), rv y13, rv r1, iv (own_len cs_), iv (own_n (cs_.length - 1)), iv ((cs_.getD (cs_.length - 1) (0 : Int32)).toInt8.toInt32)] []) t → Sx p e below s₁ g₀ t := by
      intro t kt
      refine pre18 _ ?_
      refine st19 _ ?_
      exact kt
    obtain ⟨T21, h21, L21, LL21, X21, e21, N21, Kc21, hE21, Vc21, st21⟩ := own_c31 r1 y13 (own_n (cs_.length - 1)) (cs_.getD (cs_.length - 1) (0 : Int32)) (own_n (2 * cs_.length)) ky13 cs_ (own_encs (cs_.take (cs_.length - 1))) X19 hx hZ hw hby hml hown e19 (Nat.le_trans Z0 K19.1) N19 Vb19 g_y13 (hcs_ _ (List.mem_of_getElem? (own_get (by omega)))) (hL _ (List.mem_of_getElem? (own_get (by omega)))) (by rw [own_nN (by omega)]; omega) (by omega)
    have K21 : Keep h0 h21 [] := K19.trans Kc21 (allS (Or.inr sz_y13) all0)
    have hF19 : LL21 = own_encs cs_ := hE21.trans (own_encsF hpos)
    have pre23 : ∀ t, Sx p e below T21 (mkF m 53 #[iv (0 : Int32), rv r1, iv (1 : Int32), iv (own_len (own_encs cs_)), rv y13, rv r1, iv (own_len cs_), iv (own_n cs_.length), iv ((cs_.getD (cs_.length - 1) (0 : Int32)).toInt8.toInt32)] [(.int (own_len cs_)), (.int (own_n cs_.length))]) t → Sx p e below s₁ g₀ t := by
      intro t kt
      refine pre20 _ ?_
      refine st21 _ ?_
      show Sx p e below T21 (mkF m 118 #[iv (0 : Int32), rv r1, iv (1 : Int32), iv (own_len LL21), rv y13, rv r1, iv (own_len cs_), iv (own_n (cs_.length - 1)), iv ((cs_.getD (cs_.length - 1) (0 : Int32)).toInt8.toInt32)] []) _
      refine XS.iinc X21.here hx rfl (hb hby d31_118) rfl (l' := #[iv (0 : Int32), rv r1, iv (1 : Int32), iv (own_len LL21), rv y13, rv r1, iv (own_len cs_), iv ((own_n (cs_.length - 1)) + (1 : Int32)), iv ((cs_.getD (cs_.length - 1) (0 : Int32)).toInt8.toInt32)]) rfl ?_
      show Sx p e below T21 (mkF m 121 #[iv (0 : Int32), rv r1, iv (1 : Int32), iv (own_len LL21), rv y13, rv r1, iv (own_len cs_), iv ((own_n (cs_.length - 1)) + (1 : Int32)), iv ((cs_.getD (cs_.length - 1) (0 : Int32)).toInt8.toInt32)] []) _
      rw [show ((own_n (cs_.length - 1)) + (1 : Int32)) = (own_n (cs_.length - 1 + 1)) from (own_nS (by omega))]
      show Sx p e below T21 (mkF m 121 #[iv (0 : Int32), rv r1, iv (1 : Int32), iv (own_len LL21), rv y13, rv r1, iv (own_len cs_), iv (own_n (cs_.length - 1 + 1)), iv ((cs_.getD (cs_.length - 1) (0 : Int32)).toInt8.toInt32)] []) _
      rw [show (own_n (cs_.length - 1 + 1)) = (own_n cs_.length) from (by rw [Nat.sub_add_cancel hpos])]
      show Sx p e below T21 (mkF m 121 #[iv (0 : Int32), rv r1, iv (1 : Int32), iv (own_len LL21), rv y13, rv r1, iv (own_len cs_), iv (own_n cs_.length), iv ((cs_.getD (cs_.length - 1) (0 : Int32)).toInt8.toInt32)] []) _
      rw [show (own_len LL21) = (own_len (own_encs cs_)) from (congrArg own_len hF19)]
      show Sx p e below T21 (mkF m 121 #[iv (0 : Int32), rv r1, iv (1 : Int32), iv (own_len (own_encs cs_)), rv y13, rv r1, iv (own_len cs_), iv (own_n cs_.length), iv ((cs_.getD (cs_.length - 1) (0 : Int32)).toInt8.toInt32)] []) _
      refine XS.goto X21.here hx rfl (pc0 := 121) (pc' := 49) rfl (hb hby d31_121) (by decide) (by decide) ?_
      refine XS.iload X21.here hx rfl (hb hby d31_49) rfl ?_
      refine XS.iload X21.here hx rfl (hb hby d31_51) rfl ?_
      exact kt
    have hc53_22 : ¬ ((own_n cs_.length) < (own_len cs_)) := (own_nge (Nat.le_refl _) (by omega))
    have VFhF19 := hF19 ▸ Vc21
    obtain ⟨cl24, Ar24, -, S24, M24, -, -⟩ := id VFhF19
    have pre25 : ∀ t, Sx p e below T21 (mkF m 128 #[iv (0 : Int32), rv r1, iv (1 : Int32), iv (own_len (own_encs cs_)), rv y13, rv r1, iv (own_len cs_), iv (own_n cs_.length), iv ((cs_.getD (cs_.length - 1) (0 : Int32)).toInt8.toInt32)] [(.int (own_n (2 * cs_.length))), (.int (own_len (own_encs cs_)))]) t → Sx p e below s₁ g₀ t := by
      intro t kt
      refine pre23 _ ?_
      refine XS.icmpYes X21.here hx rfl (pc0 := 53) (pc' := 124) rfl (hb hby d31_53) rfl (flt hc53_22).2.1 (by decide) (by decide) ?_
      refine XS.iloadN X21.here hx rfl (hb hby d31_124) rfl ?_
      refine XS.aload X21.here hx rfl (hb hby d31_125) rfl rfl ?_
      refine X21.arraylength hx (by rw [e21]; exact Ar24.1) (State.isArrayOf_alike hZ.alike Ar24.2.1) (g := (mkF m 127 #[iv (0 : Int32), rv r1, iv (1 : Int32), iv (own_len (own_encs cs_)), rv y13, rv r1, iv (own_len cs_), iv (own_n cs_.length), iv ((cs_.getD (cs_.length - 1) (0 : Int32)).toInt8.toInt32)] [(.ref y13), (.int (own_len (own_encs cs_)))])) rfl rfl (hb hby d31_127) _ ?_
      rw [len_of S24 M24]
      exact kt
    by_cases hc128 : (own_len (own_encs cs_)) = (own_n (2 * cs_.length))
    · have pre26 : ∀ t, Sx p e below T21 (mkF m 133 #[iv (0 : Int32), rv r1, iv (1 : Int32), iv (own_len (own_encs cs_)), rv y13, rv r1, iv (own_len cs_), iv (own_n cs_.length), iv ((cs_.getD (cs_.length - 1) (0 : Int32)).toInt8.toInt32)] [(.ref y13)]) t → Sx p e below s₁ g₀ t := by
        intro t kt
        refine pre25 _ ?_
        refine XS.icmpNo X21.here hx rfl (hb hby d31_128) rfl (teq hc128).2 ?_
        refine XS.aload X21.here hx rfl (hb hby d31_131) rfl rfl ?_
        exact kt
      obtain ⟨fs, hr, hrun, hended, hW, hsame⟩ := X21.leave (v := some (.ref y13)) (fun h => by rw [Bd.returns] at h; cases h)
      refine ⟨_, _, _, pre26 _ ?_, hrun, hended, ?_, ⟨_, rfl⟩, hW, hsame.mono (by decide) (by decide)⟩
      · show Steps p.tables e below (T21.setTop (mkF m 133 #[iv (0 : Int32), rv r1, iv (1 : Int32), iv (own_len (own_encs cs_)), rv y13, rv r1, iv (own_len cs_), iv (own_n cs_.length), iv ((cs_.getD (cs_.length - 1) (0 : Int32)).toInt8.toInt32)] [(.ref y13)])) _
        jvm_step X21.here [X21.here.top, hx, (hb hby d31_133), X21.method', Bd.returns, Value.isRef, FieldType.isReference]
        first | (intro acts; rw [hr _ acts rfl rfl rfl]) | rw [hr _ _ rfl rfl rfl]
        exact Steps.refl _
      · show Q31L Z r1 kc cs_ h0 n0 _ T21.heap _
        rw [e21]
        exact ⟨y13, ky13, rfl, N21, K21, sz_y13, (by rw [hc128]; exact VFhF19), ((Ey13.keep Kl19).keep Kc21)⟩
    · have pre27 : ∀ t, Sx p e below T21 (mkF m 137 #[iv (0 : Int32), rv r1, iv (1 : Int32), iv (own_len (own_encs cs_)), rv y13, rv r1, iv (own_len cs_), iv (own_n cs_.length), iv ((cs_.getD (cs_.length - 1) (0 : Int32)).toInt8.toInt32)] [(.int (own_len (own_encs cs_))), (.ref y13)]) t → Sx p e below s₁ g₀ t := by
        intro t kt
        refine pre25 _ ?_
        refine XS.icmpYes X21.here hx rfl (pc0 := 128) (pc' := 134) rfl (hb hby d31_128) rfl (feq hc128).2 (by decide) (by decide) ?_
        refine XS.aload X21.here hx rfl (hb hby d31_134) rfl rfl ?_
        refine XS.iloadN X21.here hx rfl (hb hby d31_136) rfl ?_
        exact kt
      obtain ⟨_, T28, Lc28, X28, hQ28, st28⟩ := own_cS X21 hx hZ (y := Y46) hown (own_w hw 280 rfl) (own_w hw 194 rfl) (own_w hw 110 rfl) (own_w hw 195 rfl) (by decide) (W := 0) (rm41 l Z a0 hw [] y13 ky13 (own_n (2 * cs_.length)) (own_encs cs_) h21 n0 (Nat.le_trans Z0 K21.1) VFhF19 ((Ey13.keep Kl19).keep Kc21) (by rw [own_nN (by omega)]; exact own_encs2 hcs_ hL) (by have := own_encs2 hcs_ hL; omega) (own_nP (by omega))) (by decide) (by decide) (g := (mkF m 137 #[iv (0 : Int32), rv r1, iv (1 : Int32), iv (own_len (own_encs cs_)), rv y13, rv r1, iv (own_len cs_), iv (own_n cs_.length), iv ((cs_.getD (cs_.length - 1) (0 : Int32)).toInt8.toInt32)] [(.int (own_len (own_encs cs_))), (.ref y13)])) rfl hml.symm (argsL := [(.ref y13), (.int (own_len (own_encs cs_)))]) (rest := []) (lenOf pd37 rfl) rfl (Nat.le_of_eq rfl) (hb hby d31_137) rfl e21 (by decide) (by decide)
      obtain ⟨y28, ky28, rfl, N28q, Kc28, hy28, Vy28, Ey28⟩ := hQ28
      have N28 := Fr.app N21 N28q
      have K28 : Keep h0 T28.heap [] := K21.trans Kc28 all0
      have g_y28 : n0 ≤ y28 := Nat.le_trans (Nat.le_trans Z0 K21.1) hy28
      have sz_y28 : h0.size ≤ y28 := Nat.le_trans K21.1 hy28
      have pre29 : ∀ t, Sx p e below T28 (mkF m 140 #[iv (0 : Int32), rv r1, iv (1 : Int32), iv (own_len (own_encs cs_)), rv y13, rv r1, iv (own_len cs_), iv (own_n cs_.length), iv ((cs_.getD (cs_.length - 1) (0 : Int32)).toInt8.toInt32)] [(.ref y28)]) t → Sx p e below s₁ g₀ t := by
        intro t kt
        refine pre27 _ ?_
        refine st28 _ ?_
        exact kt
      obtain ⟨fs, hr, hrun, hended, hW, hsame⟩ := X28.leave (v := some (.ref y28)) (fun h => by rw [Bd.returns] at h; cases h)
      refine ⟨_, _, _, pre29 _ ?_, hrun, hended, ?_, ⟨_, rfl⟩, hW, hsame.mono (by decide) (by decide)⟩
      · show Steps p.tables e below (T28.setTop (mkF m 140 #[iv (0 : Int32), rv r1, iv (1 : Int32), iv (own_len (own_encs cs_)), rv y13, rv r1, iv (own_len cs_), iv (own_n cs_.length), iv ((cs_.getD (cs_.length - 1) (0 : Int32)).toInt8.toInt32)] [(.ref y28)])) _
        jvm_step X28.here [X28.here.top, hx, (hb hby d31_140), X28.method', Bd.returns, Value.isRef, FieldType.isReference]
        first | (intro acts; rw [hr _ acts rfl rfl rfl]) | rw [hr _ _ rfl rfl rfl]
        exact Steps.refl _
      · show Q31L Z r1 kc cs_ h0 n0 _ T28.heap _
        exact ⟨y28, ky28, rfl, N28, K28, sz_y28, Vy28, Ey28⟩
theorem pn38 : plainName "java/lang/Character" = true := by first | (simp [plainName, overriddenIn]; done) | decide +kernel
abbrev D60 (q : Nat) (i : Instr) (k : Nat) : Prop := decode jdk_89_method_16_code q = .ok (i, k)
theorem d60_0 : D60 0 (.iload_n 0) 1 := by decide +kernel
theorem d60_1 : D60 1 (.ldc 75) 2 := by decide +kernel
theorem d60_3 : D60 3 (.if_icmp .lt 13) 3 := by decide +kernel
theorem d60_16 : D60 16 (.iconst 0) 1 := by decide +kernel
theorem d60_17 : D60 17 (.ireturn) 1 := by decide +kernel
theorem d60_6 : D60 6 (.iload_n 0) 1 := by decide +kernel
theorem d60_7 : D60 7 (.ldc 77) 2 := by decide +kernel
theorem d60_9 : D60 9 (.if_icmp .ge 7) 3 := by decide +kernel
theorem ef_60 (m : MethodId) (x0 : Int32) : entryFrame m #[(.int x0)] 1 = mkF m 0 #[.val (.int x0)] [] := by first | (simp [entryFrame, mkF, argsToLocals, Value.category]; done) | rfl
def Q60 (Z : State) (p0 : Int32) (h0 : Heap) (n0 : Nat) (v : Option Value) (h : Heap) (L : List Loc) : Prop := v = some (.int (0 : Int32)) ∧ Fr n0 L ∧ h = h0
abbrev R60 : Room := { frames := 0, cells := 0, slots := 0, locals := 0 }
theorem rm60 (l : Launch) (Z : State) (a0 : Array Value) (hw : ∀ d ∈ tables_1, d.before a0 Z = true) (ws : List Jvm.Cond) (p0 : Int32) (h0 : Heap) (n0 : Nat) (Z0 : n0 ≤ h0.size) (hsu : ¬ (p0 < (55296 : Int32)) → ¬ (p0 < (57344 : Int32))) :
    MetFree l Y50 (head1 (Jvm.Cond.code Y50 jdk_89_method_16_code 1 (some .boolean) :: ws) R60) (fun a U => a = #[(.int p0)] ∧ Z.Warmed39 U.vm ∧ U.heap = h0) (fun _ _ _ _ _ => True) (fun _ U o U' => ∃ v L, o = .returned v ∧ Q60 Z p0 h0 n0 v U'.heap L ∧ FrameEnd U o U' L R60.cells R60.slots) := by
  refine own_start (C := "java/lang/Character") (Q := Q60 Z p0 h0 n0) rfl (plainFor_of_name pn38) ?_
  intro p e s m below meth c s₁ g₀ hg₀ Bd hx hby hml hZ hown hnm X0 e0
  have N0 := Fr.nil n0
  have pre0 : ∀ t, Sx p e below s₁ (mkF m 0 #[iv p0] []) t → Sx p e below s₁ g₀ t := fun t k => by subst hg₀; exact castTop (ef_60 m p0) k
  have pre1 : ∀ t, Sx p e below s₁ (mkF m 3 #[iv p0] [(.int (55296 : Int32)), (.int p0)]) t → Sx p e below s₁ g₀ t := by
    intro t kt
    refine pre0 _ ?_
    refine XS.iloadN X0.here hx rfl (hb hby d60_0) rfl ?_
    refine X0.ldcInt hx hown (mvT hZ (own_w hw 270 rfl)) (g := (mkF m 1 #[iv p0] [(.int p0)])) rfl (hb hby d60_1) _ ?_
    exact kt
  by_cases hc3 : p0 < (55296 : Int32)
  · have pre2 : ∀ t, Sx p e below s₁ (mkF m 17 #[iv p0] [(.int (0 : Int32))]) t → Sx p e below s₁ g₀ t := by
      intro t kt
      refine pre1 _ ?_
      refine XS.icmpYes X0.here hx rfl (pc0 := 3) (pc' := 16) rfl (hb hby d60_3) rfl (tlt hc3).1 (by decide) (by decide) ?_
      refine XS.iconst X0.here hx rfl (hb hby d60_16) ?_
      exact kt
    obtain ⟨fs, hr, hrun, hended, hW, hsame⟩ := X0.leave (v := some (.int (0 : Int32))) (fun h => by rw [Bd.returns] at h; cases h)
    refine ⟨_, _, _, pre2 _ ?_, hrun, hended, ?_, ⟨_, rfl⟩, hW, hsame.mono (by decide) (by decide)⟩
    · show Steps p.tables e below (s₁.setTop (mkF m 17 #[iv p0] [(.int (0 : Int32))])) _
      exact retN X0 hx (t := .boolean) Bd.returns (by simp) (hb hby d60_17) hr
    · show Q60 Z p0 h0 n0 _ s₁.heap _
      rw [e0]
      exact ⟨rfl, N0, rfl⟩
  · have pre4 : ∀ t, Sx p e below s₁ (mkF m 9 #[iv p0] [(.int (57344 : Int32)), (.int p0)]) t → Sx p e below s₁ g₀ t := by
      intro t kt
      refine pre1 _ ?_
      refine XS.icmpNo X0.here hx rfl (hb hby d60_3) rfl (flt hc3).1 ?_
      refine XS.iloadN X0.here hx rfl (hb hby d60_6) rfl ?_
      refine X0.ldcInt hx hown (mvT hZ (own_w hw 279 rfl)) (g := (mkF m 7 #[iv p0] [(.int p0)])) rfl (hb hby d60_7) _ ?_
      exact kt
    have hc9_3 : ¬ (p0 < (57344 : Int32)) := (hsu hc3)
    have pre5 : ∀ t, Sx p e below s₁ (mkF m 17 #[iv p0] [(.int (0 : Int32))]) t → Sx p e below s₁ g₀ t := by
      intro t kt
      refine pre4 _ ?_
      refine XS.icmpYes X0.here hx rfl (pc0 := 9) (pc' := 16) rfl (hb hby d60_9) rfl (flt hc9_3).2.1 (by decide) (by decide) ?_
      refine XS.iconst X0.here hx rfl (hb hby d60_16) ?_
      exact kt
    obtain ⟨fs, hr, hrun, hended, hW, hsame⟩ := X0.leave (v := some (.int (0 : Int32))) (fun h => by rw [Bd.returns] at h; cases h)
    refine ⟨_, _, _, pre5 _ ?_, hrun, hended, ?_, ⟨_, rfl⟩, hW, hsame.mono (by decide) (by decide)⟩
    · show Steps p.tables e below (s₁.setTop (mkF m 17 #[iv p0] [(.int (0 : Int32))])) _
      exact retN X0 hx (t := .boolean) Bd.returns (by simp) (hb hby d60_17) hr
    · show Q60 Z p0 h0 n0 _ s₁.heap _
      rw [e0]
      exact ⟨rfl, N0, rfl⟩
def own_a0 (x : Int32) : Int32 := (((192 : Int32) ||| (x >>> ((6 : Int32) &&& 31))).toInt8.toInt32)
def own_a1 (x : Int32) : Int32 := (((128 : Int32) ||| (x &&& (63 : Int32))).toInt8.toInt32)
def own_b0 (x : Int32) : Int32 := (((224 : Int32) ||| (x >>> ((12 : Int32) &&& 31))).toInt8.toInt32)
def own_b1 (x : Int32) : Int32 := (((128 : Int32) ||| ((x >>> ((6 : Int32) &&& 31)) &&& (63 : Int32))).toInt8.toInt32)
abbrev D59 (q : Nat) (i : Instr) (k : Nat) : Prop := decode jdk_42_method_47_code q = .ok (i, k)
theorem d59_74 : D59 74 (.iload 6) 2 := by decide +kernel
theorem d59_76 : D59 76 (.sipush 128) 3 := by decide +kernel
theorem d59_79 : D59 79 (.if_icmp .ge 16) 3 := by decide +kernel
theorem d59_82 : D59 82 (.aload 5) 2 := by decide +kernel
theorem d59_84 : D59 84 (.iload_n 2) 1 := by decide +kernel
theorem d59_85 : D59 85 (.iinc 2 1) 3 := by decide +kernel
theorem d59_88 : D59 88 (.iload 6) 2 := by decide +kernel
theorem d59_90 : D59 90 (.i2b) 1 := by decide +kernel
theorem d59_91 : D59 91 (.bastore) 1 := by decide +kernel
theorem d59_92 : D59 92 (.goto 260) 3 := by decide +kernel
theorem d59_95 : D59 95 (.iload 6) 2 := by decide +kernel
theorem d59_97 : D59 97 (.sipush 2048) 3 := by decide +kernel
theorem d59_100 : D59 100 (.if_icmp .ge 40) 3 := by decide +kernel
theorem d59_103 : D59 103 (.aload 5) 2 := by decide +kernel
theorem d59_105 : D59 105 (.iload_n 2) 1 := by decide +kernel
theorem d59_106 : D59 106 (.iinc 2 1) 3 := by decide +kernel
theorem d59_109 : D59 109 (.sipush 192) 3 := by decide +kernel
theorem d59_112 : D59 112 (.iload 6) 2 := by decide +kernel
theorem d59_114 : D59 114 (.bipush 6) 2 := by decide +kernel
theorem d59_116 : D59 116 (.ishr) 1 := by decide +kernel
theorem d59_117 : D59 117 (.ior) 1 := by decide +kernel
theorem d59_118 : D59 118 (.i2b) 1 := by decide +kernel
theorem d59_119 : D59 119 (.bastore) 1 := by decide +kernel
theorem d59_120 : D59 120 (.aload 5) 2 := by decide +kernel
theorem d59_122 : D59 122 (.iload_n 2) 1 := by decide +kernel
theorem d59_123 : D59 123 (.iinc 2 1) 3 := by decide +kernel
theorem d59_126 : D59 126 (.sipush 128) 3 := by decide +kernel
theorem d59_129 : D59 129 (.iload 6) 2 := by decide +kernel
theorem d59_131 : D59 131 (.bipush 63) 2 := by decide +kernel
theorem d59_133 : D59 133 (.iand) 1 := by decide +kernel
theorem d59_134 : D59 134 (.ior) 1 := by decide +kernel
theorem d59_135 : D59 135 (.i2b) 1 := by decide +kernel
theorem d59_136 : D59 136 (.bastore) 1 := by decide +kernel
theorem d59_137 : D59 137 (.goto 215) 3 := by decide +kernel
theorem d59_140 : D59 140 (.iload 6) 2 := by decide +kernel
theorem pd39 : parseMethodDescriptor "(C)Z" = some ⟨[.char], some .boolean⟩ := by decide +kernel
theorem d59_142 : D59 142 (.invokestatic 404) 3 := by decide +kernel
theorem d59_145 : D59 145 (.ifCond .eq 153) 3 := by decide +kernel
theorem d59_298 : D59 298 (.aload 5) 2 := by decide +kernel
theorem d59_300 : D59 300 (.iload_n 2) 1 := by decide +kernel
theorem d59_301 : D59 301 (.iinc 2 1) 3 := by decide +kernel
theorem d59_304 : D59 304 (.sipush 224) 3 := by decide +kernel
theorem d59_307 : D59 307 (.iload 6) 2 := by decide +kernel
theorem d59_309 : D59 309 (.bipush 12) 2 := by decide +kernel
theorem d59_311 : D59 311 (.ishr) 1 := by decide +kernel
theorem d59_312 : D59 312 (.ior) 1 := by decide +kernel
theorem d59_313 : D59 313 (.i2b) 1 := by decide +kernel
theorem d59_314 : D59 314 (.bastore) 1 := by decide +kernel
theorem d59_315 : D59 315 (.aload 5) 2 := by decide +kernel
theorem d59_317 : D59 317 (.iload_n 2) 1 := by decide +kernel
theorem d59_318 : D59 318 (.iinc 2 1) 3 := by decide +kernel
theorem d59_321 : D59 321 (.sipush 128) 3 := by decide +kernel
theorem d59_324 : D59 324 (.iload 6) 2 := by decide +kernel
theorem d59_326 : D59 326 (.bipush 6) 2 := by decide +kernel
theorem d59_328 : D59 328 (.ishr) 1 := by decide +kernel
theorem d59_329 : D59 329 (.bipush 63) 2 := by decide +kernel
theorem d59_331 : D59 331 (.iand) 1 := by decide +kernel
theorem d59_332 : D59 332 (.ior) 1 := by decide +kernel
theorem d59_333 : D59 333 (.i2b) 1 := by decide +kernel
theorem d59_334 : D59 334 (.bastore) 1 := by decide +kernel
theorem d59_335 : D59 335 (.aload 5) 2 := by decide +kernel
theorem d59_337 : D59 337 (.iload_n 2) 1 := by decide +kernel
theorem d59_338 : D59 338 (.iinc 2 1) 3 := by decide +kernel
theorem d59_341 : D59 341 (.sipush 128) 3 := by decide +kernel
theorem d59_344 : D59 344 (.iload 6) 2 := by decide +kernel
theorem d59_346 : D59 346 (.bipush 63) 2 := by decide +kernel
theorem d59_348 : D59 348 (.iand) 1 := by decide +kernel
theorem d59_349 : D59 349 (.ior) 1 := by decide +kernel
theorem d59_350 : D59 350 (.i2b) 1 := by decide +kernel
theorem d59_351 : D59 351 (.bastore) 1 := by decide +kernel
theorem own_c59 {p : Program} {l : Launch} {e : Env} {s : State} {m : MethodId} {args : Array Value} {below : List Frame} {meth : Method} {c : Code} {T0 : State} {locs : List Loc} {Z : State} {a0 : Array Value} {h0 : Heap} {n0 : Nat} (r0 d : Addr) (spx xx z : Int32) (kd : ClassId) (cs_ LL : List Int32)
    (X0 : Stand p l e ({ frames := 2, cells := 2, slots := 30, locals := 80 } : Room) s m args below meth c T0 locs 1 15) (hx : p.tables.exec = Jvm.exec) (hZ : Z.Warmed39 s.vm) (hw : ∀ d ∈ tables_1, d.before a0 Z = true) (hby : c.code = jdk_42_method_47_code) (hml : c.maxLocals = 9) (hown : s.vm.findClass "java/lang/String" = some m.cls) (e0 : T0.heap = h0) (Z0 : n0 ≤ h0.size) (N0 : Fr n0 locs) (V_d : Arv Z h0 d kd .byte z (own_M LL) (.int (0 : Int32))) (g_d : n0 ≤ d) (hsu : ¬ (xx < (55296 : Int32)) → ¬ (xx < (57344 : Int32))) (hz : LL.length + 3 ≤ z.toNatClampNeg) (hL30 : LL.length ≤ 30) :
    ∃ (T' : State) (h' : Heap) (Ls : List Loc) (LL' : List Int32), Stand p l e ({ frames := 2, cells := 2, slots := 30, locals := 80 } : Room) s m args below meth c T' Ls 1 15 ∧ T'.heap = h' ∧ Fr n0 Ls ∧ Keep h0 h' [d] ∧ LL' = LL ++ own_enc xx ∧ Arv Z h' d kd .byte z (own_M LL') (.int (0 : Int32)) ∧ ∀ t, Steps p.tables e below (T'.setTop (mkF m 352 #[.val (.ref r0), .val (.int (1 : Int32)), .val (.int (own_len LL')), .val (.int spx), .val (.int (own_len cs_)), .val (.ref d), .val (.int xx), .unset, .unset] [])) t → Steps p.tables e below (T0.setTop (mkF m 74 #[.val (.ref r0), .val (.int (1 : Int32)), .val (.int (own_len LL)), .val (.int spx), .val (.int (own_len cs_)), .val (.ref d), .val (.int xx), .unset, .unset] [])) t := by
  have pre0 : ∀ t, Steps p.tables e below (T0.setTop (mkF m 74 #[rv r0, iv (1 : Int32), iv (own_len LL), iv spx, iv (own_len cs_), rv d, iv xx, .unset, .unset] [])) t → Steps p.tables e below (T0.setTop (mkF m 74 #[rv r0, iv (1 : Int32), iv (own_len LL), iv spx, iv (own_len cs_), rv d, iv xx, .unset, .unset] [])) t := fun _ k => k
  have pre1 : ∀ t, Sx p e below T0 (mkF m 79 #[rv r0, iv (1 : Int32), iv (own_len LL), iv spx, iv (own_len cs_), rv d, iv xx, .unset, .unset] [(.int (128 : Int32)), (.int xx)]) t → Steps p.tables e below (T0.setTop (mkF m 74 #[rv r0, iv (1 : Int32), iv (own_len LL), iv spx, iv (own_len cs_), rv d, iv xx, .unset, .unset] [])) t := by
    intro t kt
    refine pre0 _ ?_
    refine XS.iload X0.here hx rfl (hb hby d59_74) rfl ?_
    refine XS.sipush X0.here hx rfl (hb hby d59_76) ?_
    exact kt
  by_cases hc79 : xx < (128 : Int32)
  · have pre2 : ∀ t, Sx p e below T0 (mkF m 91 #[rv r0, iv (1 : Int32), iv (own_len (LL ++ [(xx.toInt8.toInt32)])), iv spx, iv (own_len cs_), rv d, iv xx, .unset, .unset] [(.int (xx.toInt8.toInt32)), (.int (own_len LL)), (.ref d)]) t → Steps p.tables e below (T0.setTop (mkF m 74 #[rv r0, iv (1 : Int32), iv (own_len LL), iv spx, iv (own_len cs_), rv d, iv xx, .unset, .unset] [])) t := by
      intro t kt
      refine pre1 _ ?_
      refine XS.icmpNo X0.here hx rfl (hb hby d59_79) rfl (tlt hc79).2.1 ?_
      refine XS.aload X0.here hx rfl (hb hby d59_82) rfl rfl ?_
      refine XS.iloadN X0.here hx rfl (hb hby d59_84) rfl ?_
      refine XS.iinc X0.here hx rfl (hb hby d59_85) rfl (l' := #[rv r0, iv (1 : Int32), iv ((own_len LL) + (1 : Int32)), iv spx, iv (own_len cs_), rv d, iv xx, .unset, .unset]) rfl ?_
      show Sx p e below T0 (mkF m 88 #[rv r0, iv (1 : Int32), iv ((own_len LL) + (1 : Int32)), iv spx, iv (own_len cs_), rv d, iv xx, .unset, .unset] [(.int (own_len LL)), (.ref d)]) _
      rw [show ((own_len LL) + (1 : Int32)) = (own_len (LL ++ [(xx.toInt8.toInt32)])) from (own_p1 _ _ (by omega))]
      show Sx p e below T0 (mkF m 88 #[rv r0, iv (1 : Int32), iv (own_len (LL ++ [(xx.toInt8.toInt32)])), iv spx, iv (own_len cs_), rv d, iv xx, .unset, .unset] [(.int (own_len LL)), (.ref d)]) _
      refine XS.iload X0.here hx rfl (hb hby d59_88) rfl ?_
      refine XS.i2b X0.here hx rfl (hb hby d59_90) rfl ?_
      exact kt
    obtain ⟨cl3, Ar3, q3, S3, M3, H3, G3⟩ := id V_d
    have hin3 : ¬ ((own_len LL) < 0 ∨ cl3.slots.size ≤ ((own_len LL)).toNatClampNeg) := inb_of S3 (own_pb0 (by omega) (by omega))
    obtain ⟨T3, h3, X3, e3, W3, st3⟩ := stB X0 hx hZ e0 Ar3 (j := (own_len LL)) hin3 (g := (mkF m 91 #[rv r0, iv (1 : Int32), iv (own_len (LL ++ [(xx.toInt8.toInt32)])), iv spx, iv (own_len cs_), rv d, iv xx, .unset, .unset] [(.int (xx.toInt8.toInt32)), (.int (own_len LL)), (.ref d)])) rfl rfl (hb hby d59_91)
    have nn3 : nar .byte (xx.toInt8.toInt32) = (xx.toInt8.toInt32) := (own_nb _)
    rw [nn3] at W3
    have V3 : Arv Z h3 d kd .byte z (own_M (LL ++ [(xx.toInt8.toInt32)])) (.int (0 : Int32)) := own_push Ar3 q3 S3 M3 H3 G3 (own_fb nn3) W3 (own_lenN _ (by omega))
    have K3 : Keep h0 h3 [d] := (Keep.refl h0 [d]).wr W3 (Or.inl (List.mem_of_getElem? (i := 0) rfl))
    have N3 := Fr.snoc X3 N0 g_d
    have pre4 : ∀ t, Sx p e below T3 (mkF m 352 #[rv r0, iv (1 : Int32), iv (own_len (LL ++ [(xx.toInt8.toInt32)])), iv spx, iv (own_len cs_), rv d, iv xx, .unset, .unset] []) t → Steps p.tables e below (T0.setTop (mkF m 74 #[rv r0, iv (1 : Int32), iv (own_len LL), iv spx, iv (own_len cs_), rv d, iv xx, .unset, .unset] [])) t := by
      intro t kt
      refine pre2 _ ?_
      refine st3 _ ?_
      show Sx p e below T3 (mkF m 92 #[rv r0, iv (1 : Int32), iv (own_len (LL ++ [(xx.toInt8.toInt32)])), iv spx, iv (own_len cs_), rv d, iv xx, .unset, .unset] []) _
      refine XS.goto X3.here hx rfl (pc0 := 92) (pc' := 352) rfl (hb hby d59_92) (by decide) (by decide) ?_
      exact kt
    exact ⟨T3, h3, _, _, X3, e3, N3, K3, (by rw [own_e1 hc79]), V3, pre4⟩
  · have pre5 : ∀ t, Sx p e below T0 (mkF m 100 #[rv r0, iv (1 : Int32), iv (own_len LL), iv spx, iv (own_len cs_), rv d, iv xx, .unset, .unset] [(.int (2048 : Int32)), (.int xx)]) t → Steps p.tables e below (T0.setTop (mkF m 74 #[rv r0, iv (1 : Int32), iv (own_len LL), iv spx, iv (own_len cs_), rv d, iv xx, .unset, .unset] [])) t := by
      intro t kt
      refine pre1 _ ?_
      refine XS.icmpYes X0.here hx rfl (pc0 := 79) (pc' := 95) rfl (hb hby d59_79) rfl (flt hc79).2.1 (by decide) (by decide) ?_
      refine XS.iload X0.here hx rfl (hb hby d59_95) rfl ?_
      refine XS.sipush X0.here hx rfl (hb hby d59_97) ?_
      exact kt
    by_cases hc100 : xx < (2048 : Int32)
    · have pre6 : ∀ t, Sx p e below T0 (mkF m 119 #[rv r0, iv (1 : Int32), iv (own_len (LL ++ [(own_a0 xx)])), iv spx, iv (own_len cs_), rv d, iv xx, .unset, .unset] [(.int (own_a0 xx)), (.int (own_len LL)), (.ref d)]) t → Steps p.tables e below (T0.setTop (mkF m 74 #[rv r0, iv (1 : Int32), iv (own_len LL), iv spx, iv (own_len cs_), rv d, iv xx, .unset, .unset] [])) t := by
        intro t kt
        refine pre5 _ ?_
        refine XS.icmpNo X0.here hx rfl (hb hby d59_100) rfl (tlt hc100).2.1 ?_
        refine XS.aload X0.here hx rfl (hb hby d59_103) rfl rfl ?_
        refine XS.iloadN X0.here hx rfl (hb hby d59_105) rfl ?_
        refine XS.iinc X0.here hx rfl (hb hby d59_106) rfl (l' := #[rv r0, iv (1 : Int32), iv ((own_len LL) + (1 : Int32)), iv spx, iv (own_len cs_), rv d, iv xx, .unset, .unset]) rfl ?_
        show Sx p e below T0 (mkF m 109 #[rv r0, iv (1 : Int32), iv ((own_len LL) + (1 : Int32)), iv spx, iv (own_len cs_), rv d, iv xx, .unset, .unset] [(.int (own_len LL)), (.ref d)]) _
        rw [show ((own_len LL) + (1 : Int32)) = (own_len (LL ++ [(own_a0 xx)])) from (own_p1 _ _ (by omega))]
        show Sx p e below T0 (mkF m 109 #[rv r0, iv (1 : Int32), iv (own_len (LL ++ [(own_a0 xx)])), iv spx, iv (own_len cs_), rv d, iv xx, .unset, .unset] [(.int (own_len LL)), (.ref d)]) _
        refine XS.sipush X0.here hx rfl (hb hby d59_109) ?_
        refine XS.iload X0.here hx rfl (hb hby d59_112) rfl ?_
        refine XS.bipush X0.here hx rfl (hb hby d59_114) ?_
        refine XS.ishr X0.here hx rfl (hb hby d59_116) rfl ?_
        refine XS.ior X0.here hx rfl (hb hby d59_117) rfl ?_
        refine XS.i2b X0.here hx rfl (hb hby d59_118) rfl ?_
        show Sx p e below T0 (mkF m 119 #[rv r0, iv (1 : Int32), iv (own_len (LL ++ [(own_a0 xx)])), iv spx, iv (own_len cs_), rv d, iv xx, .unset, .unset] [(.int (((192 : Int32) ||| (xx >>> ((6 : Int32) &&& 31))).toInt8.toInt32)), (.int (own_len LL)), (.ref d)]) _
        rw [show (((192 : Int32) ||| (xx >>> ((6 : Int32) &&& 31))).toInt8.toInt32) = (own_a0 xx) from rfl]
        exact kt
      obtain ⟨cl7, Ar7, q7, S7, M7, H7, G7⟩ := id V_d
      have hin7 : ¬ ((own_len LL) < 0 ∨ cl7.slots.size ≤ ((own_len LL)).toNatClampNeg) := inb_of S7 (own_pb0 (by omega) (by omega))
      obtain ⟨T7, h7, X7, e7, W7, st7⟩ := stB X0 hx hZ e0 Ar7 (j := (own_len LL)) hin7 (g := (mkF m 119 #[rv r0, iv (1 : Int32), iv (own_len (LL ++ [(own_a0 xx)])), iv spx, iv (own_len cs_), rv d, iv xx, .unset, .unset] [(.int (own_a0 xx)), (.int (own_len LL)), (.ref d)])) rfl rfl (hb hby d59_119)
      have nn7 : nar .byte (own_a0 xx) = (own_a0 xx) := (own_nb _)
      rw [nn7] at W7
      have V7 : Arv Z h7 d kd .byte z (own_M (LL ++ [(own_a0 xx)])) (.int (0 : Int32)) := own_push Ar7 q7 S7 M7 H7 G7 (own_fb nn7) W7 (own_lenN _ (by omega))
      have K7 : Keep h0 h7 [d] := (Keep.refl h0 [d]).wr W7 (Or.inl (List.mem_of_getElem? (i := 0) rfl))
      have N7 := Fr.snoc X7 N0 g_d
      have pre8 : ∀ t, Sx p e below T7 (mkF m 136 #[rv r0, iv (1 : Int32), iv (own_len (LL ++ [(own_a0 xx)] ++ [(own_a1 xx)])), iv spx, iv (own_len cs_), rv d, iv xx, .unset, .unset] [(.int (own_a1 xx)), (.int (own_len (LL ++ [(own_a0 xx)]))), (.ref d)]) t → Steps p.tables e below (T0.setTop (mkF m 74 #[rv r0, iv (1 : Int32), iv (own_len LL), iv spx, iv (own_len cs_), rv d, iv xx, .unset, .unset] [])) t := by
        intro t kt
        refine pre6 _ ?_
        refine st7 _ ?_
        show Sx p e below T7 (mkF m 120 #[rv r0, iv (1 : Int32), iv (own_len (LL ++ [(own_a0 xx)])), iv spx, iv (own_len cs_), rv d, iv xx, .unset, .unset] []) _
        refine XS.aload X7.here hx rfl (hb hby d59_120) rfl rfl ?_
        refine XS.iloadN X7.here hx rfl (hb hby d59_122) rfl ?_
        refine XS.iinc X7.here hx rfl (hb hby d59_123) rfl (l' := #[rv r0, iv (1 : Int32), iv ((own_len (LL ++ [(own_a0 xx)])) + (1 : Int32)), iv spx, iv (own_len cs_), rv d, iv xx, .unset, .unset]) rfl ?_
        show Sx p e below T7 (mkF m 126 #[rv r0, iv (1 : Int32), iv ((own_len (LL ++ [(own_a0 xx)])) + (1 : Int32)), iv spx, iv (own_len cs_), rv d, iv xx, .unset, .unset] [(.int (own_len (LL ++ [(own_a0 xx)]))), (.ref d)]) _
        rw [show ((own_len (LL ++ [(own_a0 xx)])) + (1 : Int32)) = (own_len (LL ++ [(own_a0 xx)] ++ [(own_a1 xx)])) from (own_p2 _ _ _ (by omega))]
        show Sx p e below T7 (mkF m 126 #[rv r0, iv (1 : Int32), iv (own_len (LL ++ [(own_a0 xx)] ++ [(own_a1 xx)])), iv spx, iv (own_len cs_), rv d, iv xx, .unset, .unset] [(.int (own_len (LL ++ [(own_a0 xx)]))), (.ref d)]) _
        refine XS.sipush X7.here hx rfl (hb hby d59_126) ?_
        refine XS.iload X7.here hx rfl (hb hby d59_129) rfl ?_
        refine XS.bipush X7.here hx rfl (hb hby d59_131) ?_
        refine XS.iand X7.here hx rfl (hb hby d59_133) rfl ?_
        refine XS.ior X7.here hx rfl (hb hby d59_134) rfl ?_
        refine XS.i2b X7.here hx rfl (hb hby d59_135) rfl ?_
        show Sx p e below T7 (mkF m 136 #[rv r0, iv (1 : Int32), iv (own_len (LL ++ [(own_a0 xx)] ++ [(own_a1 xx)])), iv spx, iv (own_len cs_), rv d, iv xx, .unset, .unset] [(.int (((128 : Int32) ||| (xx &&& (63 : Int32))).toInt8.toInt32)), (.int (own_len (LL ++ [(own_a0 xx)]))), (.ref d)]) _
        rw [show (((128 : Int32) ||| (xx &&& (63 : Int32))).toInt8.toInt32) = (own_a1 xx) from rfl]
        exact kt
      obtain ⟨cl9, Ar9, q9, S9, M9, H9, G9⟩ := id V7
      have hin9 : ¬ ((own_len (LL ++ [(own_a0 xx)])) < 0 ∨ cl9.slots.size ≤ ((own_len (LL ++ [(own_a0 xx)]))).toNatClampNeg) := inb_of S9 (own_pb0 (by simp; omega) (by simp; omega))
      obtain ⟨T9, h9, X9, e9, W9, st9⟩ := stB X7 hx hZ e7 Ar9 (j := (own_len (LL ++ [(own_a0 xx)]))) hin9 (g := (mkF m 136 #[rv r0, iv (1 : Int32), iv (own_len (LL ++ [(own_a0 xx)] ++ [(own_a1 xx)])), iv spx, iv (own_len cs_), rv d, iv xx, .unset, .unset] [(.int (own_a1 xx)), (.int (own_len (LL ++ [(own_a0 xx)]))), (.ref d)])) rfl rfl (hb hby d59_136)
      have nn9 : nar .byte (own_a1 xx) = (own_a1 xx) := (own_nb _)
      rw [nn9] at W9
      have V9 : Arv Z h9 d kd .byte z (own_M (LL ++ [(own_a0 xx)] ++ [(own_a1 xx)])) (.int (0 : Int32)) := own_push Ar9 q9 S9 M9 H9 G9 (own_fb nn9) W9 (own_lenN _ (by simp; omega))
      have K9 : Keep h0 h9 [d] := K7.wr W9 (Or.inl (List.mem_of_getElem? (i := 0) rfl))
      have N9 := Fr.snoc X9 N7 g_d
      have pre10 : ∀ t, Sx p e below T9 (mkF m 352 #[rv r0, iv (1 : Int32), iv (own_len (LL ++ [(own_a0 xx)] ++ [(own_a1 xx)])), iv spx, iv (own_len cs_), rv d, iv xx, .unset, .unset] []) t → Steps p.tables e below (T0.setTop (mkF m 74 #[rv r0, iv (1 : Int32), iv (own_len LL), iv spx, iv (own_len cs_), rv d, iv xx, .unset, .unset] [])) t := by
        intro t kt
        refine pre8 _ ?_
        refine st9 _ ?_
        show Sx p e below T9 (mkF m 137 #[rv r0, iv (1 : Int32), iv (own_len (LL ++ [(own_a0 xx)] ++ [(own_a1 xx)])), iv spx, iv (own_len cs_), rv d, iv xx, .unset, .unset] []) _
        refine XS.goto X9.here hx rfl (pc0 := 137) (pc' := 352) rfl (hb hby d59_137) (by decide) (by decide) ?_
        exact kt
      exact ⟨T9, h9, _, _, X9, e9, N9, K9, (by rw [own_e2 hc79 hc100]; simp only [List.append_assoc]; rfl), V9, pre10⟩
    · have pre11 : ∀ t, Sx p e below T0 (mkF m 142 #[rv r0, iv (1 : Int32), iv (own_len LL), iv spx, iv (own_len cs_), rv d, iv xx, .unset, .unset] [(.int xx)]) t → Steps p.tables e below (T0.setTop (mkF m 74 #[rv r0, iv (1 : Int32), iv (own_len LL), iv spx, iv (own_len cs_), rv d, iv xx, .unset, .unset] [])) t := by
        intro t kt
        refine pre5 _ ?_
        refine XS.icmpYes X0.here hx rfl (pc0 := 100) (pc' := 140) rfl (hb hby d59_100) rfl (flt hc100).2.1 (by decide) (by decide) ?_
        refine XS.iload X0.here hx rfl (hb hby d59_140) rfl ?_
        exact kt
      obtain ⟨_, T12, Lc12, X12, hQ12, st12⟩ := own_cS X0 hx hZ (y := Y50) hown (own_w hw 266 rfl) (own_w hw 267 rfl) (own_w hw 268 rfl) (own_w hw 269 rfl) (by decide) (W := 0) (rm60 l Z a0 hw [] xx h0 n0 (Nat.le_trans Z0 (Keep.refl h0 [d]).1) hsu) (by decide) (by decide) (g := (mkF m 142 #[rv r0, iv (1 : Int32), iv (own_len LL), iv spx, iv (own_len cs_), rv d, iv xx, .unset, .unset] [(.int xx)])) rfl hml.symm (argsL := [(.int xx)]) (rest := []) (lenOf pd39 rfl) rfl (Nat.le_of_eq rfl) (hb hby d59_142) rfl e0 (by decide) (by decide)
      obtain ⟨rfl, N12q, hh12⟩ := hQ12
      have N12 := Fr.app N0 N12q
      have pre13 : ∀ t, Sx p e below T12 (mkF m 314 #[rv r0, iv (1 : Int32), iv (own_len (LL ++ [(own_b0 xx)])), iv spx, iv (own_len cs_), rv d, iv xx, .unset, .unset] [(.int (own_b0 xx)), (.int (own_len LL)), (.ref d)]) t → Steps p.tables e below (T0.setTop (mkF m 74 #[rv r0, iv (1 : Int32), iv (own_len LL), iv spx, iv (own_len cs_), rv d, iv xx, .unset, .unset] [])) t := by
        intro t kt
        refine pre11 _ ?_
        refine st12 _ ?_
        show Sx p e below T12 (mkF m 145 #[rv r0, iv (1 : Int32), iv (own_len LL), iv spx, iv (own_len cs_), rv d, iv xx, .unset, .unset] [(.int (0 : Int32))]) _
        refine XS.ifYes X12.here hx rfl (pc0 := 145) (pc' := 298) rfl (hb hby d59_145) rfl ((if0 _ _).trans (teq (by decide)).1) (by decide) (by decide) ?_
        refine XS.aload X12.here hx rfl (hb hby d59_298) rfl rfl ?_
        refine XS.iloadN X12.here hx rfl (hb hby d59_300) rfl ?_
        refine XS.iinc X12.here hx rfl (hb hby d59_301) rfl (l' := #[rv r0, iv (1 : Int32), iv ((own_len LL) + (1 : Int32)), iv spx, iv (own_len cs_), rv d, iv xx, .unset, .unset]) rfl ?_
        show Sx p e below T12 (mkF m 304 #[rv r0, iv (1 : Int32), iv ((own_len LL) + (1 : Int32)), iv spx, iv (own_len cs_), rv d, iv xx, .unset, .unset] [(.int (own_len LL)), (.ref d)]) _
        rw [show ((own_len LL) + (1 : Int32)) = (own_len (LL ++ [(own_b0 xx)])) from (own_p1 _ _ (by omega))]
        show Sx p e below T12 (mkF m 304 #[rv r0, iv (1 : Int32), iv (own_len (LL ++ [(own_b0 xx)])), iv spx, iv (own_len cs_), rv d, iv xx, .unset, .unset] [(.int (own_len LL)), (.ref d)]) _
        refine XS.sipush X12.here hx rfl (hb hby d59_304) ?_
        refine XS.iload X12.here hx rfl (hb hby d59_307) rfl ?_
        refine XS.bipush X12.here hx rfl (hb hby d59_309) ?_
        refine XS.ishr X12.here hx rfl (hb hby d59_311) rfl ?_
        refine XS.ior X12.here hx rfl (hb hby d59_312) rfl ?_
        refine XS.i2b X12.here hx rfl (hb hby d59_313) rfl ?_
        show Sx p e below T12 (mkF m 314 #[rv r0, iv (1 : Int32), iv (own_len (LL ++ [(own_b0 xx)])), iv spx, iv (own_len cs_), rv d, iv xx, .unset, .unset] [(.int (((224 : Int32) ||| (xx >>> ((12 : Int32) &&& 31))).toInt8.toInt32)), (.int (own_len LL)), (.ref d)]) _
        rw [show (((224 : Int32) ||| (xx >>> ((12 : Int32) &&& 31))).toInt8.toInt32) = (own_b0 xx) from rfl]
        exact kt
      obtain ⟨cl14, Ar14, q14, S14, M14, H14, G14⟩ := id V_d
      have hin14 : ¬ ((own_len LL) < 0 ∨ cl14.slots.size ≤ ((own_len LL)).toNatClampNeg) := inb_of S14 (own_pb0 (by omega) (by omega))
      obtain ⟨T14, h14, X14, e14, W14, st14⟩ := stB X12 hx hZ hh12 Ar14 (j := (own_len LL)) hin14 (g := (mkF m 314 #[rv r0, iv (1 : Int32), iv (own_len (LL ++ [(own_b0 xx)])), iv spx, iv (own_len cs_), rv d, iv xx, .unset, .unset] [(.int (own_b0 xx)), (.int (own_len LL)), (.ref d)])) rfl rfl (hb hby d59_314)
      have nn14 : nar .byte (own_b0 xx) = (own_b0 xx) := (own_nb _)
      rw [nn14] at W14
      have V14 : Arv Z h14 d kd .byte z (own_M (LL ++ [(own_b0 xx)])) (.int (0 : Int32)) := own_push Ar14 q14 S14 M14 H14 G14 (own_fb nn14) W14 (own_lenN _ (by omega))
      have K14 : Keep h0 h14 [d] := (Keep.refl h0 [d]).wr W14 (Or.inl (List.mem_of_getElem? (i := 0) rfl))
      have N14 := Fr.snoc X14 N12 g_d
      have pre15 : ∀ t, Sx p e below T14 (mkF m 334 #[rv r0, iv (1 : Int32), iv (own_len (LL ++ [(own_b0 xx)] ++ [(own_b1 xx)])), iv spx, iv (own_len cs_), rv d, iv xx, .unset, .unset] [(.int (own_b1 xx)), (.int (own_len (LL ++ [(own_b0 xx)]))), (.ref d)]) t → Steps p.tables e below (T0.setTop (mkF m 74 #[rv r0, iv (1 : Int32), iv (own_len LL), iv spx, iv (own_len cs_), rv d, iv xx, .unset, .unset] [])) t := by
        intro t kt
        refine pre13 _ ?_
        refine st14 _ ?_
        show Sx p e below T14 (mkF m 315 #[rv r0, iv (1 : Int32), iv (own_len (LL ++ [(own_b0 xx)])), iv spx, iv (own_len cs_), rv d, iv xx, .unset, .unset] []) _
        refine XS.aload X14.here hx rfl (hb hby d59_315) rfl rfl ?_
        refine XS.iloadN X14.here hx rfl (hb hby d59_317) rfl ?_
        refine XS.iinc X14.here hx rfl (hb hby d59_318) rfl (l' := #[rv r0, iv (1 : Int32), iv ((own_len (LL ++ [(own_b0 xx)])) + (1 : Int32)), iv spx, iv (own_len cs_), rv d, iv xx, .unset, .unset]) rfl ?_
        show Sx p e below T14 (mkF m 321 #[rv r0, iv (1 : Int32), iv ((own_len (LL ++ [(own_b0 xx)])) + (1 : Int32)), iv spx, iv (own_len cs_), rv d, iv xx, .unset, .unset] [(.int (own_len (LL ++ [(own_b0 xx)]))), (.ref d)]) _
        rw [show ((own_len (LL ++ [(own_b0 xx)])) + (1 : Int32)) = (own_len (LL ++ [(own_b0 xx)] ++ [(own_b1 xx)])) from (own_p2 _ _ _ (by omega))]
        show Sx p e below T14 (mkF m 321 #[rv r0, iv (1 : Int32), iv (own_len (LL ++ [(own_b0 xx)] ++ [(own_b1 xx)])), iv spx, iv (own_len cs_), rv d, iv xx, .unset, .unset] [(.int (own_len (LL ++ [(own_b0 xx)]))), (.ref d)]) _
        refine XS.sipush X14.here hx rfl (hb hby d59_321) ?_
        refine XS.iload X14.here hx rfl (hb hby d59_324) rfl ?_
        refine XS.bipush X14.here hx rfl (hb hby d59_326) ?_
        refine XS.ishr X14.here hx rfl (hb hby d59_328) rfl ?_
        refine XS.bipush X14.here hx rfl (hb hby d59_329) ?_
        refine XS.iand X14.here hx rfl (hb hby d59_331) rfl ?_
        refine XS.ior X14.here hx rfl (hb hby d59_332) rfl ?_
        refine XS.i2b X14.here hx rfl (hb hby d59_333) rfl ?_
        show Sx p e below T14 (mkF m 334 #[rv r0, iv (1 : Int32), iv (own_len (LL ++ [(own_b0 xx)] ++ [(own_b1 xx)])), iv spx, iv (own_len cs_), rv d, iv xx, .unset, .unset] [(.int (((128 : Int32) ||| ((xx >>> ((6 : Int32) &&& 31)) &&& (63 : Int32))).toInt8.toInt32)), (.int (own_len (LL ++ [(own_b0 xx)]))), (.ref d)]) _
        rw [show (((128 : Int32) ||| ((xx >>> ((6 : Int32) &&& 31)) &&& (63 : Int32))).toInt8.toInt32) = (own_b1 xx) from rfl]
        exact kt
      obtain ⟨cl16, Ar16, q16, S16, M16, H16, G16⟩ := id V14
      have hin16 : ¬ ((own_len (LL ++ [(own_b0 xx)])) < 0 ∨ cl16.slots.size ≤ ((own_len (LL ++ [(own_b0 xx)]))).toNatClampNeg) := inb_of S16 (own_pb0 (by simp; omega) (by simp; omega))
      obtain ⟨T16, h16, X16, e16, W16, st16⟩ := stB X14 hx hZ e14 Ar16 (j := (own_len (LL ++ [(own_b0 xx)]))) hin16 (g := (mkF m 334 #[rv r0, iv (1 : Int32), iv (own_len (LL ++ [(own_b0 xx)] ++ [(own_b1 xx)])), iv spx, iv (own_len cs_), rv d, iv xx, .unset, .unset] [(.int (own_b1 xx)), (.int (own_len (LL ++ [(own_b0 xx)]))), (.ref d)])) rfl rfl (hb hby d59_334)
      have nn16 : nar .byte (own_b1 xx) = (own_b1 xx) := (own_nb _)
      rw [nn16] at W16
      have V16 : Arv Z h16 d kd .byte z (own_M (LL ++ [(own_b0 xx)] ++ [(own_b1 xx)])) (.int (0 : Int32)) := own_push Ar16 q16 S16 M16 H16 G16 (own_fb nn16) W16 (own_lenN _ (by simp; omega))
      have K16 : Keep h0 h16 [d] := K14.wr W16 (Or.inl (List.mem_of_getElem? (i := 0) rfl))
      have N16 := Fr.snoc X16 N14 g_d
      have pre17 : ∀ t, Sx p e below T16 (mkF m 351 #[rv r0, iv (1 : Int32), iv (own_len (LL ++ [(own_b0 xx)] ++ [(own_b1 xx)] ++ [(own_a1 xx)])), iv spx, iv (own_len cs_), rv d, iv xx, .unset, .unset] [(.int (own_a1 xx)), (.int (own_len (LL ++ [(own_b0 xx)] ++ [(own_b1 xx)]))), (.ref d)]) t → Steps p.tables e below (T0.setTop (mkF m 74 #[rv r0, iv (1 : Int32), iv (own_len LL), iv spx, iv (own_len cs_), rv d, iv xx, .unset, .unset] [])) t := by
        intro t kt
        refine pre15 _ ?_
        refine st16 _ ?_
        show Sx p e below T16 (mkF m 335 #[rv r0, iv (1 : Int32), iv (own_len (LL ++ [(own_b0 xx)] ++ [(own_b1 xx)])), iv spx, iv (own_len cs_), rv d, iv xx, .unset, .unset] []) _
        refine XS.aload X16.here hx rfl (hb hby d59_335) rfl rfl ?_
        refine XS.iloadN X16.here hx rfl (hb hby d59_337) rfl ?_
        refine XS.iinc X16.here hx rfl (hb hby d59_338) rfl (l' := #[rv r0, iv (1 : Int32), iv ((own_len (LL ++ [(own_b0 xx)] ++ [(own_b1 xx)])) + (1 : Int32)), iv spx, iv (own_len cs_), rv d, iv xx, .unset, .unset]) rfl ?_
        show Sx p e below T16 (mkF m 341 #[rv r0, iv (1 : Int32), iv ((own_len (LL ++ [(own_b0 xx)] ++ [(own_b1 xx)])) + (1 : Int32)), iv spx, iv (own_len cs_), rv d, iv xx, .unset, .unset] [(.int (own_len (LL ++ [(own_b0 xx)] ++ [(own_b1 xx)]))), (.ref d)]) _
        rw [show ((own_len (LL ++ [(own_b0 xx)] ++ [(own_b1 xx)])) + (1 : Int32)) = (own_len (LL ++ [(own_b0 xx)] ++ [(own_b1 xx)] ++ [(own_a1 xx)])) from (own_p3 _ _ _ _ (by omega))]
        show Sx p e below T16 (mkF m 341 #[rv r0, iv (1 : Int32), iv (own_len (LL ++ [(own_b0 xx)] ++ [(own_b1 xx)] ++ [(own_a1 xx)])), iv spx, iv (own_len cs_), rv d, iv xx, .unset, .unset] [(.int (own_len (LL ++ [(own_b0 xx)] ++ [(own_b1 xx)]))), (.ref d)]) _
        refine XS.sipush X16.here hx rfl (hb hby d59_341) ?_
        refine XS.iload X16.here hx rfl (hb hby d59_344) rfl ?_
        refine XS.bipush X16.here hx rfl (hb hby d59_346) ?_
        refine XS.iand X16.here hx rfl (hb hby d59_348) rfl ?_
        refine XS.ior X16.here hx rfl (hb hby d59_349) rfl ?_
        refine XS.i2b X16.here hx rfl (hb hby d59_350) rfl ?_
        show Sx p e below T16 (mkF m 351 #[rv r0, iv (1 : Int32), iv (own_len (LL ++ [(own_b0 xx)] ++ [(own_b1 xx)] ++ [(own_a1 xx)])), iv spx, iv (own_len cs_), rv d, iv xx, .unset, .unset] [(.int (((128 : Int32) ||| (xx &&& (63 : Int32))).toInt8.toInt32)), (.int (own_len (LL ++ [(own_b0 xx)] ++ [(own_b1 xx)]))), (.ref d)]) _
        rw [show (((128 : Int32) ||| (xx &&& (63 : Int32))).toInt8.toInt32) = (own_a1 xx) from rfl]
        exact kt
      obtain ⟨cl18, Ar18, q18, S18, M18, H18, G18⟩ := id V16
      have hin18 : ¬ ((own_len (LL ++ [(own_b0 xx)] ++ [(own_b1 xx)])) < 0 ∨ cl18.slots.size ≤ ((own_len (LL ++ [(own_b0 xx)] ++ [(own_b1 xx)]))).toNatClampNeg) := inb_of S18 (own_pb0 (by simp; omega) (by simp; omega))
      obtain ⟨T18, h18, X18, e18, W18, st18⟩ := stB X16 hx hZ e16 Ar18 (j := (own_len (LL ++ [(own_b0 xx)] ++ [(own_b1 xx)]))) hin18 (g := (mkF m 351 #[rv r0, iv (1 : Int32), iv (own_len (LL ++ [(own_b0 xx)] ++ [(own_b1 xx)] ++ [(own_a1 xx)])), iv spx, iv (own_len cs_), rv d, iv xx, .unset, .unset] [(.int (own_a1 xx)), (.int (own_len (LL ++ [(own_b0 xx)] ++ [(own_b1 xx)]))), (.ref d)])) rfl rfl (hb hby d59_351)
      have nn18 : nar .byte (own_a1 xx) = (own_a1 xx) := (own_nb _)
      rw [nn18] at W18
      have V18 : Arv Z h18 d kd .byte z (own_M (LL ++ [(own_b0 xx)] ++ [(own_b1 xx)] ++ [(own_a1 xx)])) (.int (0 : Int32)) := own_push Ar18 q18 S18 M18 H18 G18 (own_fb nn18) W18 (own_lenN _ (by simp; omega))
      have K18 : Keep h0 h18 [d] := K16.wr W18 (Or.inl (List.mem_of_getElem? (i := 0) rfl))
      have N18 := Fr.snoc X18 N16 g_d
      have pre19 : ∀ t, Sx p e below T18 (mkF m 352 #[rv r0, iv (1 : Int32), iv (own_len (LL ++ [(own_b0 xx)] ++ [(own_b1 xx)] ++ [(own_a1 xx)])), iv spx, iv (own_len cs_), rv d, iv xx, .unset, .unset] []) t → Steps p.tables e below (T0.setTop (mkF m 74 #[rv r0, iv (1 : Int32), iv (own_len LL), iv spx, iv (own_len cs_), rv d, iv xx, .unset, .unset] [])) t := by
        intro t kt
        refine pre17 _ ?_
        refine st18 _ ?_
        exact kt
      exact ⟨T18, h18, _, _, X18, e18, N18, K18, (by rw [own_e3 hc79 hc100]; simp only [List.append_assoc]; rfl), V18, pre19⟩
theorem d59_31 : D59 31 (.iload 6) 2 := by decide +kernel
theorem d59_33 : D59 33 (.sipush 128) 3 := by decide +kernel
theorem d59_36 : D59 36 (.if_icmp .lt 6) 3 := by decide +kernel
theorem d59_42 : D59 42 (.aload 5) 2 := by decide +kernel
theorem d59_44 : D59 44 (.iload_n 2) 1 := by decide +kernel
theorem d59_45 : D59 45 (.iinc 2 1) 3 := by decide +kernel
theorem d59_48 : D59 48 (.iload 6) 2 := by decide +kernel
theorem d59_50 : D59 50 (.i2b) 1 := by decide +kernel
theorem d59_51 : D59 51 (.bastore) 1 := by decide +kernel
theorem d59_52 : D59 52 (.iinc 3 1) 3 := by decide +kernel
theorem d59_55 : D59 55 (.goto (-37)) 3 := by decide +kernel
theorem d59_18 : D59 18 (.iload_n 3) 1 := by decide +kernel
theorem d59_19 : D59 19 (.iload 4) 2 := by decide +kernel
theorem d59_21 : D59 21 (.if_icmp .ge 37) 3 := by decide +kernel
theorem d59_24 : D59 24 (.aload_n 0) 1 := by decide +kernel
theorem d59_25 : D59 25 (.iload_n 3) 1 := by decide +kernel
theorem d59_26 : D59 26 (.invokestatic 360) 3 := by decide +kernel
theorem d59_29 : D59 29 (.istore 6) 2 := by decide +kernel
theorem own_t59a {p : Program} {l : Launch} {e : Env} {s : State} {m : MethodId} {args : Array Value} {below : List Frame} {meth : Method} {c : Code} {T0 : State} {locs : List Loc} {Z : State} {a0 : Array Value} {h0 : Heap} {n0 : Nat} (r0 d : Addr) (i : Nat) (xx yy z : Int32) (kc kd : ClassId) (cs_ : List Int32)
    (X0 : Stand p l e ({ frames := 2, cells := 2, slots := 30, locals := 80 } : Room) s m args below meth c T0 locs 1 15) (hx : p.tables.exec = Jvm.exec) (hZ : Z.Warmed39 s.vm) (hw : ∀ d ∈ tables_1, d.before a0 Z = true) (hby : c.code = jdk_42_method_47_code) (hml : c.maxLocals = 9) (hown : s.vm.findClass "java/lang/String" = some m.cls) (e0 : T0.heap = h0) (Z0 : n0 ≤ h0.size) (N0 : Fr n0 locs) (V_r0 : Arv Z h0 r0 kc .byte (own_len (own_U cs_)) (own_M (own_U cs_)) (.int (0 : Int32))) (V_d : Arv Z h0 d kd .byte z (own_M (own_encs (cs_.take i))) (.int (0 : Int32))) (g_d : n0 ≤ d) (hne : r0 ≠ d) (hxx : cs_[i]? = some xx) (hyy : cs_[i + 1]? = some yy) (hi : i + 1 < cs_.length) (hl5 : cs_.length ≤ 5) (hcs_ : ∀ x ∈ cs_, own_ch x) (hz : z.toNatClampNeg = 3 * cs_.length) (hlt : xx < (128 : Int32)) (O0 : Old Z n0 h0) (S_ad : Sta Z Z.heap "java/lang/StringUTF16" "$assertionsDisabled" "Z" (.int (1 : Int32))) (S_hi : Sta Z Z.heap "java/lang/StringUTF16" "HI_BYTE_SHIFT" "I" (.int (0 : Int32))) (S_lo : Sta Z Z.heap "java/lang/StringUTF16" "LO_BYTE_SHIFT" "I" (.int (8 : Int32))) :
    ∃ (T' : State) (h' : Heap) (Ls : List Loc) (LL' : List Int32), Stand p l e ({ frames := 2, cells := 2, slots := 30, locals := 80 } : Room) s m args below meth c T' Ls 1 15 ∧ T'.heap = h' ∧ Fr n0 Ls ∧ Keep h0 h' [d] ∧ LL' = (own_encs (cs_.take (i + 1))) ∧ Arv Z h' d kd .byte z (own_M LL') (.int (0 : Int32)) ∧ ∀ t, Steps p.tables e below (T'.setTop (mkF m 31 #[.val (.ref r0), .val (.int (1 : Int32)), .val (.int (own_len LL')), .val (.int (own_n (i + 1))), .val (.int (own_len cs_)), .val (.ref d), .val (.int yy), .unset, .unset] [])) t → Steps p.tables e below (T0.setTop (mkF m 31 #[.val (.ref r0), .val (.int (1 : Int32)), .val (.int (own_len (own_encs (cs_.take i)))), .val (.int (own_n i)), .val (.int (own_len cs_)), .val (.ref d), .val (.int xx), .unset, .unset] [])) t := by
  have pre0 : ∀ t, Steps p.tables e below (T0.setTop (mkF m 31 #[rv r0, iv (1 : Int32), iv (own_len (own_encs (cs_.take i))), iv (own_n i), iv (own_len cs_), rv d, iv xx, .unset, .unset] [])) t → Steps p.tables e below (T0.setTop (mkF m 31 #[rv r0, iv (1 : Int32), iv (own_len (own_encs (cs_.take i))), iv (own_n i), iv (own_len cs_), rv d, iv xx, .unset, .unset] [])) t := fun _ k => k
  have hb3 := own_encsT3 cs_ i
  have pre2 : ∀ t, Sx p e below T0 (mkF m 36 #[rv r0, iv (1 : Int32), iv (own_len (own_encs (cs_.take i))), iv (own_n i), iv (own_len cs_), rv d, iv xx, .unset, .unset] [(.int (128 : Int32)), (.int xx)]) t → Steps p.tables e below (T0.setTop (mkF m 31 #[rv r0, iv (1 : Int32), iv (own_len (own_encs (cs_.take i))), iv (own_n i), iv (own_len cs_), rv d, iv xx, .unset, .unset] [])) t := by
    intro t kt
    refine pre0 _ ?_
    refine XS.iload X0.here hx rfl (hb hby d59_31) rfl ?_
    refine XS.sipush X0.here hx rfl (hb hby d59_33) ?_
    exact kt
  have hc36_1 : xx < (128 : Int32) := hlt
  have pre3 : ∀ t, Sx p e below T0 (mkF m 51 #[rv r0, iv (1 : Int32), iv (own_len (own_encs (cs_.take i) ++ [(xx.toInt8.toInt32)])), iv (own_n i), iv (own_len cs_), rv d, iv xx, .unset, .unset] [(.int (xx.toInt8.toInt32)), (.int (own_len (own_encs (cs_.take i)))), (.ref d)]) t → Steps p.tables e below (T0.setTop (mkF m 31 #[rv r0, iv (1 : Int32), iv (own_len (own_encs (cs_.take i))), iv (own_n i), iv (own_len cs_), rv d, iv xx, .unset, .unset] [])) t := by
    intro t kt
    refine pre2 _ ?_
    refine XS.icmpYes X0.here hx rfl (pc0 := 36) (pc' := 42) rfl (hb hby d59_36) rfl (tlt hc36_1).1 (by decide) (by decide) ?_
    refine XS.aload X0.here hx rfl (hb hby d59_42) rfl rfl ?_
    refine XS.iloadN X0.here hx rfl (hb hby d59_44) rfl ?_
    refine XS.iinc X0.here hx rfl (hb hby d59_45) rfl (l' := #[rv r0, iv (1 : Int32), iv ((own_len (own_encs (cs_.take i))) + (1 : Int32)), iv (own_n i), iv (own_len cs_), rv d, iv xx, .unset, .unset]) rfl ?_
    show Sx p e below T0 (mkF m 48 #[rv r0, iv (1 : Int32), iv ((own_len (own_encs (cs_.take i))) + (1 : Int32)), iv (own_n i), iv (own_len cs_), rv d, iv xx, .unset, .unset] [(.int (own_len (own_encs (cs_.take i)))), (.ref d)]) _
    rw [show ((own_len (own_encs (cs_.take i))) + (1 : Int32)) = (own_len (own_encs (cs_.take i) ++ [(xx.toInt8.toInt32)])) from (own_p1 _ _ (by omega))]
    show Sx p e below T0 (mkF m 48 #[rv r0, iv (1 : Int32), iv (own_len (own_encs (cs_.take i) ++ [(xx.toInt8.toInt32)])), iv (own_n i), iv (own_len cs_), rv d, iv xx, .unset, .unset] [(.int (own_len (own_encs (cs_.take i)))), (.ref d)]) _
    refine XS.iload X0.here hx rfl (hb hby d59_48) rfl ?_
    refine XS.i2b X0.here hx rfl (hb hby d59_50) rfl ?_
    exact kt
  obtain ⟨cl4, Ar4, q4, S4, M4, H4, G4⟩ := id V_d
  have hin4 : ¬ ((own_len (own_encs (cs_.take i))) < 0 ∨ cl4.slots.size ≤ ((own_len (own_encs (cs_.take i)))).toNatClampNeg) := inb_of S4 (own_pb0 (by omega) (by omega))
  obtain ⟨T4, h4, X4, e4, W4, st4⟩ := stB X0 hx hZ e0 Ar4 (j := (own_len (own_encs (cs_.take i)))) hin4 (g := (mkF m 51 #[rv r0, iv (1 : Int32), iv (own_len (own_encs (cs_.take i) ++ [(xx.toInt8.toInt32)])), iv (own_n i), iv (own_len cs_), rv d, iv xx, .unset, .unset] [(.int (xx.toInt8.toInt32)), (.int (own_len (own_encs (cs_.take i)))), (.ref d)])) rfl rfl (hb hby d59_51)
  have nn4 : nar .byte (xx.toInt8.toInt32) = (xx.toInt8.toInt32) := (own_nb _)
  rw [nn4] at W4
  have V4 : Arv Z h4 d kd .byte z (own_M (own_encs (cs_.take i) ++ [(xx.toInt8.toInt32)])) (.int (0 : Int32)) := own_push Ar4 q4 S4 M4 H4 G4 (own_fb nn4) W4 (own_lenN _ (by omega))
  have K4 : Keep h0 h4 [d] := (Keep.refl h0 [d]).wr W4 (Or.inl (List.mem_of_getElem? (i := 0) rfl))
  have N4 := Fr.snoc X4 N0 g_d
  have pre6 : ∀ t, Sx p e below T4 (mkF m 21 #[rv r0, iv (1 : Int32), iv (own_len (own_encs (cs_.take i) ++ [(xx.toInt8.toInt32)])), iv (own_n (i + 1)), iv (own_len cs_), rv d, iv xx, .unset, .unset] [(.int (own_len cs_)), (.int (own_n (i + 1)))]) t → Steps p.tables e below (T0.setTop (mkF m 31 #[rv r0, iv (1 : Int32), iv (own_len (own_encs (cs_.take i))), iv (own_n i), iv (own_len cs_), rv d, iv xx, .unset, .unset] [])) t := by
    intro t kt
    refine pre3 _ ?_
    refine st4 _ ?_
    show Sx p e below T4 (mkF m 52 #[rv r0, iv (1 : Int32), iv (own_len (own_encs (cs_.take i) ++ [(xx.toInt8.toInt32)])), iv (own_n i), iv (own_len cs_), rv d, iv xx, .unset, .unset] []) _
    refine XS.iinc X4.here hx rfl (hb hby d59_52) rfl (l' := #[rv r0, iv (1 : Int32), iv (own_len (own_encs (cs_.take i) ++ [(xx.toInt8.toInt32)])), iv ((own_n i) + (1 : Int32)), iv (own_len cs_), rv d, iv xx, .unset, .unset]) rfl ?_
    show Sx p e below T4 (mkF m 55 #[rv r0, iv (1 : Int32), iv (own_len (own_encs (cs_.take i) ++ [(xx.toInt8.toInt32)])), iv ((own_n i) + (1 : Int32)), iv (own_len cs_), rv d, iv xx, .unset, .unset] []) _
    rw [show ((own_n i) + (1 : Int32)) = (own_n (i + 1)) from (own_nS (by omega))]
    show Sx p e below T4 (mkF m 55 #[rv r0, iv (1 : Int32), iv (own_len (own_encs (cs_.take i) ++ [(xx.toInt8.toInt32)])), iv (own_n (i + 1)), iv (own_len cs_), rv d, iv xx, .unset, .unset] []) _
    refine XS.goto X4.here hx rfl (pc0 := 55) (pc' := 18) rfl (hb hby d59_55) (by decide) (by decide) ?_
    refine XS.iloadN X4.here hx rfl (hb hby d59_18) rfl ?_
    refine XS.iload X4.here hx rfl (hb hby d59_19) rfl ?_
    exact kt
  have hc21_5 : (own_n (i + 1)) < (own_len cs_) := (own_nlt hi (by omega))
  have pre7 : ∀ t, Sx p e below T4 (mkF m 26 #[rv r0, iv (1 : Int32), iv (own_len (own_encs (cs_.take i) ++ [(xx.toInt8.toInt32)])), iv (own_n (i + 1)), iv (own_len cs_), rv d, iv xx, .unset, .unset] [(.int (own_n (i + 1))), (.ref r0)]) t → Steps p.tables e below (T0.setTop (mkF m 31 #[rv r0, iv (1 : Int32), iv (own_len (own_encs (cs_.take i))), iv (own_n i), iv (own_len cs_), rv d, iv xx, .unset, .unset] [])) t := by
    intro t kt
    refine pre6 _ ?_
    refine XS.icmpNo X4.here hx rfl (hb hby d59_21) rfl (tlt hc21_5).2.1 ?_
    refine XS.aloadN X4.here hx rfl (hb hby d59_24) rfl rfl ?_
    refine XS.iloadN X4.here hx rfl (hb hby d59_25) rfl ?_
    exact kt
  obtain ⟨_, T8, Lc8, X8, hQ8, st8⟩ := own_cS X4 hx hZ (y := Y15) hown (own_w hw 265 rfl) (own_w hw 218 rfl) (own_w hw 27 rfl) (own_w hw 219 rfl) (by decide) (W := 0) (rm47 l Z a0 hw [] r0 (own_n (i + 1)) kc (own_len (own_U cs_)) (own_M (own_U cs_)) yy (2 * (i + 1)) h4 n0 (Nat.le_trans Z0 K4.1) (V_r0.other W4 hne) (own_atU hyy (by omega) (hcs_ _ (List.mem_of_getElem? hyy))) (O0.keep K4 (allS g_d all0)) S_ad S_hi S_lo) (by decide) (by decide) (g := (mkF m 26 #[rv r0, iv (1 : Int32), iv (own_len (own_encs (cs_.take i) ++ [(xx.toInt8.toInt32)])), iv (own_n (i + 1)), iv (own_len cs_), rv d, iv xx, .unset, .unset] [(.int (own_n (i + 1))), (.ref r0)])) rfl hml.symm (argsL := [(.ref r0), (.int (own_n (i + 1)))]) (rest := []) (lenOf pd15 rfl) rfl (Nat.le_of_eq rfl) (hb hby d59_26) rfl e4 (by decide) (by decide)
  obtain ⟨rfl, N8q, hh8⟩ := hQ8
  have N8 := Fr.app N4 N8q
  have pre9 : ∀ t, Sx p e below T8 (mkF m 31 #[rv r0, iv (1 : Int32), iv (own_len (own_encs (cs_.take i) ++ [(xx.toInt8.toInt32)])), iv (own_n (i + 1)), iv (own_len cs_), rv d, iv yy, .unset, .unset] []) t → Steps p.tables e below (T0.setTop (mkF m 31 #[rv r0, iv (1 : Int32), iv (own_len (own_encs (cs_.take i))), iv (own_n i), iv (own_len cs_), rv d, iv xx, .unset, .unset] [])) t := by
    intro t kt
    refine pre7 _ ?_
    refine st8 _ ?_
    show Sx p e below T8 (mkF m 29 #[rv r0, iv (1 : Int32), iv (own_len (own_encs (cs_.take i) ++ [(xx.toInt8.toInt32)])), iv (own_n (i + 1)), iv (own_len cs_), rv d, iv xx, .unset, .unset] [(.int yy)]) _
    refine XS.istore X8.here hx rfl (hb hby d59_29) rfl (l' := #[rv r0, iv (1 : Int32), iv (own_len (own_encs (cs_.take i) ++ [(xx.toInt8.toInt32)])), iv (own_n (i + 1)), iv (own_len cs_), rv d, iv yy, .unset, .unset]) rfl ?_
    exact kt
  exact ⟨T8, h4, _, _, X8, hh8, N8, K4, (by rw [← own_e1 hlt]; exact own_encsS hxx), V4, pre9⟩
theorem d59_352 : D59 352 (.goto (-294)) 3 := by decide +kernel
theorem d59_58 : D59 58 (.iload_n 3) 1 := by decide +kernel
theorem d59_59 : D59 59 (.iload 4) 2 := by decide +kernel
theorem d59_61 : D59 61 (.if_icmp .ge 294) 3 := by decide +kernel
theorem d59_64 : D59 64 (.aload_n 0) 1 := by decide +kernel
theorem d59_65 : D59 65 (.iload_n 3) 1 := by decide +kernel
theorem d59_66 : D59 66 (.iinc 3 1) 3 := by decide +kernel
theorem d59_69 : D59 69 (.invokestatic 360) 3 := by decide +kernel
theorem d59_72 : D59 72 (.istore 6) 2 := by decide +kernel
theorem own_t59b {p : Program} {l : Launch} {e : Env} {s : State} {m : MethodId} {args : Array Value} {below : List Frame} {meth : Method} {c : Code} {T0 : State} {locs : List Loc} {Z : State} {a0 : Array Value} {h0 : Heap} {n0 : Nat} (r0 d : Addr) (i : Nat) (xx yy z : Int32) (kc kd : ClassId) (cs_ : List Int32)
    (X0 : Stand p l e ({ frames := 2, cells := 2, slots := 30, locals := 80 } : Room) s m args below meth c T0 locs 1 15) (hx : p.tables.exec = Jvm.exec) (hZ : Z.Warmed39 s.vm) (hw : ∀ d ∈ tables_1, d.before a0 Z = true) (hby : c.code = jdk_42_method_47_code) (hml : c.maxLocals = 9) (hown : s.vm.findClass "java/lang/String" = some m.cls) (e0 : T0.heap = h0) (Z0 : n0 ≤ h0.size) (N0 : Fr n0 locs) (V_r0 : Arv Z h0 r0 kc .byte (own_len (own_U cs_)) (own_M (own_U cs_)) (.int (0 : Int32))) (V_d : Arv Z h0 d kd .byte z (own_M (own_encs (cs_.take i))) (.int (0 : Int32))) (g_d : n0 ≤ d) (hne : r0 ≠ d) (hxx : cs_[i]? = some xx) (hyy : cs_[i + 1]? = some yy) (hi : i + 1 < cs_.length) (hl5 : cs_.length ≤ 5) (hcs_ : ∀ x ∈ cs_, own_ch x) (hz : z.toNatClampNeg = 3 * cs_.length) (hsur : ∀ x ∈ cs_, ¬ (x < (55296 : Int32)) → ¬ (x < (57344 : Int32))) (O0 : Old Z n0 h0) (S_ad : Sta Z Z.heap "java/lang/StringUTF16" "$assertionsDisabled" "Z" (.int (1 : Int32))) (S_hi : Sta Z Z.heap "java/lang/StringUTF16" "HI_BYTE_SHIFT" "I" (.int (0 : Int32))) (S_lo : Sta Z Z.heap "java/lang/StringUTF16" "LO_BYTE_SHIFT" "I" (.int (8 : Int32))) :
    ∃ (T' : State) (h' : Heap) (Ls : List Loc) (LL' : List Int32), Stand p l e ({ frames := 2, cells := 2, slots := 30, locals := 80 } : Room) s m args below meth c T' Ls 1 15 ∧ T'.heap = h' ∧ Fr n0 Ls ∧ Keep h0 h' [d] ∧ LL' = (own_encs (cs_.take (i + 1))) ∧ Arv Z h' d kd .byte z (own_M LL') (.int (0 : Int32)) ∧ ∀ t, Steps p.tables e below (T'.setTop (mkF m 74 #[.val (.ref r0), .val (.int (1 : Int32)), .val (.int (own_len LL')), .val (.int (own_n (i + 1 + 1))), .val (.int (own_len cs_)), .val (.ref d), .val (.int yy), .unset, .unset] [])) t → Steps p.tables e below (T0.setTop (mkF m 74 #[.val (.ref r0), .val (.int (1 : Int32)), .val (.int (own_len (own_encs (cs_.take i)))), .val (.int (own_n (i + 1))), .val (.int (own_len cs_)), .val (.ref d), .val (.int xx), .unset, .unset] [])) t := by
  have pre0 : ∀ t, Steps p.tables e below (T0.setTop (mkF m 74 #[rv r0, iv (1 : Int32), iv (own_len (own_encs (cs_.take i))), iv (own_n (i + 1)), iv (own_len cs_), rv d, iv xx, .unset, .unset] [])) t → Steps p.tables e below (T0.setTop (mkF m 74 #[rv r0, iv (1 : Int32), iv (own_len (own_encs (cs_.take i))), iv (own_n (i + 1)), iv (own_len cs_), rv d, iv xx, .unset, .unset] [])) t := fun _ k => k
  have hb3 := own_encsT3 cs_ i
  obtain ⟨T1, h1, L1, LL1, X1, e1, N1, Kc1, hE1, Vc1, st1⟩ := own_c59 r0 d (own_n (i + 1)) xx z kd cs_ (own_encs (cs_.take i)) X0 hx hZ hw hby hml hown e0 (Nat.le_trans Z0 (Keep.refl h0 [d]).1) N0 V_d g_d (hsur _ (List.mem_of_getElem? hxx)) (by omega) (by omega)
  have K1 : Keep h0 h1 [d] := (Keep.refl h0 [d]).trans Kc1 (allS (Or.inl (List.mem_of_getElem? (i := 0) rfl)) all0)
  have pre3 : ∀ t, Sx p e below T1 (mkF m 61 #[rv r0, iv (1 : Int32), iv (own_len LL1), iv (own_n (i + 1)), iv (own_len cs_), rv d, iv xx, .unset, .unset] [(.int (own_len cs_)), (.int (own_n (i + 1)))]) t → Steps p.tables e below (T0.setTop (mkF m 74 #[rv r0, iv (1 : Int32), iv (own_len (own_encs (cs_.take i))), iv (own_n (i + 1)), iv (own_len cs_), rv d, iv xx, .unset, .unset] [])) t := by
    intro t kt
    refine pre0 _ ?_
    refine st1 _ ?_
    show Sx p e below T1 (mkF m 352 #[rv r0, iv (1 : Int32), iv (own_len LL1), iv (own_n (i + 1)), iv (own_len cs_), rv d, iv xx, .unset, .unset] []) _
    refine XS.goto X1.here hx rfl (pc0 := 352) (pc' := 58) rfl (hb hby d59_352) (by decide) (by decide) ?_
    refine XS.iloadN X1.here hx rfl (hb hby d59_58) rfl ?_
    refine XS.iload X1.here hx rfl (hb hby d59_59) rfl ?_
    exact kt
  have hc61_2 : (own_n (i + 1)) < (own_len cs_) := (own_nlt hi (by omega))
  have pre4 : ∀ t, Sx p e below T1 (mkF m 69 #[rv r0, iv (1 : Int32), iv (own_len LL1), iv (own_n (i + 1 + 1)), iv (own_len cs_), rv d, iv xx, .unset, .unset] [(.int (own_n (i + 1))), (.ref r0)]) t → Steps p.tables e below (T0.setTop (mkF m 74 #[rv r0, iv (1 : Int32), iv (own_len (own_encs (cs_.take i))), iv (own_n (i + 1)), iv (own_len cs_), rv d, iv xx, .unset, .unset] [])) t := by
    intro t kt
    refine pre3 _ ?_
    refine XS.icmpNo X1.here hx rfl (hb hby d59_61) rfl (tlt hc61_2).2.1 ?_
    refine XS.aloadN X1.here hx rfl (hb hby d59_64) rfl rfl ?_
    refine XS.iloadN X1.here hx rfl (hb hby d59_65) rfl ?_
    refine XS.iinc X1.here hx rfl (hb hby d59_66) rfl (l' := #[rv r0, iv (1 : Int32), iv (own_len LL1), iv ((own_n (i + 1)) + (1 : Int32)), iv (own_len cs_), rv d, iv xx, .unset, .unset]) rfl ?_
    show Sx p e below T1 (mkF m 69 #[rv r0, iv (1 : Int32), iv (own_len LL1), iv ((own_n (i + 1)) + (1 : Int32)), iv (own_len cs_), rv d, iv xx, .unset, .unset] [(.int (own_n (i + 1))), (.ref r0)]) _
    rw [show ((own_n (i + 1)) + (1 : Int32)) = (own_n (i + 1 + 1)) from (own_nS (by omega))]
    exact kt
  obtain ⟨_, T5, Lc5, X5, hQ5, st5⟩ := own_cS X1 hx hZ (y := Y15) hown (own_w hw 265 rfl) (own_w hw 218 rfl) (own_w hw 27 rfl) (own_w hw 219 rfl) (by decide) (W := 0) (rm47 l Z a0 hw [] r0 (own_n (i + 1)) kc (own_len (own_U cs_)) (own_M (own_U cs_)) yy (2 * (i + 1)) h1 n0 (Nat.le_trans Z0 K1.1) (V_r0.keep Kc1 (ninS hne nin0)) (own_atU hyy (by omega) (hcs_ _ (List.mem_of_getElem? hyy))) (O0.keep K1 (allS g_d all0)) S_ad S_hi S_lo) (by decide) (by decide) (g := (mkF m 69 #[rv r0, iv (1 : Int32), iv (own_len LL1), iv (own_n (i + 1 + 1)), iv (own_len cs_), rv d, iv xx, .unset, .unset] [(.int (own_n (i + 1))), (.ref r0)])) rfl hml.symm (argsL := [(.ref r0), (.int (own_n (i + 1)))]) (rest := []) (lenOf pd15 rfl) rfl (Nat.le_of_eq rfl) (hb hby d59_69) rfl e1 (by decide) (by decide)
  obtain ⟨rfl, N5q, hh5⟩ := hQ5
  have N5 := Fr.app N1 N5q
  have pre6 : ∀ t, Sx p e below T5 (mkF m 74 #[rv r0, iv (1 : Int32), iv (own_len LL1), iv (own_n (i + 1 + 1)), iv (own_len cs_), rv d, iv yy, .unset, .unset] []) t → Steps p.tables e below (T0.setTop (mkF m 74 #[rv r0, iv (1 : Int32), iv (own_len (own_encs (cs_.take i))), iv (own_n (i + 1)), iv (own_len cs_), rv d, iv xx, .unset, .unset] [])) t := by
    intro t kt
    refine pre4 _ ?_
    refine st5 _ ?_
    show Sx p e below T5 (mkF m 72 #[rv r0, iv (1 : Int32), iv (own_len LL1), iv (own_n (i + 1 + 1)), iv (own_len cs_), rv d, iv xx, .unset, .unset] [(.int yy)]) _
    refine XS.istore X5.here hx rfl (hb hby d59_72) rfl (l' := #[rv r0, iv (1 : Int32), iv (own_len LL1), iv (own_n (i + 1 + 1)), iv (own_len cs_), rv d, iv yy, .unset, .unset]) rfl ?_
    exact kt
  exact ⟨T5, h1, _, _, X5, hh5, N5, K1, hE1.trans (own_encsS hxx), Vc1, pre6⟩
theorem d59_0 : D59 0 (.iconst 0) 1 := by decide +kernel
theorem d59_1 : D59 1 (.istore_n 2) 1 := by decide +kernel
theorem d59_2 : D59 2 (.iconst 0) 1 := by decide +kernel
theorem d59_3 : D59 3 (.istore_n 3) 1 := by decide +kernel
theorem d59_4 : D59 4 (.aload_n 0) 1 := by decide +kernel
theorem d59_5 : D59 5 (.arraylength) 1 := by decide +kernel
theorem d59_6 : D59 6 (.iconst 1) 1 := by decide +kernel
theorem d59_7 : D59 7 (.ishr) 1 := by decide +kernel
theorem d59_8 : D59 8 (.istore 4) 2 := by decide +kernel
theorem d59_10 : D59 10 (.iload 4) 2 := by decide +kernel
theorem d59_12 : D59 12 (.iconst 3) 1 := by decide +kernel
theorem d59_13 : D59 13 (.imul) 1 := by decide +kernel
theorem d59_14 : D59 14 (.newarray .byte) 2 := by decide +kernel
theorem d59_16 : D59 16 (.astore 5) 2 := by decide +kernel
theorem d59_355 : D59 355 (.iload_n 2) 1 := by decide +kernel
theorem d59_356 : D59 356 (.aload 5) 2 := by decide +kernel
theorem d59_358 : D59 358 (.arraylength) 1 := by decide +kernel
theorem d59_359 : D59 359 (.if_icmp .ne 6) 3 := by decide +kernel
theorem d59_362 : D59 362 (.aload 5) 2 := by decide +kernel
theorem d59_364 : D59 364 (.areturn) 1 := by decide +kernel
theorem d59_365 : D59 365 (.aload 5) 2 := by decide +kernel
theorem d59_367 : D59 367 (.iload_n 2) 1 := by decide +kernel
theorem d59_368 : D59 368 (.invokestatic 102) 3 := by decide +kernel
theorem d59_371 : D59 371 (.areturn) 1 := by decide +kernel
theorem d59_39 : D59 39 (.goto 19) 3 := by decide +kernel
theorem ef_59 (m : MethodId) (x0 : Addr) (x1 : Int32) : entryFrame m #[(.ref x0), (.int x1)] 9 = mkF m 0 #[.val (.ref x0), .val (.int x1), .unset, .unset, .unset, .unset, .unset, .unset, .unset] [] := by first | (simp [entryFrame, mkF, argsToLocals, Value.category]; done) | rfl
def Q59 (Z : State) (r0 : Addr) (kc : ClassId) (cs_ : List Int32) (h0 : Heap) (n0 : Nat) (v : Option Value) (h : Heap) (L : List Loc) : Prop := ∃ y k, v = some (.ref y) ∧ Fr n0 L ∧ Keep h0 h [] ∧ h0.size ≤ y ∧ Arv Z h y k .byte (own_len (own_encs cs_)) (own_M (own_encs cs_)) (.int (0 : Int32)) ∧ Exa Z h y "[B"
abbrev R59 : Room := { frames := 2, cells := 2, slots := 30, locals := 80 }
theorem rm59 (l : Launch) (Z : State) (a0 : Array Value) (hw : ∀ d ∈ tables_1, d.before a0 Z = true) (ws : List Jvm.Cond) (r0 : Addr) (kc : ClassId) (cs_ : List Int32) (h0 : Heap) (n0 : Nat) (Z0 : n0 ≤ h0.size) (V_r0 : Arv Z h0 r0 kc .byte (own_len (own_U cs_)) (own_M (own_U cs_)) (.int (0 : Int32))) (hcs_ : ∀ x ∈ cs_, own_ch x) (hl5 : cs_.length ≤ 5) (hpos : 0 < cs_.length) (hsur : ∀ x ∈ cs_, ¬ (x < (55296 : Int32)) → ¬ (x < (57344 : Int32))) (O0 : Old Z n0 h0) (S_ad : Sta Z Z.heap "java/lang/StringUTF16" "$assertionsDisabled" "Z" (.int (1 : Int32))) (S_hi : Sta Z Z.heap "java/lang/StringUTF16" "HI_BYTE_SHIFT" "I" (.int (0 : Int32))) (S_lo : Sta Z Z.heap "java/lang/StringUTF16" "LO_BYTE_SHIFT" "I" (.int (8 : Int32))) :
    MetFree l Y51 (head1 (Jvm.Cond.code Y51 jdk_42_method_47_code 9 (some (.array .byte)) :: ws) R59) (fun a U => a = #[(.ref r0), (.int (1 : Int32))] ∧ Z.Warmed39 U.vm ∧ U.heap = h0) (fun _ _ _ _ _ => True) (fun _ U o U' => ∃ v L, o = .returned v ∧ Q59 Z r0 kc cs_ h0 n0 v U'.heap L ∧ FrameEnd U o U' L R59.cells R59.slots) := by
  refine own_start (C := "java/lang/String") (Q := Q59 Z r0 kc cs_ h0 n0) rfl (plainFor_of_name pn4) ?_
  intro p e s m below meth c s₁ g₀ hg₀ Bd hx hby hml hZ hown hnm X0 e0
  have N0 := Fr.nil n0
  have pre0 : ∀ t, Sx p e below s₁ (mkF m 0 #[rv r0, iv (1 : Int32), .unset, .unset, .unset, .unset, .unset, .unset, .unset] []) t → Sx p e below s₁ g₀ t := fun t k => by subst hg₀; exact castTop (ef_59 m r0 (1 : Int32)) k
  obtain ⟨cl1, Ar1, -, S1, M1, -, -⟩ := id V_r0
  have pre2 : ∀ t, Sx p e below s₁ (mkF m 14 #[rv r0, iv (1 : Int32), iv (0 : Int32), iv (0 : Int32), iv (own_len cs_), .unset, .unset, .unset, .unset] [(.int (own_n (3 * cs_.length)))]) t → Sx p e below s₁ g₀ t := by
    intro t kt
    refine pre0 _ ?_
    refine XS.iconst X0.here hx rfl (hb hby d59_0) ?_
    refine XS.istoreN X0.here hx rfl (hb hby d59_1) rfl (l' := #[rv r0, iv (1 : Int32), iv (0 : Int32), .unset, .unset, .unset, .unset, .unset, .unset]) rfl ?_
    refine XS.iconst X0.here hx rfl (hb hby d59_2) ?_
    refine XS.istoreN X0.here hx rfl (hb hby d59_3) rfl (l' := #[rv r0, iv (1 : Int32), iv (0 : Int32), iv (0 : Int32), .unset, .unset, .unset, .unset, .unset]) rfl ?_
    refine XS.aloadN X0.here hx rfl (hb hby d59_4) rfl rfl ?_
    refine X0.arraylength hx (by rw [e0]; exact Ar1.1) (State.isArrayOf_alike hZ.alike Ar1.2.1) (g := (mkF m 5 #[rv r0, iv (1 : Int32), iv (0 : Int32), iv (0 : Int32), .unset, .unset, .unset, .unset, .unset] [(.ref r0)])) rfl rfl (hb hby d59_5) _ ?_
    rw [len_of S1 M1]
    show Sx p e below s₁ (mkF m 6 #[rv r0, iv (1 : Int32), iv (0 : Int32), iv (0 : Int32), .unset, .unset, .unset, .unset, .unset] [(.int (own_len (own_U cs_)))]) _
    refine XS.iconst X0.here hx rfl (hb hby d59_6) ?_
    refine XS.ishr X0.here hx rfl (hb hby d59_7) rfl ?_
    show Sx p e below s₁ (mkF m 8 #[rv r0, iv (1 : Int32), iv (0 : Int32), iv (0 : Int32), .unset, .unset, .unset, .unset, .unset] [(.int ((own_len (own_U cs_)) >>> ((1 : Int32) &&& 31)))]) _
    rw [show ((own_len (own_U cs_)) >>> ((1 : Int32) &&& 31)) = (own_len cs_) from (own_Uh (by omega))]
    show Sx p e below s₁ (mkF m 8 #[rv r0, iv (1 : Int32), iv (0 : Int32), iv (0 : Int32), .unset, .unset, .unset, .unset, .unset] [(.int (own_len cs_))]) _
    refine XS.istore X0.here hx rfl (hb hby d59_8) rfl (l' := #[rv r0, iv (1 : Int32), iv (0 : Int32), iv (0 : Int32), iv (own_len cs_), .unset, .unset, .unset, .unset]) rfl ?_
    refine XS.iload X0.here hx rfl (hb hby d59_10) rfl ?_
    refine XS.iconst X0.here hx rfl (hb hby d59_12) ?_
    refine XS.imul X0.here hx rfl (hb hby d59_13) rfl ?_
    show Sx p e below s₁ (mkF m 14 #[rv r0, iv (1 : Int32), iv (0 : Int32), iv (0 : Int32), iv (own_len cs_), .unset, .unset, .unset, .unset] [(.int ((own_len cs_) * (3 : Int32)))]) _
    rw [show ((own_len cs_) * (3 : Int32)) = (own_n (3 * cs_.length)) from (own_nM (by omega))]
    exact kt
  obtain ⟨T3, h3, k3, X3, e3, E3, A3, Ex3, st3⟩ := newPE X0 hx hZ (own_w hw 7 rfl) e0 (g := (mkF m 14 #[rv r0, iv (1 : Int32), iv (0 : Int32), iv (0 : Int32), iv (own_len cs_), .unset, .unset, .unset, .unset] [(.int (own_n (3 * cs_.length)))])) rfl (hb hby d59_14) rfl (own_nP (by omega)) (cap := 15) (by rw [own_nN (by omega)]; omega) (by decide) (by decide) (by decide) (ad := "[B") rfl
  obtain ⟨b3, g3⟩ : ∃ z, z = h0.size := ⟨_, rfl⟩
  rw [← g3] at A3 Ex3 st3
  have g_b3 : n0 ≤ b3 := Nat.le_trans (Nat.le_trans Z0 (Keep.refl h0 []).1) (Nat.le_of_eq g3.symm)
  have sz_b3 : h0.size ≤ b3 := Nat.le_trans (Keep.refl h0 []).1 (Nat.le_of_eq g3.symm)
  have V_b3 : Arv Z h3 b3 k3 .byte (own_n (3 * cs_.length)) (own_M []) (.int (0 : Int32)) := (Arv.new A3 (own_nP (by omega)))
  have K3 : Keep h0 h3 [] := (Keep.refl h0 []).ext E3
  have pre5 : ∀ t, Sx p e below T3 (mkF m 21 #[rv r0, iv (1 : Int32), iv (0 : Int32), iv (0 : Int32), iv (own_len cs_), rv b3, .unset, .unset, .unset] [(.int (own_len cs_)), (.int (0 : Int32))]) t → Sx p e below s₁ g₀ t := by
    intro t kt
    refine pre2 _ ?_
    refine st3 _ ?_
    show Sx p e below T3 (mkF m 16 #[rv r0, iv (1 : Int32), iv (0 : Int32), iv (0 : Int32), iv (own_len cs_), .unset, .unset, .unset, .unset] [(.ref b3)]) _
    refine XS.astore X3.here hx rfl (hb hby d59_16) rfl rfl (l' := #[rv r0, iv (1 : Int32), iv (0 : Int32), iv (0 : Int32), iv (own_len cs_), rv b3, .unset, .unset, .unset]) rfl ?_
    refine XS.iloadN X3.here hx rfl (hb hby d59_18) rfl ?_
    refine XS.iload X3.here hx rfl (hb hby d59_19) rfl ?_
    exact kt
  have hc21_4 : (0 : Int32) < (own_len cs_) := (own_pos hpos (by omega))
  have pre6 : ∀ t, Sx p e below T3 (mkF m 26 #[rv r0, iv (1 : Int32), iv (0 : Int32), iv (0 : Int32), iv (own_len cs_), rv b3, .unset, .unset, .unset] [(.int (0 : Int32)), (.ref r0)]) t → Sx p e below s₁ g₀ t := by
    intro t kt
    refine pre5 _ ?_
    refine XS.icmpNo X3.here hx rfl (hb hby d59_21) rfl (tlt hc21_4).2.1 ?_
    refine XS.aloadN X3.here hx rfl (hb hby d59_24) rfl rfl ?_
    refine XS.iloadN X3.here hx rfl (hb hby d59_25) rfl ?_
    exact kt
  obtain ⟨_, T7, Lc7, X7, hQ7, st7⟩ := own_cS X3 hx hZ (y := Y15) hown (own_w hw 265 rfl) (own_w hw 218 rfl) (own_w hw 27 rfl) (own_w hw 219 rfl) (by decide) (W := 0) (rm47 l Z a0 hw [] r0 (0 : Int32) kc (own_len (own_U cs_)) (own_M (own_U cs_)) (cs_.getD 0 (0 : Int32)) (2 * 0) h3 n0 (Nat.le_trans Z0 K3.1) (V_r0.ext E3) (own_atU (own_get hpos) (by omega) (hcs_ _ (List.mem_of_getElem? (own_get hpos)))) (O0.keep K3 all0) S_ad S_hi S_lo) (by decide) (by decide) (g := (mkF m 26 #[rv r0, iv (1 : Int32), iv (0 : Int32), iv (0 : Int32), iv (own_len cs_), rv b3, .unset, .unset, .unset] [(.int (0 : Int32)), (.ref r0)])) rfl hml.symm (argsL := [(.ref r0), (.int (0 : Int32))]) (rest := []) (lenOf pd15 rfl) rfl (Nat.le_of_eq rfl) (hb hby d59_26) rfl e3 (by decide) (by decide)
  obtain ⟨rfl, N7q, hh7⟩ := hQ7
  have N7 := Fr.app N0 N7q
  have pre8 : ∀ t, Sx p e below T7 (mkF m 31 #[rv r0, iv (1 : Int32), iv (0 : Int32), iv (0 : Int32), iv (own_len cs_), rv b3, iv (cs_.getD 0 (0 : Int32)), .unset, .unset] []) t → Sx p e below s₁ g₀ t := by
    intro t kt
    refine pre6 _ ?_
    refine st7 _ ?_
    show Sx p e below T7 (mkF m 29 #[rv r0, iv (1 : Int32), iv (0 : Int32), iv (0 : Int32), iv (own_len cs_), rv b3, .unset, .unset, .unset] [(.int (cs_.getD 0 (0 : Int32)))]) _
    refine XS.istore X7.here hx rfl (hb hby d59_29) rfl (l' := #[rv r0, iv (1 : Int32), iv (0 : Int32), iv (0 : Int32), iv (own_len cs_), rv b3, iv (cs_.getD 0 (0 : Int32)), .unset, .unset]) rfl ?_
    exact kt
  obtain ⟨j, hj1, hj2, hj3⟩ := own_first (fun x => ¬ (x < (128 : Int32))) cs_
  rcases hj3 with hj3 | ⟨x, hx1, hx2⟩
  · have hjl : j = cs_.length := hj3
    obtain ⟨T9, h9, L9, ⟨X9, e9, N9, zz9, Va9, Vb9, Oo9⟩, Kl9, st9⟩ := own_iter (tb := p.tables) (e := e) (below := below) (F := fun i => mkF m 31 #[.val (.ref r0), .val (.int (1 : Int32)), .val (.int (own_len (own_encs (cs_.take i)))), .val (.int (own_n i)), .val (.int (own_len cs_)), .val (.ref b3), .val (.int (cs_.getD i (0 : Int32))), .unset, .unset] []) (Inv := fun i T h Ls => Stand p l e R59 s m #[(.ref r0), (.int (1 : Int32))] below meth c T Ls 1 15 ∧ T.heap = h ∧ Fr n0 Ls ∧ n0 ≤ h.size ∧ Arv Z h r0 kc .byte (own_len (own_U cs_)) (own_M (own_U cs_)) (.int (0 : Int32)) ∧ Arv Z h b3 k3 .byte (own_n (3 * cs_.length)) (own_M (own_encs (cs_.take i))) (.int (0 : Int32)) ∧ Old Z n0 h) (ws := [b3]) (n := cs_.length - 1) (fun i T h Ls hi ⟨X, e1, N1, z1, Va, Vb, Oo⟩ => by
        have hne : r0 ≠ b3 := (Nat.ne_of_lt (Nat.lt_of_lt_of_le V_r0.lt (Nat.le_of_eq g3.symm)))
        obtain ⟨T', h', L', LL', X', e', N', K', hL', V', s'⟩ := own_t59a r0 b3 i (cs_.getD i (0 : Int32)) (cs_.getD (i + 1) (0 : Int32)) (own_n (3 * cs_.length)) kc k3 cs_ X hx hZ hw hby hml hown e1 z1 N1 Va Vb g_b3 hne (own_get (by omega)) (own_get (by omega)) (by omega) hl5 hcs_ (own_nN (by omega)) (Decidable.not_not.mp (hj2 i _ (by omega) (own_get (by omega)))) Oo S_ad S_hi S_lo
        subst hL'
        exact ⟨T', h', L', ⟨X', e', N', Nat.le_trans z1 K'.1, Va.keep K' (ninS hne nin0), V', Oo.keep K' (allS g_b3 all0)⟩, K', s'⟩) (cs_.length - 1) 0 T7 h3 _ (Nat.zero_add _) ⟨X7, hh7, N7, Nat.le_trans Z0 K3.1, (V_r0.ext E3), V_b3, (O0.keep K3 all0)⟩
    have K9 : Keep h0 h9 [] := K3.trans Kl9 (allS (Or.inr sz_b3) all0)
    have hb3 := own_encsT3 cs_ (cs_.length - 1)
    have pre11 : ∀ t, Sx p e below T9 (mkF m 36 #[rv r0, iv (1 : Int32), iv (own_len (own_encs (cs_.take (cs_.length - 1)))), iv (own_n (cs_.length - 1)), iv (own_len cs_), rv b3, iv (cs_.getD (cs_.length - 1) (0 : Int32)), .unset, .unset] [(.int (128 : Int32)), (.int (cs_.getD (cs_.length - 1) (0 : Int32)))]) t → Sx p e below s₁ g₀ t := by
      intro t kt
      refine pre8 _ ?_
      refine st9 _ ?_
      show Sx p e below T9 (mkF m 31 #[rv r0, iv (1 : Int32), iv (own_len (own_encs (cs_.take (cs_.length - 1)))), iv (own_n (cs_.length - 1)), iv (own_len cs_), rv b3, iv (cs_.getD (cs_.length - 1) (0 : Int32)), .unset, .unset] []) _
      refine XS.iload X9.here hx rfl (hb hby d59_31) rfl ?_
      refine XS.sipush X9.here hx rfl (hb hby d59_33) ?_
      exact kt
    have hc36_10 : (cs_.getD (cs_.length - 1) (0 : Int32)) < (128 : Int32) := (Decidable.not_not.mp (hj2 (cs_.length - 1) _ (by omega) (own_get (by omega))))
    have pre12 : ∀ t, Sx p e below T9 (mkF m 51 #[rv r0, iv (1 : Int32), iv (own_len (own_encs (cs_.take (cs_.length - 1)) ++ [((cs_.getD (cs_.length - 1) (0 : Int32)).toInt8.toInt32)])), iv (own_n (cs_.length - 1)), iv (own_len cs_), rv b3, iv (cs_.getD (cs_.length - 1) (0 : Int32)), .unset, .unset] [(.int ((cs_.getD (cs_.length - 1) (0 : Int32)).toInt8.toInt32)), (.int (own_len (own_encs (cs_.take (cs_.length - 1))))), (.ref b3)]) t → Sx p e below s₁ g₀ t := by
      intro t kt
      refine pre11 _ ?_
      refine XS.icmpYes X9.here hx rfl (pc0 := 36) (pc' := 42) rfl (hb hby d59_36) rfl (tlt hc36_10).1 (by decide) (by decide) ?_
      refine XS.aload X9.here hx rfl (hb hby d59_42) rfl rfl ?_
      refine XS.iloadN X9.here hx rfl (hb hby d59_44) rfl ?_
      refine XS.iinc X9.here hx rfl (hb hby d59_45) rfl (l' := #[rv r0, iv (1 : Int32), iv ((own_len (own_encs (cs_.take (cs_.length - 1)))) + (1 : Int32)), iv (own_n (cs_.length - 1)), iv (own_len cs_), rv b3, iv (cs_.getD (cs_.length - 1) (0 : Int32)), .unset, .unset]) rfl ?_
      show Sx p e below T9 (mkF m 48 #[rv r0, iv (1 : Int32), iv ((own_len (own_encs (cs_.take (cs_.length - 1)))) + (1 : Int32)), iv (own_n (cs_.length - 1)), iv (own_len cs_), rv b3, iv (cs_.getD (cs_.length - 1) (0 : Int32)), .unset, .unset] [(.int (own_len (own_encs (cs_.take (cs_.length - 1))))), (.ref b3)]) _
      rw [show ((own_len (own_encs (cs_.take (cs_.length - 1)))) + (1 : Int32)) = (own_len (own_encs (cs_.take (cs_.length - 1)) ++ [((cs_.getD (cs_.length - 1) (0 : Int32)).toInt8.toInt32)])) from (own_p1 _ _ (by omega))]
      show Sx p e below T9 (mkF m 48 #[rv r0, iv (1 : Int32), iv (own_len (own_encs (cs_.take (cs_.length - 1)) ++ [((cs_.getD (cs_.length - 1) (0 : Int32)).toInt8.toInt32)])), iv (own_n (cs_.length - 1)), iv (own_len cs_), rv b3, iv (cs_.getD (cs_.length - 1) (0 : Int32)), .unset, .unset] [(.int (own_len (own_encs (cs_.take (cs_.length - 1))))), (.ref b3)]) _
      refine XS.iload X9.here hx rfl (hb hby d59_48) rfl ?_
      refine XS.i2b X9.here hx rfl (hb hby d59_50) rfl ?_
      exact kt
    obtain ⟨cl13, Ar13, q13, S13, M13, H13, G13⟩ := id Vb9
    have hin13 : ¬ ((own_len (own_encs (cs_.take (cs_.length - 1)))) < 0 ∨ cl13.slots.size ≤ ((own_len (own_encs (cs_.take (cs_.length - 1))))).toNatClampNeg) := inb_of S13 (own_pb0 (by rw [own_nN (by omega)]; omega) (by omega))
    obtain ⟨T13, h13, X13, e13, W13, st13⟩ := stB X9 hx hZ e9 Ar13 (j := (own_len (own_encs (cs_.take (cs_.length - 1))))) hin13 (g := (mkF m 51 #[rv r0, iv (1 : Int32), iv (own_len (own_encs (cs_.take (cs_.length - 1)) ++ [((cs_.getD (cs_.length - 1) (0 : Int32)).toInt8.toInt32)])), iv (own_n (cs_.length - 1)), iv (own_len cs_), rv b3, iv (cs_.getD (cs_.length - 1) (0 : Int32)), .unset, .unset] [(.int ((cs_.getD (cs_.length - 1) (0 : Int32)).toInt8.toInt32)), (.int (own_len (own_encs (cs_.take (cs_.length - 1))))), (.ref b3)])) rfl rfl (hb hby d59_51)
    have nn13 : nar .byte ((cs_.getD (cs_.length - 1) (0 : Int32)).toInt8.toInt32) = ((cs_.getD (cs_.length - 1) (0 : Int32)).toInt8.toInt32) := (own_nb _)
    rw [nn13] at W13
    have V13 : Arv Z h13 b3 k3 .byte (own_n (3 * cs_.length)) (own_M (own_encs (cs_.take (cs_.length - 1)) ++ [((cs_.getD (cs_.length - 1) (0 : Int32)).toInt8.toInt32)])) (.int (0 : Int32)) := own_push Ar13 q13 S13 M13 H13 G13 (own_fb nn13) W13 (own_lenN _ (by omega))
    have K13 : Keep h0 h13 [] := K9.wr W13 (Or.inr sz_b3)
    have N13 := Fr.snoc X13 N9 g_b3
    have hF14 : own_encs (cs_.take (cs_.length - 1)) ++ [((cs_.getD (cs_.length - 1) (0 : Int32)).toInt8.toInt32)] = own_encs cs_ := by rw [← own_e1 (Decidable.not_not.mp (hj2 (cs_.length - 1) _ (by omega) (own_get (by omega))))]; exact own_encsF hpos
    have pre16 : ∀ t, Sx p e below T13 (mkF m 21 #[rv r0, iv (1 : Int32), iv (own_len (own_encs cs_)), iv (own_n cs_.length), iv (own_len cs_), rv b3, iv (cs_.getD (cs_.length - 1) (0 : Int32)), .unset, .unset] [(.int (own_len cs_)), (.int (own_n cs_.length))]) t → Sx p e below s₁ g₀ t := by
      intro t kt
      refine pre12 _ ?_
      refine st13 _ ?_
      show Sx p e below T13 (mkF m 52 #[rv r0, iv (1 : Int32), iv (own_len (own_encs (cs_.take (cs_.length - 1)) ++ [((cs_.getD (cs_.length - 1) (0 : Int32)).toInt8.toInt32)])), iv (own_n (cs_.length - 1)), iv (own_len cs_), rv b3, iv (cs_.getD (cs_.length - 1) (0 : Int32)), .unset, .unset] []) _
      refine XS.iinc X13.here hx rfl (hb hby d59_52) rfl (l' := #[rv r0, iv (1 : Int32), iv (own_len (own_encs (cs_.take (cs_.length - 1)) ++ [((cs_.getD (cs_.length - 1) (0 : Int32)).toInt8.toInt32)])), iv ((own_n (cs_.length - 1)) + (1 : Int32)), iv (own_len cs_), rv b3, iv (cs_.getD (cs_.length - 1) (0 : Int32)), .unset, .unset]) rfl ?_
      show Sx p e below T13 (mkF m 55 #[rv r0, iv (1 : Int32), iv (own_len (own_encs (cs_.take (cs_.length - 1)) ++ [((cs_.getD (cs_.length - 1) (0 : Int32)).toInt8.toInt32)])), iv ((own_n (cs_.length - 1)) + (1 : Int32)), iv (own_len cs_), rv b3, iv (cs_.getD (cs_.length - 1) (0 : Int32)), .unset, .unset] []) _
      rw [show ((own_n (cs_.length - 1)) + (1 : Int32)) = (own_n (cs_.length - 1 + 1)) from (own_nS (by omega))]
      show Sx p e below T13 (mkF m 55 #[rv r0, iv (1 : Int32), iv (own_len (own_encs (cs_.take (cs_.length - 1)) ++ [((cs_.getD (cs_.length - 1) (0 : Int32)).toInt8.toInt32)])), iv (own_n (cs_.length - 1 + 1)), iv (own_len cs_), rv b3, iv (cs_.getD (cs_.length - 1) (0 : Int32)), .unset, .unset] []) _
      rw [show (own_n (cs_.length - 1 + 1)) = (own_n cs_.length) from (by rw [Nat.sub_add_cancel hpos])]
      show Sx p e below T13 (mkF m 55 #[rv r0, iv (1 : Int32), iv (own_len (own_encs (cs_.take (cs_.length - 1)) ++ [((cs_.getD (cs_.length - 1) (0 : Int32)).toInt8.toInt32)])), iv (own_n cs_.length), iv (own_len cs_), rv b3, iv (cs_.getD (cs_.length - 1) (0 : Int32)), .unset, .unset] []) _
      rw [show (own_len (own_encs (cs_.take (cs_.length - 1)) ++ [((cs_.getD (cs_.length - 1) (0 : Int32)).toInt8.toInt32)])) = (own_len (own_encs cs_)) from (congrArg own_len hF14)]
      show Sx p e below T13 (mkF m 55 #[rv r0, iv (1 : Int32), iv (own_len (own_encs cs_)), iv (own_n cs_.length), iv (own_len cs_), rv b3, iv (cs_.getD (cs_.length - 1) (0 : Int32)), .unset, .unset] []) _
      refine XS.goto X13.here hx rfl (pc0 := 55) (pc' := 18) rfl (hb hby d59_55) (by decide) (by decide) ?_
      refine XS.iloadN X13.here hx rfl (hb hby d59_18) rfl ?_
      refine XS.iload X13.here hx rfl (hb hby d59_19) rfl ?_
      exact kt
    have hc21_15 : ¬ ((own_n cs_.length) < (own_len cs_)) := (own_nge (Nat.le_refl _) (by omega))
    have VFhF14 := hF14 ▸ V13
    obtain ⟨cl17, Ar17, -, S17, M17, -, -⟩ := id VFhF14
    have pre18 : ∀ t, Sx p e below T13 (mkF m 359 #[rv r0, iv (1 : Int32), iv (own_len (own_encs cs_)), iv (own_n cs_.length), iv (own_len cs_), rv b3, iv (cs_.getD (cs_.length - 1) (0 : Int32)), .unset, .unset] [(.int (own_n (3 * cs_.length))), (.int (own_len (own_encs cs_)))]) t → Sx p e below s₁ g₀ t := by
      intro t kt
      refine pre16 _ ?_
      refine XS.icmpYes X13.here hx rfl (pc0 := 21) (pc' := 58) rfl (hb hby d59_21) rfl (flt hc21_15).2.1 (by decide) (by decide) ?_
      refine XS.iloadN X13.here hx rfl (hb hby d59_58) rfl ?_
      refine XS.iload X13.here hx rfl (hb hby d59_59) rfl ?_
      refine XS.icmpYes X13.here hx rfl (pc0 := 61) (pc' := 355) rfl (hb hby d59_61) rfl (flt hc21_15).2.1 (by decide) (by decide) ?_
      refine XS.iloadN X13.here hx rfl (hb hby d59_355) rfl ?_
      refine XS.aload X13.here hx rfl (hb hby d59_356) rfl rfl ?_
      refine X13.arraylength hx (by rw [e13]; exact Ar17.1) (State.isArrayOf_alike hZ.alike Ar17.2.1) (g := (mkF m 358 #[rv r0, iv (1 : Int32), iv (own_len (own_encs cs_)), iv (own_n cs_.length), iv (own_len cs_), rv b3, iv (cs_.getD (cs_.length - 1) (0 : Int32)), .unset, .unset] [(.ref b3), (.int (own_len (own_encs cs_)))])) rfl rfl (hb hby d59_358) _ ?_
      rw [len_of S17 M17]
      exact kt
    by_cases hc359 : (own_len (own_encs cs_)) = (own_n (3 * cs_.length))
    · have pre19 : ∀ t, Sx p e below T13 (mkF m 364 #[rv r0, iv (1 : Int32), iv (own_len (own_encs cs_)), iv (own_n cs_.length), iv (own_len cs_), rv b3, iv (cs_.getD (cs_.length - 1) (0 : Int32)), .unset, .unset] [(.ref b3)]) t → Sx p e below s₁ g₀ t := by
        intro t kt
        refine pre18 _ ?_
        refine XS.icmpNo X13.here hx rfl (hb hby d59_359) rfl (teq hc359).2 ?_
        refine XS.aload X13.here hx rfl (hb hby d59_362) rfl rfl ?_
        exact kt
      obtain ⟨fs, hr, hrun, hended, hW, hsame⟩ := X13.leave (v := some (.ref b3)) (fun h => by rw [Bd.returns] at h; cases h)
      refine ⟨_, _, _, pre19 _ ?_, hrun, hended, ?_, ⟨_, rfl⟩, hW, hsame.mono (by decide) (by decide)⟩
      · show Steps p.tables e below (T13.setTop (mkF m 364 #[rv r0, iv (1 : Int32), iv (own_len (own_encs cs_)), iv (own_n cs_.length), iv (own_len cs_), rv b3, iv (cs_.getD (cs_.length - 1) (0 : Int32)), .unset, .unset] [(.ref b3)])) _
        jvm_step X13.here [X13.here.top, hx, (hb hby d59_364), X13.method', Bd.returns, Value.isRef, FieldType.isReference]
        first | (intro acts; rw [hr _ acts rfl rfl rfl]) | rw [hr _ _ rfl rfl rfl]
        exact Steps.refl _
      · show Q59 Z r0 kc cs_ h0 n0 _ T13.heap _
        rw [e13]
        exact ⟨b3, k3, rfl, N13, K13, sz_b3, (by rw [hc359]; exact VFhF14), ((Ex3.keep Kl9).wr W13)⟩
    · have pre20 : ∀ t, Sx p e below T13 (mkF m 368 #[rv r0, iv (1 : Int32), iv (own_len (own_encs cs_)), iv (own_n cs_.length), iv (own_len cs_), rv b3, iv (cs_.getD (cs_.length - 1) (0 : Int32)), .unset, .unset] [(.int (own_len (own_encs cs_))), (.ref b3)]) t → Sx p e below s₁ g₀ t := by
        intro t kt
        refine pre18 _ ?_
        refine XS.icmpYes X13.here hx rfl (pc0 := 359) (pc' := 365) rfl (hb hby d59_359) rfl (feq hc359).2 (by decide) (by decide) ?_
        refine XS.aload X13.here hx rfl (hb hby d59_365) rfl rfl ?_
        refine XS.iloadN X13.here hx rfl (hb hby d59_367) rfl ?_
        exact kt
      obtain ⟨_, T21, Lc21, X21, hQ21, st21⟩ := own_cS X13 hx hZ (y := Y46) hown (own_w hw 280 rfl) (own_w hw 194 rfl) (own_w hw 110 rfl) (own_w hw 195 rfl) (by decide) (W := 0) (rm41 l Z a0 hw [] b3 k3 (own_n (3 * cs_.length)) (own_encs cs_) h13 n0 (Nat.le_trans Z0 K13.1) VFhF14 ((Ex3.keep Kl9).wr W13) (by rw [own_nN (by omega)]; exact own_encsl cs_) (by have := own_encsl cs_; omega) (own_nP (by omega))) (by decide) (by decide) (g := (mkF m 368 #[rv r0, iv (1 : Int32), iv (own_len (own_encs cs_)), iv (own_n cs_.length), iv (own_len cs_), rv b3, iv (cs_.getD (cs_.length - 1) (0 : Int32)), .unset, .unset] [(.int (own_len (own_encs cs_))), (.ref b3)])) rfl hml.symm (argsL := [(.ref b3), (.int (own_len (own_encs cs_)))]) (rest := []) (lenOf pd37 rfl) rfl (Nat.le_of_eq rfl) (hb hby d59_368) rfl e13 (by decide) (by decide)
      obtain ⟨y21, ky21, rfl, N21q, Kc21, hy21, Vy21, Ey21⟩ := hQ21
      have N21 := Fr.app N13 N21q
      have K21 : Keep h0 T21.heap [] := K13.trans Kc21 all0
      have g_y21 : n0 ≤ y21 := Nat.le_trans (Nat.le_trans Z0 K13.1) hy21
      have sz_y21 : h0.size ≤ y21 := Nat.le_trans K13.1 hy21
      have pre22 : ∀ t, Sx p e below T21 (mkF m 371 #[rv r0, iv (1 : Int32), iv (own_len (own_encs cs_)), iv (own_n cs_.length), iv (own_len cs_), rv b3, iv (cs_.getD (cs_.length - 1) (0 : Int32)), .unset, .unset] [(.ref y21)]) t → Sx p e below s₁ g₀ t := by
        intro t kt
        refine pre20 _ ?_
        refine st21 _ ?_
        exact kt
      obtain ⟨fs, hr, hrun, hended, hW, hsame⟩ := X21.leave (v := some (.ref y21)) (fun h => by rw [Bd.returns] at h; cases h)
      refine ⟨_, _, _, pre22 _ ?_, hrun, hended, ?_, ⟨_, rfl⟩, hW, hsame.mono (by decide) (by decide)⟩
      · show Steps p.tables e below (T21.setTop (mkF m 371 #[rv r0, iv (1 : Int32), iv (own_len (own_encs cs_)), iv (own_n cs_.length), iv (own_len cs_), rv b3, iv (cs_.getD (cs_.length - 1) (0 : Int32)), .unset, .unset] [(.ref y21)])) _
        jvm_step X21.here [X21.here.top, hx, (hb hby d59_371), X21.method', Bd.returns, Value.isRef, FieldType.isReference]
        first | (intro acts; rw [hr _ acts rfl rfl rfl]) | rw [hr _ _ rfl rfl rfl]
        exact Steps.refl _
      · show Q59 Z r0 kc cs_ h0 n0 _ T21.heap _
        exact ⟨y21, ky21, rfl, N21, K21, sz_y21, Vy21, Ey21⟩
  · have hjl : j < cs_.length := (List.getElem?_eq_some_iff.mp hx1).1
    obtain ⟨T23, h23, L23, ⟨X23, e23, N23, zz23, Va23, Vb23, Oo23⟩, Kl23, st23⟩ := own_iter (tb := p.tables) (e := e) (below := below) (F := fun i => mkF m 31 #[.val (.ref r0), .val (.int (1 : Int32)), .val (.int (own_len (own_encs (cs_.take i)))), .val (.int (own_n i)), .val (.int (own_len cs_)), .val (.ref b3), .val (.int (cs_.getD i (0 : Int32))), .unset, .unset] []) (Inv := fun i T h Ls => Stand p l e R59 s m #[(.ref r0), (.int (1 : Int32))] below meth c T Ls 1 15 ∧ T.heap = h ∧ Fr n0 Ls ∧ n0 ≤ h.size ∧ Arv Z h r0 kc .byte (own_len (own_U cs_)) (own_M (own_U cs_)) (.int (0 : Int32)) ∧ Arv Z h b3 k3 .byte (own_n (3 * cs_.length)) (own_M (own_encs (cs_.take i))) (.int (0 : Int32)) ∧ Old Z n0 h) (ws := [b3]) (n := j) (fun i T h Ls hi ⟨X, e1, N1, z1, Va, Vb, Oo⟩ => by
        have hne : r0 ≠ b3 := (Nat.ne_of_lt (Nat.lt_of_lt_of_le V_r0.lt (Nat.le_of_eq g3.symm)))
        obtain ⟨T', h', L', LL', X', e', N', K', hL', V', s'⟩ := own_t59a r0 b3 i (cs_.getD i (0 : Int32)) (cs_.getD (i + 1) (0 : Int32)) (own_n (3 * cs_.length)) kc k3 cs_ X hx hZ hw hby hml hown e1 z1 N1 Va Vb g_b3 hne (own_get (by omega)) (own_get (by omega)) (by omega) hl5 hcs_ (own_nN (by omega)) (Decidable.not_not.mp (hj2 i _ (by omega) (own_get (by omega)))) Oo S_ad S_hi S_lo
        subst hL'
        exact ⟨T', h', L', ⟨X', e', N', Nat.le_trans z1 K'.1, Va.keep K' (ninS hne nin0), V', Oo.keep K' (allS g_b3 all0)⟩, K', s'⟩) (j) 0 T7 h3 _ (Nat.zero_add _) ⟨X7, hh7, N7, Nat.le_trans Z0 K3.1, (V_r0.ext E3), V_b3, (O0.keep K3 all0)⟩
    have K23 : Keep h0 h23 [] := K3.trans Kl23 (allS (Or.inr sz_b3) all0)
    have hb3 := own_encsT3 cs_ (j)
    have pre25 : ∀ t, Sx p e below T23 (mkF m 36 #[rv r0, iv (1 : Int32), iv (own_len (own_encs (cs_.take (j)))), iv (own_n (j)), iv (own_len cs_), rv b3, iv (cs_.getD (j) (0 : Int32)), .unset, .unset] [(.int (128 : Int32)), (.int (cs_.getD (j) (0 : Int32)))]) t → Sx p e below s₁ g₀ t := by
      intro t kt
      refine pre8 _ ?_
      refine st23 _ ?_
      show Sx p e below T23 (mkF m 31 #[rv r0, iv (1 : Int32), iv (own_len (own_encs (cs_.take (j)))), iv (own_n (j)), iv (own_len cs_), rv b3, iv (cs_.getD (j) (0 : Int32)), .unset, .unset] []) _
      refine XS.iload X23.here hx rfl (hb hby d59_31) rfl ?_
      refine XS.sipush X23.here hx rfl (hb hby d59_33) ?_
      exact kt
    have hc36_24 : ¬ ((cs_.getD (j) (0 : Int32)) < (128 : Int32)) := (by rw [own_getx hx1]; exact hx2)
    have pre27 : ∀ t, Sx p e below T23 (mkF m 61 #[rv r0, iv (1 : Int32), iv (own_len (own_encs (cs_.take (j)))), iv (own_n (j)), iv (own_len cs_), rv b3, iv (cs_.getD (j) (0 : Int32)), .unset, .unset] [(.int (own_len cs_)), (.int (own_n (j)))]) t → Sx p e below s₁ g₀ t := by
      intro t kt
      refine pre25 _ ?_
      refine XS.icmpNo X23.here hx rfl (hb hby d59_36) rfl (flt hc36_24).1 ?_
      refine XS.goto X23.here hx rfl (pc0 := 39) (pc' := 58) rfl (hb hby d59_39) (by decide) (by decide) ?_
      refine XS.iloadN X23.here hx rfl (hb hby d59_58) rfl ?_
      refine XS.iload X23.here hx rfl (hb hby d59_59) rfl ?_
      exact kt
    have hc61_26 : (own_n (j)) < (own_len cs_) := (own_nlt hjl (by omega))
    have pre28 : ∀ t, Sx p e below T23 (mkF m 69 #[rv r0, iv (1 : Int32), iv (own_len (own_encs (cs_.take (j)))), iv (own_n ((j) + 1)), iv (own_len cs_), rv b3, iv (cs_.getD (j) (0 : Int32)), .unset, .unset] [(.int (own_n (j))), (.ref r0)]) t → Sx p e below s₁ g₀ t := by
      intro t kt
      refine pre27 _ ?_
      refine XS.icmpNo X23.here hx rfl (hb hby d59_61) rfl (tlt hc61_26).2.1 ?_
      refine XS.aloadN X23.here hx rfl (hb hby d59_64) rfl rfl ?_
      refine XS.iloadN X23.here hx rfl (hb hby d59_65) rfl ?_
      refine XS.iinc X23.here hx rfl (hb hby d59_66) rfl (l' := #[rv r0, iv (1 : Int32), iv (own_len (own_encs (cs_.take (j)))), iv ((own_n (j)) + (1 : Int32)), iv (own_len cs_), rv b3, iv (cs_.getD (j) (0 : Int32)), .unset, .unset]) rfl ?_
      show Sx p e below T23 (mkF m 69 #[rv r0, iv (1 : Int32), iv (own_len (own_encs (cs_.take (j)))), iv ((own_n (j)) + (1 : Int32)), iv (own_len cs_), rv b3, iv (cs_.getD (j) (0 : Int32)), .unset, .unset] [(.int (own_n (j))), (.ref r0)]) _
      rw [show ((own_n (j)) + (1 : Int32)) = (own_n ((j) + 1)) from (own_nS (by omega))]
      exact kt
    obtain ⟨_, T29, Lc29, X29, hQ29, st29⟩ := own_cS X23 hx hZ (y := Y15) hown (own_w hw 265 rfl) (own_w hw 218 rfl) (own_w hw 27 rfl) (own_w hw 219 rfl) (by decide) (W := 0) (rm47 l Z a0 hw [] r0 (own_n (j)) kc (own_len (own_U cs_)) (own_M (own_U cs_)) (cs_.getD (j) (0 : Int32)) (2 * (j)) h23 n0 (Nat.le_trans Z0 K23.1) ((V_r0.ext E3).keep Kl23 (ninS (Nat.ne_of_lt (Nat.lt_of_lt_of_le V_r0.lt (Nat.le_of_eq g3.symm))) nin0)) (own_atU (own_get (by omega)) (by omega) (hcs_ _ (List.mem_of_getElem? (own_get (by omega))))) (O0.keep K23 all0) S_ad S_hi S_lo) (by decide) (by decide) (g := (mkF m 69 #[rv r0, iv (1 : Int32), iv (own_len (own_encs (cs_.take (j)))), iv (own_n ((j) + 1)), iv (own_len cs_), rv b3, iv (cs_.getD (j) (0 : Int32)), .unset, .unset] [(.int (own_n (j))), (.ref r0)])) rfl hml.symm (argsL := [(.ref r0), (.int (own_n (j)))]) (rest := []) (lenOf pd15 rfl) rfl (Nat.le_of_eq rfl) (hb hby d59_69) rfl e23 (by decide) (by decide)
    obtain ⟨rfl, N29q, hh29⟩ := hQ29
    have N29 := Fr.app N23 N29q
    have pre30 : ∀ t, Sx p e below T29 (mkF m 74 #[rv r0, iv (1 : Int32), iv (own_len (own_encs (cs_.take (j)))), iv (own_n ((j) + 1)), iv (own_len cs_), rv b3, iv (cs_.getD (j) (0 : Int32)), .unset, .unset] []) t → Sx p e below s₁ g₀ t := by
      intro t kt
      refine pre28 _ ?_
      refine st29 _ ?_
      show Sx p e below T29 (mkF m 72 #[rv r0, iv (1 : Int32), iv (own_len (own_encs (cs_.take (j)))), iv (own_n ((j) + 1)), iv (own_len cs_), rv b3, iv (cs_.getD (j) (0 : Int32)), .unset, .unset] [(.int (cs_.getD (j) (0 : Int32)))]) _
      refine XS.istore X29.here hx rfl (hb hby d59_72) rfl (l' := #[rv r0, iv (1 : Int32), iv (own_len (own_encs (cs_.take (j)))), iv (own_n ((j) + 1)), iv (own_len cs_), rv b3, iv (cs_.getD (j) (0 : Int32)), .unset, .unset]) rfl ?_
      exact kt
    obtain ⟨T31, h31, L31, ⟨X31, e31, N31, zz31, Va31, Vb31, Oo31, hk31⟩, Kl31, st31⟩ := own_iter (tb := p.tables) (e := e) (below := below) (F := fun i => mkF m 74 #[.val (.ref r0), .val (.int (1 : Int32)), .val (.int (own_len (own_encs (cs_.take i)))), .val (.int (own_n (i + 1))), .val (.int (own_len cs_)), .val (.ref b3), .val (.int (cs_.getD i (0 : Int32))), .unset, .unset] []) (Inv := fun i T h Ls => Stand p l e R59 s m #[(.ref r0), (.int (1 : Int32))] below meth c T Ls 1 15 ∧ T.heap = h ∧ Fr n0 Ls ∧ n0 ≤ h.size ∧ Arv Z h r0 kc .byte (own_len (own_U cs_)) (own_M (own_U cs_)) (.int (0 : Int32)) ∧ Arv Z h b3 k3 .byte (own_n (3 * cs_.length)) (own_M (own_encs (cs_.take i))) (.int (0 : Int32)) ∧ Old Z n0 h ∧ j ≤ i) (ws := [b3]) (n := cs_.length - 1) (fun i T h Ls hi ⟨X, e1, N1, z1, Va, Vb, Oo, hk⟩ => by
        have hne : r0 ≠ b3 := (Nat.ne_of_lt (Nat.lt_of_lt_of_le V_r0.lt (Nat.le_of_eq g3.symm)))
        obtain ⟨T', h', L', LL', X', e', N', K', hL', V', s'⟩ := own_t59b r0 b3 i (cs_.getD i (0 : Int32)) (cs_.getD (i + 1) (0 : Int32)) (own_n (3 * cs_.length)) kc k3 cs_ X hx hZ hw hby hml hown e1 z1 N1 Va Vb g_b3 hne (own_get (by omega)) (own_get (by omega)) (by omega) hl5 hcs_ (own_nN (by omega)) hsur Oo S_ad S_hi S_lo
        subst hL'
        exact ⟨T', h', L', ⟨X', e', N', Nat.le_trans z1 K'.1, Va.keep K' (ninS hne nin0), V', Oo.keep K' (allS g_b3 all0), Nat.le_succ_of_le hk⟩, K', s'⟩) (cs_.length - 1 - j) (j) T29 h23 _ (by omega) ⟨X29, hh29, N29, Nat.le_trans Z0 K23.1, ((V_r0.ext E3).keep Kl23 (ninS (Nat.ne_of_lt (Nat.lt_of_lt_of_le V_r0.lt (Nat.le_of_eq g3.symm))) nin0)), Vb23, (O0.keep K23 all0), Nat.le_refl _⟩
    have K31 : Keep h0 h31 [] := K23.trans Kl31 (allS (Or.inr sz_b3) all0)
    have hb4 := own_encsT3 cs_ (cs_.length - 1)
    have pre32 : ∀ t, Sx p e below T31 (mkF m 74 #[rv r0, iv (1 : Int32), iv (own_len (own_encs (cs_.take (cs_.length - 1)))), iv (own_n (cs_.length - 1 + 1)), iv (own_len cs_), rv b3, iv (cs_.getD (cs_.length - 1) (0 : Int32)), .unset, .unset] []) t → Sx p e below s₁ g₀ t := by
      intro t kt
      refine pre30 _ ?_
      refine st31 _ ?_
      exact kt
    obtain ⟨T33, h33, L33, LL33, X33, e33, N33, Kc33, hE33, Vc33, st33⟩ := own_c59 r0 b3 (own_n (cs_.length - 1 + 1)) (cs_.getD (cs_.length - 1) (0 : Int32)) (own_n (3 * cs_.length)) k3 cs_ (own_encs (cs_.take (cs_.length - 1))) X31 hx hZ hw hby hml hown e31 (Nat.le_trans Z0 K31.1) N31 Vb31 g_b3 (hsur _ (List.mem_of_getElem? (own_get (by omega)))) (by rw [own_nN (by omega)]; omega) (by omega)
    have K33 : Keep h0 h33 [] := K31.trans Kc33 (allS (Or.inr sz_b3) all0)
    have hF31 : LL33 = own_encs cs_ := hE33.trans (own_encsF hpos)
    have pre35 : ∀ t, Sx p e below T33 (mkF m 61 #[rv r0, iv (1 : Int32), iv (own_len (own_encs cs_)), iv (own_n cs_.length), iv (own_len cs_), rv b3, iv (cs_.getD (cs_.length - 1) (0 : Int32)), .unset, .unset] [(.int (own_len cs_)), (.int (own_n cs_.length))]) t → Sx p e below s₁ g₀ t := by
      intro t kt
      refine pre32 _ ?_
      refine st33 _ ?_
      show Sx p e below T33 (mkF m 352 #[rv r0, iv (1 : Int32), iv (own_len LL33), iv (own_n (cs_.length - 1 + 1)), iv (own_len cs_), rv b3, iv (cs_.getD (cs_.length - 1) (0 : Int32)), .unset, .unset] []) _
      rw [show (own_n (cs_.length - 1 + 1)) = (own_n cs_.length) from (by rw [Nat.sub_add_cancel hpos])]
      show Sx p e below T33 (mkF m 352 #[rv r0, iv (1 : Int32), iv (own_len LL33), iv (own_n cs_.length), iv (own_len cs_), rv b3, iv (cs_.getD (cs_.length - 1) (0 : Int32)), .unset, .unset] []) _
      rw [show (own_len LL33) = (own_len (own_encs cs_)) from (congrArg own_len hF31)]
      show Sx p e below T33 (mkF m 352 #[rv r0, iv (1 : Int32), iv (own_len (own_encs cs_)), iv (own_n cs_.length), iv (own_len cs_), rv b3, iv (cs_.getD (cs_.length - 1) (0 : Int32)), .unset, .unset] []) _
      refine XS.goto X33.here hx rfl (pc0 := 352) (pc' := 58) rfl (hb hby d59_352) (by decide) (by decide) ?_
      refine XS.iloadN X33.here hx rfl (hb hby d59_58) rfl ?_
      refine XS.iload X33.here hx rfl (hb hby d59_59) rfl ?_
      exact kt
    have hc61_34 : ¬ ((own_n cs_.length) < (own_len cs_)) := (own_nge (Nat.le_refl _) (by omega))
    have VFhF31 := hF31 ▸ Vc33
    obtain ⟨cl36, Ar36, -, S36, M36, -, -⟩ := id VFhF31
    have pre37 : ∀ t, Sx p e below T33 (mkF m 359 #[rv r0, iv (1 : Int32), iv (own_len (own_encs cs_)), iv (own_n cs_.length), iv (own_len cs_), rv b3, iv (cs_.getD (cs_.length - 1) (0 : Int32)), .unset, .unset] [(.int (own_n (3 * cs_.length))), (.int (own_len (own_encs cs_)))]) t → Sx p e below s₁ g₀ t := by
      intro t kt
      refine pre35 _ ?_
      refine XS.icmpYes X33.here hx rfl (pc0 := 61) (pc' := 355) rfl (hb hby d59_61) rfl (flt hc61_34).2.1 (by decide) (by decide) ?_
      refine XS.iloadN X33.here hx rfl (hb hby d59_355) rfl ?_
      refine XS.aload X33.here hx rfl (hb hby d59_356) rfl rfl ?_
      refine X33.arraylength hx (by rw [e33]; exact Ar36.1) (State.isArrayOf_alike hZ.alike Ar36.2.1) (g := (mkF m 358 #[rv r0, iv (1 : Int32), iv (own_len (own_encs cs_)), iv (own_n cs_.length), iv (own_len cs_), rv b3, iv (cs_.getD (cs_.length - 1) (0 : Int32)), .unset, .unset] [(.ref b3), (.int (own_len (own_encs cs_)))])) rfl rfl (hb hby d59_358) _ ?_
      rw [len_of S36 M36]
      exact kt
    by_cases hc359 : (own_len (own_encs cs_)) = (own_n (3 * cs_.length))
    · have pre38 : ∀ t, Sx p e below T33 (mkF m 364 #[rv r0, iv (1 : Int32), iv (own_len (own_encs cs_)), iv (own_n cs_.length), iv (own_len cs_), rv b3, iv (cs_.getD (cs_.length - 1) (0 : Int32)), .unset, .unset] [(.ref b3)]) t → Sx p e below s₁ g₀ t := by
        intro t kt
        refine pre37 _ ?_
        refine XS.icmpNo X33.here hx rfl (hb hby d59_359) rfl (teq hc359).2 ?_
        refine XS.aload X33.here hx rfl (hb hby d59_362) rfl rfl ?_
        exact kt
      obtain ⟨fs, hr, hrun, hended, hW, hsame⟩ := X33.leave (v := some (.ref b3)) (fun h => by rw [Bd.returns] at h; cases h)
      refine ⟨_, _, _, pre38 _ ?_, hrun, hended, ?_, ⟨_, rfl⟩, hW, hsame.mono (by decide) (by decide)⟩
      · show Steps p.tables e below (T33.setTop (mkF m 364 #[rv r0, iv (1 : Int32), iv (own_len (own_encs cs_)), iv (own_n cs_.length), iv (own_len cs_), rv b3, iv (cs_.getD (cs_.length - 1) (0 : Int32)), .unset, .unset] [(.ref b3)])) _
        jvm_step X33.here [X33.here.top, hx, (hb hby d59_364), X33.method', Bd.returns, Value.isRef, FieldType.isReference]
        first | (intro acts; rw [hr _ acts rfl rfl rfl]) | rw [hr _ _ rfl rfl rfl]
        exact Steps.refl _
      · show Q59 Z r0 kc cs_ h0 n0 _ T33.heap _
        rw [e33]
        exact ⟨b3, k3, rfl, N33, K33, sz_b3, (by rw [hc359]; exact VFhF31), (((Ex3.keep Kl23).keep Kl31).keep Kc33)⟩
    · have pre39 : ∀ t, Sx p e below T33 (mkF m 368 #[rv r0, iv (1 : Int32), iv (own_len (own_encs cs_)), iv (own_n cs_.length), iv (own_len cs_), rv b3, iv (cs_.getD (cs_.length - 1) (0 : Int32)), .unset, .unset] [(.int (own_len (own_encs cs_))), (.ref b3)]) t → Sx p e below s₁ g₀ t := by
        intro t kt
        refine pre37 _ ?_
        refine XS.icmpYes X33.here hx rfl (pc0 := 359) (pc' := 365) rfl (hb hby d59_359) rfl (feq hc359).2 (by decide) (by decide) ?_
        refine XS.aload X33.here hx rfl (hb hby d59_365) rfl rfl ?_
        refine XS.iloadN X33.here hx rfl (hb hby d59_367) rfl ?_
        exact kt
      obtain ⟨_, T40, Lc40, X40, hQ40, st40⟩ := own_cS X33 hx hZ (y := Y46) hown (own_w hw 280 rfl) (own_w hw 194 rfl) (own_w hw 110 rfl) (own_w hw 195 rfl) (by decide) (W := 0) (rm41 l Z a0 hw [] b3 k3 (own_n (3 * cs_.length)) (own_encs cs_) h33 n0 (Nat.le_trans Z0 K33.1) VFhF31 (((Ex3.keep Kl23).keep Kl31).keep Kc33) (by rw [own_nN (by omega)]; exact own_encsl cs_) (by have := own_encsl cs_; omega) (own_nP (by omega))) (by decide) (by decide) (g := (mkF m 368 #[rv r0, iv (1 : Int32), iv (own_len (own_encs cs_)), iv (own_n cs_.length), iv (own_len cs_), rv b3, iv (cs_.getD (cs_.length - 1) (0 : Int32)), .unset, .unset] [(.int (own_len (own_encs cs_))), (.ref b3)])) rfl hml.symm (argsL := [(.ref b3), (.int (own_len (own_encs cs_)))]) (rest := []) (lenOf pd37 rfl) rfl (Nat.le_of_eq rfl) (hb hby d59_368) rfl e33 (by decide) (by decide)
      obtain ⟨y40, ky40, rfl, N40q, Kc40, hy40, Vy40, Ey40⟩ := hQ40
      have N40 := Fr.app N33 N40q
      have K40 : Keep h0 T40.heap [] := K33.trans Kc40 all0
      have g_y40 : n0 ≤ y40 := Nat.le_trans (Nat.le_trans Z0 K33.1) hy40
      have sz_y40 : h0.size ≤ y40 := Nat.le_trans K33.1 hy40
      have pre41 : ∀ t, Sx p e below T40 (mkF m 371 #[rv r0, iv (1 : Int32), iv (own_len (own_encs cs_)), iv (own_n cs_.length), iv (own_len cs_), rv b3, iv (cs_.getD (cs_.length - 1) (0 : Int32)), .unset, .unset] [(.ref y40)]) t → Sx p e below s₁ g₀ t := by
        intro t kt
        refine pre39 _ ?_
        refine st40 _ ?_
        exact kt
      obtain ⟨fs, hr, hrun, hended, hW, hsame⟩ := X40.leave (v := some (.ref y40)) (fun h => by rw [Bd.returns] at h; cases h)
      refine ⟨_, _, _, pre41 _ ?_, hrun, hended, ?_, ⟨_, rfl⟩, hW, hsame.mono (by decide) (by decide)⟩
      · show Steps p.tables e below (T40.setTop (mkF m 371 #[rv r0, iv (1 : Int32), iv (own_len (own_encs cs_)), iv (own_n cs_.length), iv (own_len cs_), rv b3, iv (cs_.getD (cs_.length - 1) (0 : Int32)), .unset, .unset] [(.ref y40)])) _
        jvm_step X40.here [X40.here.top, hx, (hb hby d59_371), X40.method', Bd.returns, Value.isRef, FieldType.isReference]
        first | (intro acts; rw [hr _ acts rfl rfl rfl]) | rw [hr _ _ rfl rfl rfl]
        exact Steps.refl _
      · show Q59 Z r0 kc cs_ h0 n0 _ T40.heap _
        exact ⟨y40, ky40, rfl, N40, K40, sz_y40, Vy40, Ey40⟩
theorem d31_5 : D31 5 (.aload_n 1) 1 := by decide +kernel
theorem d31_6 : D31 6 (.iload_n 2) 1 := by decide +kernel
theorem pd40 : parseMethodDescriptor "([BZ)[B" = some ⟨[(.array .byte), .boolean], some (.array .byte)⟩ := by decide +kernel
theorem d31_7 : D31 7 (.invokestatic 473) 3 := by decide +kernel
theorem d31_10 : D31 10 (.areturn) 1 := by decide +kernel
theorem ef_31U (m : MethodId) (x0 : Int32) (x1 : Addr) (x2 : Int32) : entryFrame m #[(.int x0), (.ref x1), (.int x2)] 9 = mkF m 0 #[.val (.int x0), .val (.ref x1), .val (.int x2), .unset, .unset, .unset, .unset, .unset, .unset] [] := by first | (simp [entryFrame, mkF, argsToLocals, Value.category]; done) | rfl
def Q31U (Z : State) (r1 : Addr) (kc : ClassId) (cs_ : List Int32) (h0 : Heap) (n0 : Nat) (v : Option Value) (h : Heap) (L : List Loc) : Prop := ∃ y k, v = some (.ref y) ∧ Fr n0 L ∧ Keep h0 h [] ∧ h0.size ≤ y ∧ Arv Z h y k .byte (own_len (own_encs cs_)) (own_M (own_encs cs_)) (.int (0 : Int32)) ∧ Exa Z h y "[B"
abbrev R31U : Room := { frames := 3, cells := 2, slots := 30, locals := 100 }
theorem rm31U (l : Launch) (Z : State) (a0 : Array Value) (hw : ∀ d ∈ tables_1, d.before a0 Z = true) (ws : List Jvm.Cond) (r1 : Addr) (kc : ClassId) (cs_ : List Int32) (h0 : Heap) (n0 : Nat) (Z0 : n0 ≤ h0.size) (V_r1 : Arv Z h0 r1 kc .byte (own_len (own_U cs_)) (own_M (own_U cs_)) (.int (0 : Int32))) (E_r1 : Exa Z h0 r1 "[B") (hcs_ : ∀ x ∈ cs_, own_ch x) (hl5 : cs_.length ≤ 5) (hpos : 0 < cs_.length) (hsur : ∀ x ∈ cs_, ¬ (x < (55296 : Int32)) → ¬ (x < (57344 : Int32))) (O0 : Old Z n0 h0) (S_ad : Sta Z Z.heap "java/lang/StringUTF16" "$assertionsDisabled" "Z" (.int (1 : Int32))) (S_hi : Sta Z Z.heap "java/lang/StringUTF16" "HI_BYTE_SHIFT" "I" (.int (0 : Int32))) (S_lo : Sta Z Z.heap "java/lang/StringUTF16" "LO_BYTE_SHIFT" "I" (.int (8 : Int32))) :
    MetFree l Y49 (head1 (Jvm.Cond.code Y49 jdk_42_method_46_code 9 (some (.array .byte)) :: ws) R31U) (fun a U => a = #[(.int (1 : Int32)), (.ref r1), (.int (1 : Int32))] ∧ Z.Warmed39 U.vm ∧ U.heap = h0) (fun _ _ _ _ _ => True) (fun _ U o U' => ∃ v L, o = .returned v ∧ Q31U Z r1 kc cs_ h0 n0 v U'.heap L ∧ FrameEnd U o U' L R31U.cells R31U.slots) := by
  refine own_start (C := "java/lang/String") (Q := Q31U Z r1 kc cs_ h0 n0) rfl (plainFor_of_name pn4) ?_
  intro p e s m below meth c s₁ g₀ hg₀ Bd hx hby hml hZ hown hnm X0 e0
  have N0 := Fr.nil n0
  have pre0 : ∀ t, Sx p e below s₁ (mkF m 0 #[iv (1 : Int32), rv r1, iv (1 : Int32), .unset, .unset, .unset, .unset, .unset, .unset] []) t → Sx p e below s₁ g₀ t := fun t k => by subst hg₀; exact castTop (ef_31U m (1 : Int32) r1 (1 : Int32)) k
  have pre1 : ∀ t, Sx p e below s₁ (mkF m 7 #[iv (1 : Int32), rv r1, iv (1 : Int32), .unset, .unset, .unset, .unset, .unset, .unset] [(.int (1 : Int32)), (.ref r1)]) t → Sx p e below s₁ g₀ t := by
    intro t kt
    refine pre0 _ ?_
    refine XS.iloadN X0.here hx rfl (hb hby d31_0) rfl ?_
    refine XS.iconst X0.here hx rfl (hb hby d31_1) ?_
    refine XS.icmpNo X0.here hx rfl (hb hby d31_2) rfl (teq (by decide)).2 ?_
    refine XS.aloadN X0.here hx rfl (hb hby d31_5) rfl rfl ?_
    refine XS.iloadN X0.here hx rfl (hb hby d31_6) rfl ?_
    exact kt
  obtain ⟨_, T2, Lc2, X2, hQ2, st2⟩ := own_cS X0 hx hZ (y := Y51) hown (own_w hw 262 rfl) (own_w hw 263 rfl) (own_w hw 13 rfl) (own_w hw 264 rfl) (by decide) (W := 0) (rm59 l Z a0 hw [] r1 kc cs_ h0 n0 (Nat.le_trans Z0 (Keep.refl h0 []).1) V_r1 hcs_ hl5 hpos hsur (O0.keep (Keep.refl h0 []) all0) S_ad S_hi S_lo) (by decide) (by decide) (g := (mkF m 7 #[iv (1 : Int32), rv r1, iv (1 : Int32), .unset, .unset, .unset, .unset, .unset, .unset] [(.int (1 : Int32)), (.ref r1)])) rfl hml.symm (argsL := [(.ref r1), (.int (1 : Int32))]) (rest := []) (lenOf pd40 rfl) rfl (Nat.le_of_eq rfl) (hb hby d31_7) rfl e0 (by decide) (by decide)
  obtain ⟨y2, ky2, rfl, N2q, Kc2, hy2, Vy2, Ey2⟩ := hQ2
  have N2 := Fr.app N0 N2q
  have K2 : Keep h0 T2.heap [] := (Keep.refl h0 []).trans Kc2 all0
  have g_y2 : n0 ≤ y2 := Nat.le_trans (Nat.le_trans Z0 (Keep.refl h0 []).1) hy2
  have sz_y2 : h0.size ≤ y2 := Nat.le_trans (Keep.refl h0 []).1 hy2
  have pre3 : ∀ t, Sx p e below T2 (mkF m 10 #[iv (1 : Int32), rv r1, iv (1 : Int32), .unset, .unset, .unset, .unset, .unset, .unset] [(.ref y2)]) t → Sx p e below s₁ g₀ t := by
    intro t kt
    refine pre1 _ ?_
    refine st2 _ ?_
    exact kt
  obtain ⟨fs, hr, hrun, hended, hW, hsame⟩ := X2.leave (v := some (.ref y2)) (fun h => by rw [Bd.returns] at h; cases h)
  refine ⟨_, _, _, pre3 _ ?_, hrun, hended, ?_, ⟨_, rfl⟩, hW, hsame.mono (by decide) (by decide)⟩
  · show Steps p.tables e below (T2.setTop (mkF m 10 #[iv (1 : Int32), rv r1, iv (1 : Int32), .unset, .unset, .unset, .unset, .unset, .unset] [(.ref y2)])) _
    jvm_step X2.here [X2.here.top, hx, (hb hby d31_10), X2.method', Bd.returns, Value.isRef, FieldType.isReference]
    first | (intro acts; rw [hr _ acts rfl rfl rfl]) | rw [hr _ _ rfl rfl rfl]
    exact Steps.refl _
  · show Q31U Z r1 kc cs_ h0 n0 _ T2.heap _
    exact ⟨y2, ky2, rfl, N2, K2, sz_y2, Vy2, Ey2⟩
abbrev D30 (q : Nat) (i : Instr) (k : Nat) : Prop := decode jdk_42_method_18_code q = .ok (i, k)
theorem d30_0 : D30 0 (.aload_n 0) 1 := by decide +kernel
theorem d30_1 : D30 1 (.getstatic 86) 3 := by decide +kernel
theorem d30_4 : D30 4 (.if_acmp .ne 10) 3 := by decide +kernel
theorem d30_7 : D30 7 (.iload_n 1) 1 := by decide +kernel
theorem d30_8 : D30 8 (.aload_n 2) 1 := by decide +kernel
theorem d30_9 : D30 9 (.iconst 1) 1 := by decide +kernel
theorem pd41 : parseMethodDescriptor "(B[BZ)[B" = some ⟨[.byte, (.array .byte), .boolean], some (.array .byte)⟩ := by decide +kernel
theorem d30_10 : D30 10 (.invokestatic 252) 3 := by decide +kernel
theorem d30_13 : D30 13 (.areturn) 1 := by decide +kernel
theorem ef_30v0 (m : MethodId) (x0 : Addr) (x1 : Int32) (x2 : Addr) : entryFrame m #[(.ref x0), (.int x1), (.ref x2)] 3 = mkF m 0 #[.val (.ref x0), .val (.int x1), .val (.ref x2)] [] := by first | (simp [entryFrame, mkF, argsToLocals, Value.category]; done) | rfl
def Q30v0 (Z : State) (r2 : Addr) (kc : ClassId) (cs_ : List Int32) (u8 : Addr) (h0 : Heap) (n0 : Nat) (v : Option Value) (h : Heap) (L : List Loc) : Prop := ∃ y k, v = some (.ref y) ∧ Fr n0 L ∧ Keep h0 h [] ∧ h0.size ≤ y ∧ Arv Z h y k .byte (own_len (own_encs cs_)) (own_M (own_encs cs_)) (.int (0 : Int32)) ∧ Exa Z h y "[B"
abbrev R30v0 : Room := { frames := 3, cells := 3, slots := 40, locals := 100 }
theorem rm30v0 (l : Launch) (Z : State) (a0 : Array Value) (hw : ∀ d ∈ tables_1, d.before a0 Z = true) (ws : List Jvm.Cond) (r2 : Addr) (kc : ClassId) (cs_ : List Int32) (u8 : Addr) (h0 : Heap) (n0 : Nat) (Z0 : n0 ≤ h0.size) (V_r2 : Arv Z h0 r2 kc .byte (own_len cs_) (own_M (own_Lb cs_)) (.int (0 : Int32))) (E_r2 : Exa Z h0 r2 "[B") (hcs_ : ∀ x ∈ cs_, own_ch x) (hl5 : cs_.length ≤ 5) (hpos : 0 < cs_.length) (hL : ∀ x ∈ cs_, ¬ ((255 : Int32) < x)) (O0 : Old Z n0 h0) (S_u8 : Sta Z Z.heap "java/nio/charset/StandardCharsets" "UTF_8" "Ljava/nio/charset/Charset;" (.ref u8)) (S_in8 : Sta Z Z.heap "sun/nio/cs/UTF_8" "INSTANCE" "Lsun/nio/cs/UTF_8;" (.ref u8)) :
    MetFree l Y52 (head1 (Jvm.Cond.code Y52 jdk_42_method_18_code 3 (some (.array .byte)) :: ws) R30v0) (fun a U => a = #[(.ref u8), (.int (0 : Int32)), (.ref r2)] ∧ Z.Warmed39 U.vm ∧ U.heap = h0) (fun _ _ _ _ _ => True) (fun _ U o U' => ∃ v L, o = .returned v ∧ Q30v0 Z r2 kc cs_ u8 h0 n0 v U'.heap L ∧ FrameEnd U o U' L R30v0.cells R30v0.slots) := by
  refine own_start (C := "java/lang/String") (Q := Q30v0 Z r2 kc cs_ u8 h0 n0) rfl (plainFor_of_name pn4) ?_
  intro p e s m below meth c s₁ g₀ hg₀ Bd hx hby hml hZ hown hnm X0 e0
  have N0 := Fr.nil n0
  have pre0 : ∀ t, Sx p e below s₁ (mkF m 0 #[rv u8, iv (0 : Int32), rv r2] []) t → Sx p e below s₁ g₀ t := fun t k => by subst hg₀; exact castTop (ef_30v0 m u8 (0 : Int32) r2) k
  have pre1 : ∀ t, Sx p e below s₁ (mkF m 1 #[rv u8, iv (0 : Int32), rv r2] [(.ref u8)]) t → Sx p e below s₁ g₀ t := by
    intro t kt
    refine pre0 _ ?_
    refine XS.aloadN X0.here hx rfl (hb hby d30_0) rfl rfl ?_
    exact kt
  obtain ⟨T2, X2, e2, st2⟩ := getS2 X0 hx hZ hown (host := "") (Or.inl (own_w hw 136 rfl)) Via.refl e0 (S_in8.ext (O0.keep (Keep.refl h0 []) all0).2) (g := (mkF m 1 #[rv u8, iv (0 : Int32), rv r2] [(.ref u8)])) rfl (hb hby d30_1)
  have pre3 : ∀ t, Sx p e below T2 (mkF m 10 #[rv u8, iv (0 : Int32), rv r2] [(.int (1 : Int32)), (.ref r2), (.int (0 : Int32))]) t → Sx p e below s₁ g₀ t := by
    intro t kt
    refine pre1 _ ?_
    refine st2 _ ?_
    show Sx p e below T2 (mkF m 4 #[rv u8, iv (0 : Int32), rv r2] [(.ref u8), (.ref u8)]) _
    refine Jvm.RoadKit.acmp (g := (mkF m 4 #[rv u8, iv (0 : Int32), rv r2] [(.ref u8), (.ref u8)])) X2 hx rfl rfl rfl (pc0 := 4) (pc' := 7) (same := true) rfl (hb hby d30_4) rfl (decide_eq_true rfl) (by decide) (by decide) ?_
    show Sx p e below T2 (mkF m 7 #[rv u8, iv (0 : Int32), rv r2] []) _
    refine XS.iloadN X2.here hx rfl (hb hby d30_7) rfl ?_
    refine XS.aloadN X2.here hx rfl (hb hby d30_8) rfl rfl ?_
    refine XS.iconst X2.here hx rfl (hb hby d30_9) ?_
    exact kt
  obtain ⟨_, T4, Lc4, X4, hQ4, st4⟩ := own_cS X2 hx hZ (y := Y49) hown (own_w hw 138 rfl) (own_w hw 139 rfl) (own_w hw 13 rfl) (own_w hw 140 rfl) (by decide) (W := 0) (rm31L l Z a0 hw [] r2 kc cs_ h0 n0 (Nat.le_trans Z0 (Keep.refl h0 []).1) V_r2 E_r2 hcs_ hl5 hpos hL) (by decide) (by decide) (g := (mkF m 10 #[rv u8, iv (0 : Int32), rv r2] [(.int (1 : Int32)), (.ref r2), (.int (0 : Int32))])) rfl hml.symm (argsL := [(.int (0 : Int32)), (.ref r2), (.int (1 : Int32))]) (rest := []) (lenOf pd41 rfl) rfl (Nat.le_of_eq rfl) (hb hby d30_10) rfl e2 (by decide) (by decide)
  obtain ⟨y4, ky4, rfl, N4q, Kc4, hy4, Vy4, Ey4⟩ := hQ4
  have N4 := Fr.app N0 N4q
  have K4 : Keep h0 T4.heap [] := (Keep.refl h0 []).trans Kc4 all0
  have g_y4 : n0 ≤ y4 := Nat.le_trans (Nat.le_trans Z0 (Keep.refl h0 []).1) hy4
  have sz_y4 : h0.size ≤ y4 := Nat.le_trans (Keep.refl h0 []).1 hy4
  have pre5 : ∀ t, Sx p e below T4 (mkF m 13 #[rv u8, iv (0 : Int32), rv r2] [(.ref y4)]) t → Sx p e below s₁ g₀ t := by
    intro t kt
    refine pre3 _ ?_
    refine st4 _ ?_
    exact kt
  obtain ⟨fs, hr, hrun, hended, hW, hsame⟩ := X4.leave (v := some (.ref y4)) (fun h => by rw [Bd.returns] at h; cases h)
  refine ⟨_, _, _, pre5 _ ?_, hrun, hended, ?_, ⟨_, rfl⟩, hW, hsame.mono (by decide) (by decide)⟩
  · show Steps p.tables e below (T4.setTop (mkF m 13 #[rv u8, iv (0 : Int32), rv r2] [(.ref y4)])) _
    jvm_step X4.here [X4.here.top, hx, (hb hby d30_13), X4.method', Bd.returns, Value.isRef, FieldType.isReference]
    first | (intro acts; rw [hr _ acts rfl rfl rfl]) | rw [hr _ _ rfl rfl rfl]
    exact Steps.refl _
  · show Q30v0 Z r2 kc cs_ u8 h0 n0 _ T4.heap _
    exact ⟨y4, ky4, rfl, N4, K4, sz_y4, Vy4, Ey4⟩

theorem ef_30v1 (m : MethodId) (x0 : Addr) (x1 : Int32) (x2 : Addr) : entryFrame m #[(.ref x0), (.int x1), (.ref x2)] 3 = mkF m 0 #[.val (.ref x0), .val (.int x1), .val (.ref x2)] [] := by first | (simp [entryFrame, mkF, argsToLocals, Value.category]; done) | rfl
def Q30v1 (Z : State) (r2 : Addr) (kc : ClassId) (cs_ : List Int32) (u8 : Addr) (h0 : Heap) (n0 : Nat) (v : Option Value) (h : Heap) (L : List Loc) : Prop := ∃ y k, v = some (.ref y) ∧ Fr n0 L ∧ Keep h0 h [] ∧ h0.size ≤ y ∧ Arv Z h y k .byte (own_len (own_encs cs_)) (own_M (own_encs cs_)) (.int (0 : Int32)) ∧ Exa Z h y "[B"
abbrev R30v1 : Room := { frames := 4, cells := 2, slots := 30, locals := 120 }
theorem rm30v1 (l : Launch) (Z : State) (a0 : Array Value) (hw : ∀ d ∈ tables_1, d.before a0 Z = true) (ws : List Jvm.Cond) (r2 : Addr) (kc : ClassId) (cs_ : List Int32) (u8 : Addr) (h0 : Heap) (n0 : Nat) (Z0 : n0 ≤ h0.size) (V_r2 : Arv Z h0 r2 kc .byte (own_len (own_U cs_)) (own_M (own_U cs_)) (.int (0 : Int32))) (E_r2 : Exa Z h0 r2 "[B") (hcs_ : ∀ x ∈ cs_, own_ch x) (hl5 : cs_.length ≤ 5) (hpos : 0 < cs_.length) (hsur : ∀ x ∈ cs_, ¬ (x < (55296 : Int32)) → ¬ (x < (57344 : Int32))) (O0 : Old Z n0 h0) (S_u8 : Sta Z Z.heap "java/nio/charset/StandardCharsets" "UTF_8" "Ljava/nio/charset/Charset;" (.ref u8)) (S_in8 : Sta Z Z.heap "sun/nio/cs/UTF_8" "INSTANCE" "Lsun/nio/cs/UTF_8;" (.ref u8)) (S_ad : Sta Z Z.heap "java/lang/StringUTF16" "$assertionsDisabled" "Z" (.int (1 : Int32))) (S_hi : Sta Z Z.heap "java/lang/StringUTF16" "HI_BYTE_SHIFT" "I" (.int (0 : Int32))) (S_lo : Sta Z Z.heap "java/lang/StringUTF16" "LO_BYTE_SHIFT" "I" (.int (8 : Int32))) :
    MetFree l Y52 (head1 (Jvm.Cond.code Y52 jdk_42_method_18_code 3 (some (.array .byte)) :: ws) R30v1) (fun a U => a = #[(.ref u8), (.int (1 : Int32)), (.ref r2)] ∧ Z.Warmed39 U.vm ∧ U.heap = h0) (fun _ _ _ _ _ => True) (fun _ U o U' => ∃ v L, o = .returned v ∧ Q30v1 Z r2 kc cs_ u8 h0 n0 v U'.heap L ∧ FrameEnd U o U' L R30v1.cells R30v1.slots) := by
  refine own_start (C := "java/lang/String") (Q := Q30v1 Z r2 kc cs_ u8 h0 n0) rfl (plainFor_of_name pn4) ?_
  intro p e s m below meth c s₁ g₀ hg₀ Bd hx hby hml hZ hown hnm X0 e0
  have N0 := Fr.nil n0
  have pre0 : ∀ t, Sx p e below s₁ (mkF m 0 #[rv u8, iv (1 : Int32), rv r2] []) t → Sx p e below s₁ g₀ t := fun t k => by subst hg₀; exact castTop (ef_30v1 m u8 (1 : Int32) r2) k
  have pre1 : ∀ t, Sx p e below s₁ (mkF m 1 #[rv u8, iv (1 : Int32), rv r2] [(.ref u8)]) t → Sx p e below s₁ g₀ t := by
    intro t kt
    refine pre0 _ ?_
    refine XS.aloadN X0.here hx rfl (hb hby d30_0) rfl rfl ?_
    exact kt
  obtain ⟨T2, X2, e2, st2⟩ := getS2 X0 hx hZ hown (host := "") (Or.inl (own_w hw 136 rfl)) Via.refl e0 (S_in8.ext (O0.keep (Keep.refl h0 []) all0).2) (g := (mkF m 1 #[rv u8, iv (1 : Int32), rv r2] [(.ref u8)])) rfl (hb hby d30_1)
  have pre3 : ∀ t, Sx p e below T2 (mkF m 10 #[rv u8, iv (1 : Int32), rv r2] [(.int (1 : Int32)), (.ref r2), (.int (1 : Int32))]) t → Sx p e below s₁ g₀ t := by
    intro t kt
    refine pre1 _ ?_
    refine st2 _ ?_
    show Sx p e below T2 (mkF m 4 #[rv u8, iv (1 : Int32), rv r2] [(.ref u8), (.ref u8)]) _
    refine Jvm.RoadKit.acmp (g := (mkF m 4 #[rv u8, iv (1 : Int32), rv r2] [(.ref u8), (.ref u8)])) X2 hx rfl rfl rfl (pc0 := 4) (pc' := 7) (same := true) rfl (hb hby d30_4) rfl (decide_eq_true rfl) (by decide) (by decide) ?_
    show Sx p e below T2 (mkF m 7 #[rv u8, iv (1 : Int32), rv r2] []) _
    refine XS.iloadN X2.here hx rfl (hb hby d30_7) rfl ?_
    refine XS.aloadN X2.here hx rfl (hb hby d30_8) rfl rfl ?_
    refine XS.iconst X2.here hx rfl (hb hby d30_9) ?_
    exact kt
  obtain ⟨_, T4, Lc4, X4, hQ4, st4⟩ := own_cS X2 hx hZ (y := Y49) hown (own_w hw 138 rfl) (own_w hw 139 rfl) (own_w hw 13 rfl) (own_w hw 140 rfl) (by decide) (W := 0) (rm31U l Z a0 hw [] r2 kc cs_ h0 n0 (Nat.le_trans Z0 (Keep.refl h0 []).1) V_r2 E_r2 hcs_ hl5 hpos hsur (O0.keep (Keep.refl h0 []) all0) S_ad S_hi S_lo) (by decide) (by decide) (g := (mkF m 10 #[rv u8, iv (1 : Int32), rv r2] [(.int (1 : Int32)), (.ref r2), (.int (1 : Int32))])) rfl hml.symm (argsL := [(.int (1 : Int32)), (.ref r2), (.int (1 : Int32))]) (rest := []) (lenOf pd41 rfl) rfl (Nat.le_of_eq rfl) (hb hby d30_10) rfl e2 (by decide) (by decide)
  obtain ⟨y4, ky4, rfl, N4q, Kc4, hy4, Vy4, Ey4⟩ := hQ4
  have N4 := Fr.app N0 N4q
  have K4 : Keep h0 T4.heap [] := (Keep.refl h0 []).trans Kc4 all0
  have g_y4 : n0 ≤ y4 := Nat.le_trans (Nat.le_trans Z0 (Keep.refl h0 []).1) hy4
  have sz_y4 : h0.size ≤ y4 := Nat.le_trans (Keep.refl h0 []).1 hy4
  have pre5 : ∀ t, Sx p e below T4 (mkF m 13 #[rv u8, iv (1 : Int32), rv r2] [(.ref y4)]) t → Sx p e below s₁ g₀ t := by
    intro t kt
    refine pre3 _ ?_
    refine st4 _ ?_
    exact kt
  obtain ⟨fs, hr, hrun, hended, hW, hsame⟩ := X4.leave (v := some (.ref y4)) (fun h => by rw [Bd.returns] at h; cases h)
  refine ⟨_, _, _, pre5 _ ?_, hrun, hended, ?_, ⟨_, rfl⟩, hW, hsame.mono (by decide) (by decide)⟩
  · show Steps p.tables e below (T4.setTop (mkF m 13 #[rv u8, iv (1 : Int32), rv r2] [(.ref y4)])) _
    jvm_step X4.here [X4.here.top, hx, (hb hby d30_13), X4.method', Bd.returns, Value.isRef, FieldType.isReference]
    first | (intro acts; rw [hr _ acts rfl rfl rfl]) | rw [hr _ _ rfl rfl rfl]
    exact Steps.refl _
  · show Q30v1 Z r2 kc cs_ u8 h0 n0 _ T4.heap _
    exact ⟨y4, ky4, rfl, N4, K4, sz_y4, Vy4, Ey4⟩
abbrev D29 (q : Nat) (i : Instr) (k : Nat) : Prop := decode jdk_42_method_64_code q = .ok (i, k)
theorem d29_0 : D29 0 (.aload_n 1) 1 := by decide +kernel
theorem d29_1 : D29 1 (.ifnonnull 11) 3 := by decide +kernel
theorem d29_12 : D29 12 (.aload_n 1) 1 := by decide +kernel
theorem d29_13 : D29 13 (.aload_n 0) 1 := by decide +kernel
theorem d29_14 : D29 14 (.invokevirtual 335) 3 := by decide +kernel
theorem d29_17 : D29 17 (.aload_n 0) 1 := by decide +kernel
theorem d29_18 : D29 18 (.getfield 9) 3 := by decide +kernel
theorem pd42 : parseMethodDescriptor "(Ljava/nio/charset/Charset;B[B)[B" = some ⟨[(.object "java/nio/charset/Charset"), .byte, (.array .byte)], some (.array .byte)⟩ := by decide +kernel
theorem d29_21 : D29 21 (.invokestatic 535) 3 := by decide +kernel
theorem d29_24 : D29 24 (.areturn) 1 := by decide +kernel
theorem ef_29s (m : MethodId) (x0 : Addr) (x1 : Addr) : entryFrame m #[(.ref x0), (.ref x1)] 2 = mkF m 0 #[.val (.ref x0), .val (.ref x1)] [] := by first | (simp [entryFrame, mkF, argsToLocals, Value.category]; done) | rfl
def Q29s (Z : State) (r0 : Addr) (va : Addr) (kc : ClassId) (ts_ : List Int32) (cs : Int32) (u8 : Addr) (h0 : Heap) (n0 : Nat) (v : Option Value) (h : Heap) (L : List Loc) : Prop := ∃ y k, v = some (.ref y) ∧ Fr n0 L ∧ Keep h0 h [] ∧ h0.size ≤ y ∧ Arv Z h y k .byte (own_len (own_encs ts_)) (own_M (own_encs ts_)) (.int (0 : Int32)) ∧ Exa Z h y "[B"
abbrev R29s : Room := { frames := 5, cells := 3, slots := 40, locals := 134 }
theorem rm29s (l : Launch) (Z : State) (a0 : Array Value) (hw : ∀ d ∈ tables_1, d.before a0 Z = true) (ws : List Jvm.Cond) (r0 : Addr) (va : Addr) (kc : ClassId) (ts_ : List Int32) (cs : Int32) (u8 : Addr) (h0 : Heap) (n0 : Nat) (Z0 : n0 ≤ h0.size) (F_v : Fld Z h0 r0 "java/lang/String" "value" "[B" (.ref va)) (E_r0 : Exa Z h0 r0 "java/lang/String") (hD : own_sf Z h0 r0 va kc ts_) (E_va : Exa Z h0 va "[B") (hts_ : ∀ x ∈ ts_, own_ch x) (ht5 : ts_.length ≤ 5) (hpos : 0 < ts_.length) (hsur : ∀ x ∈ ts_, ¬ (x < (55296 : Int32)) → ¬ (x < (57344 : Int32))) (O0 : Old Z n0 h0) (S_cs : Sta Z Z.heap "java/lang/String" "COMPACT_STRINGS" "Z" (.int cs)) (hcs : ¬ (cs = (0 : Int32))) (S_ad : Sta Z Z.heap "java/lang/StringUTF16" "$assertionsDisabled" "Z" (.int (1 : Int32))) (S_hi : Sta Z Z.heap "java/lang/StringUTF16" "HI_BYTE_SHIFT" "I" (.int (0 : Int32))) (S_lo : Sta Z Z.heap "java/lang/StringUTF16" "LO_BYTE_SHIFT" "I" (.int (8 : Int32))) (S_u8 : Sta Z Z.heap "java/nio/charset/StandardCharsets" "UTF_8" "Ljava/nio/charset/Charset;" (.ref u8)) (S_in8 : Sta Z Z.heap "sun/nio/cs/UTF_8" "INSTANCE" "Lsun/nio/cs/UTF_8;" (.ref u8)) :
    MetFree l Y53 (head1 (Jvm.Cond.code Y53 jdk_42_method_64_code 2 (some (.array .byte)) :: ws) R29s) (fun a U => a = #[(.ref r0), (.ref u8)] ∧ Z.Warmed39 U.vm ∧ U.heap = h0) (fun _ _ _ _ _ => True) (fun _ U o U' => ∃ v L, o = .returned v ∧ Q29s Z r0 va kc ts_ cs u8 h0 n0 v U'.heap L ∧ FrameEnd U o U' L R29s.cells R29s.slots) := by
  refine own_start (C := "java/lang/String") (Q := Q29s Z r0 va kc ts_ cs u8 h0 n0) rfl (plainFor_of_name pn4) ?_
  intro p e s m below meth c s₁ g₀ hg₀ Bd hx hby hml hZ hown hnm X0 e0
  have N0 := Fr.nil n0
  have pre0 : ∀ t, Sx p e below s₁ (mkF m 0 #[rv r0, rv u8] []) t → Sx p e below s₁ g₀ t := fun t k => by subst hg₀; exact castTop (ef_29s m r0 u8) k
  rcases hD with ⟨Fc, hL, V_⟩ | ⟨Fc, V_⟩
  · have pre1 : ∀ t, Sx p e below s₁ (mkF m 14 #[rv r0, rv u8] [(.ref r0), (.ref u8)]) t → Sx p e below s₁ g₀ t := by
      intro t kt
      refine pre0 _ ?_
      refine XS.aloadN X0.here hx rfl (hb hby d29_0) rfl rfl ?_
      refine XS.ifnonnullYes X0.here hx rfl (pc0 := 1) (pc' := 12) rfl (hb hby d29_1) rfl (by decide) (by decide) ?_
      refine XS.aloadN X0.here hx rfl (hb hby d29_12) rfl rfl ?_
      refine XS.aloadN X0.here hx rfl (hb hby d29_13) rfl rfl ?_
      exact kt
    obtain ⟨_, T2, Lc2, X2, hQ2, st2⟩ := own_cV X0 hx hZ (y := Y25) hown (own_w hw 63 rfl) (own_w hw 64 rfl) (own_w hw 66 rfl) (own_w hw 65 rfl) (own_w hw 67 rfl) (own_w hw 13 rfl) (by decide) (W := 1) (rm14 l Z a0 hw [] r0 va (0 : Int32) cs h0 n0 (Nat.le_trans Z0 (Keep.refl h0 []).1) F_v Fc E_r0 (by decide) (O0.keep (Keep.refl h0 []) all0) S_cs hcs) (by decide) (by decide) E_r0 (g := (mkF m 14 #[rv r0, rv u8] [(.ref r0), (.ref u8)])) rfl hml.symm (argsL := []) (rest := [(.ref u8)]) (lenOf pd21 rfl) rfl (Nat.le_of_eq rfl) (hb hby d29_14) rfl e0 (by decide) (by decide)
    obtain ⟨rfl, N2q, hh2⟩ := hQ2
    have N2 := Fr.app N0 N2q
    have pre3 : ∀ t, Sx p e below T2 (mkF m 18 #[rv r0, rv u8] [(.ref r0), (.int (0 : Int32)), (.ref u8)]) t → Sx p e below s₁ g₀ t := by
      intro t kt
      refine pre1 _ ?_
      refine st2.trans ?_
      show Sx p e below T2 (mkF m 17 #[rv r0, rv u8] [(.int (0 : Int32)), (.ref u8)]) _
      refine XS.aloadN X2.here hx rfl (hb hby d29_17) rfl rfl ?_
      exact kt
    obtain ⟨T4, X4, e4, st4⟩ := getF X2 hx hZ hown (host := "") (Or.inl (own_w hw 37 rfl)) Via.refl hh2 F_v (g := (mkF m 18 #[rv r0, rv u8] [(.ref r0), (.int (0 : Int32)), (.ref u8)])) rfl rfl (hb hby d29_18)
    have pre5 : ∀ t, Sx p e below T4 (mkF m 21 #[rv r0, rv u8] [(.ref va), (.int (0 : Int32)), (.ref u8)]) t → Sx p e below s₁ g₀ t := by
      intro t kt
      refine pre3 _ ?_
      refine st4 _ ?_
      exact kt
    obtain ⟨_, T6, Lc6, X6, hQ6, st6⟩ := own_cS X4 hx hZ (y := Y52) hown (own_w hw 133 rfl) (own_w hw 134 rfl) (own_w hw 13 rfl) (own_w hw 135 rfl) (by decide) (W := 0) (rm30v0 l Z a0 hw [] va kc ts_ u8 h0 n0 (Nat.le_trans Z0 (Keep.refl h0 []).1) V_ E_va hts_ ht5 hpos hL (O0.keep (Keep.refl h0 []) all0) S_u8 S_in8) (by decide) (by decide) (g := (mkF m 21 #[rv r0, rv u8] [(.ref va), (.int (0 : Int32)), (.ref u8)])) rfl hml.symm (argsL := [(.ref u8), (.int (0 : Int32)), (.ref va)]) (rest := []) (lenOf pd42 rfl) rfl (Nat.le_of_eq rfl) (hb hby d29_21) rfl e4 (by decide) (by decide)
    obtain ⟨y6, ky6, rfl, N6q, Kc6, hy6, Vy6, Ey6⟩ := hQ6
    have N6 := Fr.app N2 N6q
    have K6 : Keep h0 T6.heap [] := (Keep.refl h0 []).trans Kc6 all0
    have g_y6 : n0 ≤ y6 := Nat.le_trans (Nat.le_trans Z0 (Keep.refl h0 []).1) hy6
    have sz_y6 : h0.size ≤ y6 := Nat.le_trans (Keep.refl h0 []).1 hy6
    have pre7 : ∀ t, Sx p e below T6 (mkF m 24 #[rv r0, rv u8] [(.ref y6)]) t → Sx p e below s₁ g₀ t := by
      intro t kt
      refine pre5 _ ?_
      refine st6 _ ?_
      exact kt
    obtain ⟨fs, hr, hrun, hended, hW, hsame⟩ := X6.leave (v := some (.ref y6)) (fun h => by rw [Bd.returns] at h; cases h)
    refine ⟨_, _, _, pre7 _ ?_, hrun, hended, ?_, ⟨_, rfl⟩, hW, hsame.mono (by decide) (by decide)⟩
    · show Steps p.tables e below (T6.setTop (mkF m 24 #[rv r0, rv u8] [(.ref y6)])) _
      jvm_step X6.here [X6.here.top, hx, (hb hby d29_24), X6.method', Bd.returns, Value.isRef, FieldType.isReference]
      first | (intro acts; rw [hr _ acts rfl rfl rfl]) | rw [hr _ _ rfl rfl rfl]
      exact Steps.refl _
    · show Q29s Z r0 va kc ts_ cs u8 h0 n0 _ T6.heap _
      exact ⟨y6, ky6, rfl, N6, K6, sz_y6, Vy6, Ey6⟩
  · have pre8 : ∀ t, Sx p e below s₁ (mkF m 14 #[rv r0, rv u8] [(.ref r0), (.ref u8)]) t → Sx p e below s₁ g₀ t := by
      intro t kt
      refine pre0 _ ?_
      refine XS.aloadN X0.here hx rfl (hb hby d29_0) rfl rfl ?_
      refine XS.ifnonnullYes X0.here hx rfl (pc0 := 1) (pc' := 12) rfl (hb hby d29_1) rfl (by decide) (by decide) ?_
      refine XS.aloadN X0.here hx rfl (hb hby d29_12) rfl rfl ?_
      refine XS.aloadN X0.here hx rfl (hb hby d29_13) rfl rfl ?_
      exact kt
    obtain ⟨_, T9, Lc9, X9, hQ9, st9⟩ := own_cV X0 hx hZ (y := Y25) hown (own_w hw 63 rfl) (own_w hw 64 rfl) (own_w hw 66 rfl) (own_w hw 65 rfl) (own_w hw 67 rfl) (own_w hw 13 rfl) (by decide) (W := 1) (rm14 l Z a0 hw [] r0 va (1 : Int32) cs h0 n0 (Nat.le_trans Z0 (Keep.refl h0 []).1) F_v Fc E_r0 (by decide) (O0.keep (Keep.refl h0 []) all0) S_cs hcs) (by decide) (by decide) E_r0 (g := (mkF m 14 #[rv r0, rv u8] [(.ref r0), (.ref u8)])) rfl hml.symm (argsL := []) (rest := [(.ref u8)]) (lenOf pd21 rfl) rfl (Nat.le_of_eq rfl) (hb hby d29_14) rfl e0 (by decide) (by decide)
    obtain ⟨rfl, N9q, hh9⟩ := hQ9
    have N9 := Fr.app N0 N9q
    have pre10 : ∀ t, Sx p e below T9 (mkF m 18 #[rv r0, rv u8] [(.ref r0), (.int (1 : Int32)), (.ref u8)]) t → Sx p e below s₁ g₀ t := by
      intro t kt
      refine pre8 _ ?_
      refine st9.trans ?_
      show Sx p e below T9 (mkF m 17 #[rv r0, rv u8] [(.int (1 : Int32)), (.ref u8)]) _
      refine XS.aloadN X9.here hx rfl (hb hby d29_17) rfl rfl ?_
      exact kt
    obtain ⟨T11, X11, e11, st11⟩ := getF X9 hx hZ hown (host := "") (Or.inl (own_w hw 37 rfl)) Via.refl hh9 F_v (g := (mkF m 18 #[rv r0, rv u8] [(.ref r0), (.int (1 : Int32)), (.ref u8)])) rfl rfl (hb hby d29_18)
    have pre12 : ∀ t, Sx p e below T11 (mkF m 21 #[rv r0, rv u8] [(.ref va), (.int (1 : Int32)), (.ref u8)]) t → Sx p e below s₁ g₀ t := by
      intro t kt
      refine pre10 _ ?_
      refine st11 _ ?_
      exact kt
    obtain ⟨_, T13, Lc13, X13, hQ13, st13⟩ := own_cS X11 hx hZ (y := Y52) hown (own_w hw 133 rfl) (own_w hw 134 rfl) (own_w hw 13 rfl) (own_w hw 135 rfl) (by decide) (W := 0) (rm30v1 l Z a0 hw [] va kc ts_ u8 h0 n0 (Nat.le_trans Z0 (Keep.refl h0 []).1) V_ E_va hts_ ht5 hpos hsur (O0.keep (Keep.refl h0 []) all0) S_u8 S_in8 S_ad S_hi S_lo) (by decide) (by decide) (g := (mkF m 21 #[rv r0, rv u8] [(.ref va), (.int (1 : Int32)), (.ref u8)])) rfl hml.symm (argsL := [(.ref u8), (.int (1 : Int32)), (.ref va)]) (rest := []) (lenOf pd42 rfl) rfl (Nat.le_of_eq rfl) (hb hby d29_21) rfl e11 (by decide) (by decide)
    obtain ⟨y13, ky13, rfl, N13q, Kc13, hy13, Vy13, Ey13⟩ := hQ13
    have N13 := Fr.app N9 N13q
    have K13 : Keep h0 T13.heap [] := (Keep.refl h0 []).trans Kc13 all0
    have g_y13 : n0 ≤ y13 := Nat.le_trans (Nat.le_trans Z0 (Keep.refl h0 []).1) hy13
    have sz_y13 : h0.size ≤ y13 := Nat.le_trans (Keep.refl h0 []).1 hy13
    have pre14 : ∀ t, Sx p e below T13 (mkF m 24 #[rv r0, rv u8] [(.ref y13)]) t → Sx p e below s₁ g₀ t := by
      intro t kt
      refine pre12 _ ?_
      refine st13 _ ?_
      exact kt
    obtain ⟨fs, hr, hrun, hended, hW, hsame⟩ := X13.leave (v := some (.ref y13)) (fun h => by rw [Bd.returns] at h; cases h)
    refine ⟨_, _, _, pre14 _ ?_, hrun, hended, ?_, ⟨_, rfl⟩, hW, hsame.mono (by decide) (by decide)⟩
    · show Steps p.tables e below (T13.setTop (mkF m 24 #[rv r0, rv u8] [(.ref y13)])) _
      jvm_step X13.here [X13.here.top, hx, (hb hby d29_24), X13.method', Bd.returns, Value.isRef, FieldType.isReference]
      first | (intro acts; rw [hr _ acts rfl rfl rfl]) | rw [hr _ _ rfl rfl rfl]
      exact Steps.refl _
    · show Q29s Z r0 va kc ts_ cs u8 h0 n0 _ T13.heap _
      exact ⟨y13, ky13, rfl, N13, K13, sz_y13, Vy13, Ey13⟩
theorem pn43 : plainName "com/example/treewarden/treewarden/session/Credential" = true := by first | (simp [plainName, overriddenIn]; done) | decide +kernel
abbrev D34 (q : Nat) (i : Instr) (k : Nat) : Prop := decode prog_9_method_1_code q = .ok (i, k)
theorem d34_0 : D34 0 (.aload_n 0) 1 := by decide +kernel
theorem d34_1 : D34 1 (.invokespecial 1) 3 := by decide +kernel
theorem d34_4 : D34 4 (.aload_n 0) 1 := by decide +kernel
theorem d34_5 : D34 5 (.aload_n 1) 1 := by decide +kernel
theorem d34_6 : D34 6 (.putfield 7) 3 := by decide +kernel
theorem d34_9 : D34 9 (.aload_n 0) 1 := by decide +kernel
theorem d34_10 : D34 10 (.aload_n 2) 1 := by decide +kernel
theorem d34_11 : D34 11 (.putfield 13) 3 := by decide +kernel
theorem d34_14 : D34 14 (.return_) 1 := by decide +kernel
theorem ef_34 (m : MethodId) (x0 : Addr) (x1 : Addr) (x2 : Addr) : entryFrame m #[(.ref x0), (.ref x1), (.ref x2)] 3 = mkF m 0 #[.val (.ref x0), .val (.ref x1), .val (.ref x2)] [] := by first | (simp [entryFrame, mkF, argsToLocals, Value.category]; done) | rfl
def Q34 (Z : State) (r0 : Addr) (r1 : Addr) (r2 : Addr) (h0 : Heap) (n0 : Nat) (v : Option Value) (h : Heap) (L : List Loc) : Prop := v = none ∧ Fr n0 L ∧ Keep h0 h [r0] ∧ Fld Z h r0 "com/example/treewarden/treewarden/session/Credential" "scheme" "Ljava/lang/String;" (.ref r1) ∧ Fld Z h r0 "com/example/treewarden/treewarden/session/Credential" "secret" "[B" (.ref r2)
abbrev R34 : Room := { frames := 1, cells := 0, slots := 0, locals := 12 }
theorem rm34 (l : Launch) (Z : State) (a0 : Array Value) (hw : ∀ d ∈ tables_1, d.before a0 Z = true) (ws : List Jvm.Cond) (r0 : Addr) (r1 : Addr) (r2 : Addr) (h0 : Heap) (n0 : Nat) (Z0 : n0 ≤ h0.size) (F_scheme_r0 : Fld Z h0 r0 "com/example/treewarden/treewarden/session/Credential" "scheme" "Ljava/lang/String;" .null) (F_secret_r0 : Fld Z h0 r0 "com/example/treewarden/treewarden/session/Credential" "secret" "[B" .null) (E_r0 : Exa Z h0 r0 "com/example/treewarden/treewarden/session/Credential") (g_r0 : n0 ≤ r0) :
    MetFree l Y54 (head1 (Jvm.Cond.code Y54 prog_9_method_1_code 3 none :: ws) R34) (fun a U => a = #[(.ref r0), (.ref r1), (.ref r2)] ∧ Z.Warmed39 U.vm ∧ U.heap = h0) (fun _ _ _ _ _ => True) (fun _ U o U' => ∃ v L, o = .returned v ∧ Q34 Z r0 r1 r2 h0 n0 v U'.heap L ∧ FrameEnd U o U' L R34.cells R34.slots) := by
  refine own_start (C := "com/example/treewarden/treewarden/session/Credential") (Q := Q34 Z r0 r1 r2 h0 n0) rfl (plainFor_of_name pn43) ?_
  intro p e s m below meth c s₁ g₀ hg₀ Bd hx hby hml hZ hown hnm X0 e0
  have N0 := Fr.nil n0
  have pre0 : ∀ t, Sx p e below s₁ (mkF m 0 #[rv r0, rv r1, rv r2] []) t → Sx p e below s₁ g₀ t := fun t k => by subst hg₀; exact castTop (ef_34 m r0 r1 r2) k
  have pre1 : ∀ t, Sx p e below s₁ (mkF m 1 #[rv r0, rv r1, rv r2] [(.ref r0)]) t → Sx p e below s₁ g₀ t := by
    intro t kt
    refine pre0 _ ?_
    refine XS.aloadN X0.here hx rfl (hb hby d34_0) rfl rfl ?_
    exact kt
  obtain ⟨T2, X2, e2, st2⟩ := initO X0 hx hZ hown (own_w hw 163 rfl) (own_w hw 22 rfl) (own_w hw 23 rfl) e0 (g := (mkF m 1 #[rv r0, rv r1, rv r2] [(.ref r0)])) rfl (by rw [hml]; rfl) rfl (hb hby d34_1) (by decide) (W := 0) (by show 2 * 0 + _ ≤ _; exact Nat.le_of_eq rfl) (by decide)
  have pre3 : ∀ t, Sx p e below T2 (mkF m 6 #[rv r0, rv r1, rv r2] [(.ref r1), (.ref r0)]) t → Sx p e below s₁ g₀ t := by
    intro t kt
    refine pre1 _ ?_
    refine st2 _ ?_
    show Sx p e below T2 (mkF m 4 #[rv r0, rv r1, rv r2] []) _
    refine XS.aloadN X2.here hx rfl (hb hby d34_4) rfl rfl ?_
    refine XS.aloadN X2.here hx rfl (hb hby d34_5) rfl rfl ?_
    exact kt
  obtain ⟨T4, h4, X4, e4, W4, st4⟩ := putF X2 hx hZ hown (host := "") (Or.inl (own_w hw 164 rfl)) Via.refl e2 F_scheme_r0 E_r0 (Or.inr ⟨(own_w hw 165 rfl), rfl, hnm⟩) (own_w hw 158 rfl) (ty := (.object "java/lang/String")) (by decide) rfl rfl (g := (mkF m 6 #[rv r0, rv r1, rv r2] [(.ref r1), (.ref r0)])) rfl rfl (hb hby d34_6)
  have Fw4 : Fld Z h4 r0 "com/example/treewarden/treewarden/session/Credential" "scheme" "Ljava/lang/String;" (.ref r1) := F_scheme_r0.same W4
  have K4 : Keep h0 h4 [r0] := (Keep.refl h0 [r0]).wr W4 (Or.inl (List.mem_of_getElem? (i := 0) rfl))
  have N4 := Fr.snoc X4 N0 g_r0
  have pre5 : ∀ t, Sx p e below T4 (mkF m 11 #[rv r0, rv r1, rv r2] [(.ref r2), (.ref r0)]) t → Sx p e below s₁ g₀ t := by
    intro t kt
    refine pre3 _ ?_
    refine st4 _ ?_
    show Sx p e below T4 (mkF m 9 #[rv r0, rv r1, rv r2] []) _
    refine XS.aloadN X4.here hx rfl (hb hby d34_9) rfl rfl ?_
    refine XS.aloadN X4.here hx rfl (hb hby d34_10) rfl rfl ?_
    exact kt
  obtain ⟨T6, h6, X6, e6, W6, st6⟩ := putF X4 hx hZ hown (host := "") (Or.inl (own_w hw 166 rfl)) Via.refl e4 (F_secret_r0.other W4 (Or.inr (slot_ne (Or.inr (own_w hw 167 rfl)) (Or.inr (own_w hw 165 rfl)) (by decide) (t := (.array .byte)) (t' := (.object "java/lang/String")) (by decide) (by decide)))) (E_r0.wr W4) (Or.inr ⟨(own_w hw 167 rfl), rfl, hnm⟩) (own_w hw 158 rfl) (ty := (.array .byte)) (by decide) rfl rfl (g := (mkF m 11 #[rv r0, rv r1, rv r2] [(.ref r2), (.ref r0)])) rfl rfl (hb hby d34_11)
  have Fw6 : Fld Z h6 r0 "com/example/treewarden/treewarden/session/Credential" "secret" "[B" (.ref r2) := (F_secret_r0.other W4 (Or.inr (slot_ne (Or.inr (own_w hw 167 rfl)) (Or.inr (own_w hw 165 rfl)) (by decide) (t := (.array .byte)) (t' := (.object "java/lang/String")) (by decide) (by decide)))).same W6
  have K6 : Keep h0 h6 [r0] := K4.wr W6 (Or.inl (List.mem_of_getElem? (i := 0) rfl))
  have N6 := Fr.snoc X6 N4 g_r0
  have pre7 : ∀ t, Sx p e below T6 (mkF m 14 #[rv r0, rv r1, rv r2] []) t → Sx p e below s₁ g₀ t := by
    intro t kt
    refine pre5 _ ?_
    refine st6 _ ?_
    exact kt
  obtain ⟨fs, hr, hrun, hended, hW, hsame⟩ := X6.leave (v := none) (fun _ => rfl)
  refine ⟨_, _, _, pre7 _ ?_, hrun, hended, ?_, ⟨_, rfl⟩, hW, hsame.mono (by decide) (by decide)⟩
  · show Steps p.tables e below (T6.setTop (mkF m 14 #[rv r0, rv r1, rv r2] [])) _
    exact X6.returnOut hx Bd.returns (hb hby d34_14) hr
  · show Q34 Z r0 r1 r2 h0 n0 _ T6.heap _
    rw [e6]
    exact ⟨rfl, N6, K6, (Fw4.other W6 (Or.inr (slot_ne (Or.inr (own_w hw 165 rfl)) (Or.inr (own_w hw 167 rfl)) (by decide) (t := (.object "java/lang/String")) (t' := (.array .byte)) (by decide) (by decide)))), Fw6⟩
abbrev D35 (q : Nat) (i : Instr) (k : Nat) : Prop := decode prog_9_method_3_code q = .ok (i, k)
theorem d35_0 : D35 0 (.aload_n 0) 1 := by decide +kernel
theorem d35_1 : D35 1 (.getfield 7) 3 := by decide +kernel
theorem d35_4 : D35 4 (.areturn) 1 := by decide +kernel
theorem ef_35 (m : MethodId) (x0 : Addr) : entryFrame m #[(.ref x0)] 1 = mkF m 0 #[.val (.ref x0)] [] := by first | (simp [entryFrame, mkF, argsToLocals, Value.category]; done) | rfl
def Q35 (Z : State) (r0 : Addr) (s1 : Addr) (h0 : Heap) (n0 : Nat) (v : Option Value) (h : Heap) (L : List Loc) : Prop := v = some (.ref s1) ∧ Fr n0 L ∧ h = h0
abbrev R35 : Room := { frames := 0, cells := 0, slots := 0, locals := 0 }
theorem rm35 (l : Launch) (Z : State) (a0 : Array Value) (hw : ∀ d ∈ tables_1, d.before a0 Z = true) (ws : List Jvm.Cond) (r0 : Addr) (s1 : Addr) (h0 : Heap) (n0 : Nat) (Z0 : n0 ≤ h0.size) (F_scheme_r0 : Fld Z h0 r0 "com/example/treewarden/treewarden/session/Credential" "scheme" "Ljava/lang/String;" (.ref s1)) (E_r0 : Exa Z h0 r0 "com/example/treewarden/treewarden/session/Credential") :
    MetFree l Y55 (head1 (Jvm.Cond.code Y55 prog_9_method_3_code 1 (some (.object "java/lang/String")) :: ws) R35) (fun a U => a = #[(.ref r0)] ∧ Z.Warmed39 U.vm ∧ U.heap = h0) (fun _ _ _ _ _ => True) (fun _ U o U' => ∃ v L, o = .returned v ∧ Q35 Z r0 s1 h0 n0 v U'.heap L ∧ FrameEnd U o U' L R35.cells R35.slots) := by
  refine own_start (C := "com/example/treewarden/treewarden/session/Credential") (Q := Q35 Z r0 s1 h0 n0) rfl (plainFor_of_name pn43) ?_
  intro p e s m below meth c s₁ g₀ hg₀ Bd hx hby hml hZ hown hnm X0 e0
  have N0 := Fr.nil n0
  have pre0 : ∀ t, Sx p e below s₁ (mkF m 0 #[rv r0] []) t → Sx p e below s₁ g₀ t := fun t k => by subst hg₀; exact castTop (ef_35 m r0) k
  have pre1 : ∀ t, Sx p e below s₁ (mkF m 1 #[rv r0] [(.ref r0)]) t → Sx p e below s₁ g₀ t := by
    intro t kt
    refine pre0 _ ?_
    refine XS.aloadN X0.here hx rfl (hb hby d35_0) rfl rfl ?_
    exact kt
  obtain ⟨T2, X2, e2, st2⟩ := getF X0 hx hZ hown (host := "") (Or.inl (own_w hw 164 rfl)) Via.refl e0 F_scheme_r0 (g := (mkF m 1 #[rv r0] [(.ref r0)])) rfl rfl (hb hby d35_1)
  have pre3 : ∀ t, Sx p e below T2 (mkF m 4 #[rv r0] [(.ref s1)]) t → Sx p e below s₁ g₀ t := by
    intro t kt
    refine pre1 _ ?_
    refine st2 _ ?_
    exact kt
  obtain ⟨fs, hr, hrun, hended, hW, hsame⟩ := X2.leave (v := some (.ref s1)) (fun h => by rw [Bd.returns] at h; cases h)
  refine ⟨_, _, _, pre3 _ ?_, hrun, hended, ?_, ⟨_, rfl⟩, hW, hsame.mono (by decide) (by decide)⟩
  · show Steps p.tables e below (T2.setTop (mkF m 4 #[rv r0] [(.ref s1)])) _
    jvm_step X2.here [X2.here.top, hx, (hb hby d35_4), X2.method', Bd.returns, Value.isRef, FieldType.isReference]
    first | (intro acts; rw [hr _ acts rfl rfl rfl]) | rw [hr _ _ rfl rfl rfl]
    exact Steps.refl _
  · show Q35 Z r0 s1 h0 n0 _ T2.heap _
    rw [e2]
    exact ⟨rfl, N0, rfl⟩
abbrev D40 (q : Nat) (i : Instr) (k : Nat) : Prop := decode prog_9_method_4_code q = .ok (i, k)
theorem d40_0 : D40 0 (.aload_n 0) 1 := by decide +kernel
theorem d40_1 : D40 1 (.getfield 13) 3 := by decide +kernel
theorem d40_4 : D40 4 (.aload_n 0) 1 := by decide +kernel
theorem d40_5 : D40 5 (.getfield 13) 3 := by decide +kernel
theorem d40_8 : D40 8 (.arraylength) 1 := by decide +kernel
theorem d40_9 : D40 9 (.invokestatic 54) 3 := by decide +kernel
theorem d40_12 : D40 12 (.areturn) 1 := by decide +kernel
theorem ef_40 (m : MethodId) (x0 : Addr) : entryFrame m #[(.ref x0)] 1 = mkF m 0 #[.val (.ref x0)] [] := by first | (simp [entryFrame, mkF, argsToLocals, Value.category]; done) | rfl
def Q40 (Z : State) (r0 : Addr) (y2 : Addr) (k2 : ClassId) (LL : List Int32) (h0 : Heap) (n0 : Nat) (v : Option Value) (h : Heap) (L : List Loc) : Prop := ∃ y k, v = some (.ref y) ∧ Fr n0 L ∧ Keep h0 h [] ∧ h0.size ≤ y ∧ Arv Z h y k .byte (own_len LL) (own_M LL) (.int (0 : Int32)) ∧ Exa Z h y "[B"
abbrev R40 : Room := { frames := 2, cells := 1, slots := 15, locals := 32 }
theorem rm40 (l : Launch) (Z : State) (a0 : Array Value) (hw : ∀ d ∈ tables_1, d.before a0 Z = true) (ws : List Jvm.Cond) (r0 : Addr) (y2 : Addr) (k2 : ClassId) (LL : List Int32) (h0 : Heap) (n0 : Nat) (Z0 : n0 ≤ h0.size) (F_secret_r0 : Fld Z h0 r0 "com/example/treewarden/treewarden/session/Credential" "secret" "[B" (.ref y2)) (E_r0 : Exa Z h0 r0 "com/example/treewarden/treewarden/session/Credential") (V_y2 : Arv Z h0 y2 k2 .byte (own_len LL) (own_M LL) (.int (0 : Int32))) (E_y2 : Exa Z h0 y2 "[B") (hL15 : LL.length ≤ 15) :
    MetFree l Y56 (head1 (Jvm.Cond.code Y56 prog_9_method_4_code 1 (some (.array .byte)) :: ws) R40) (fun a U => a = #[(.ref r0)] ∧ Z.Warmed39 U.vm ∧ U.heap = h0) (fun _ _ _ _ _ => True) (fun _ U o U' => ∃ v L, o = .returned v ∧ Q40 Z r0 y2 k2 LL h0 n0 v U'.heap L ∧ FrameEnd U o U' L R40.cells R40.slots) := by
  refine own_start (C := "com/example/treewarden/treewarden/session/Credential") (Q := Q40 Z r0 y2 k2 LL h0 n0) rfl (plainFor_of_name pn43) ?_
  intro p e s m below meth c s₁ g₀ hg₀ Bd hx hby hml hZ hown hnm X0 e0
  have N0 := Fr.nil n0
  have pre0 : ∀ t, Sx p e below s₁ (mkF m 0 #[rv r0] []) t → Sx p e below s₁ g₀ t := fun t k => by subst hg₀; exact castTop (ef_40 m r0) k
  have pre1 : ∀ t, Sx p e below s₁ (mkF m 1 #[rv r0] [(.ref r0)]) t → Sx p e below s₁ g₀ t := by
    intro t kt
    refine pre0 _ ?_
    refine XS.aloadN X0.here hx rfl (hb hby d40_0) rfl rfl ?_
    exact kt
  obtain ⟨T2, X2, e2, st2⟩ := getF X0 hx hZ hown (host := "") (Or.inl (own_w hw 166 rfl)) Via.refl e0 F_secret_r0 (g := (mkF m 1 #[rv r0] [(.ref r0)])) rfl rfl (hb hby d40_1)
  have pre3 : ∀ t, Sx p e below T2 (mkF m 5 #[rv r0] [(.ref r0), (.ref y2)]) t → Sx p e below s₁ g₀ t := by
    intro t kt
    refine pre1 _ ?_
    refine st2 _ ?_
    show Sx p e below T2 (mkF m 4 #[rv r0] [(.ref y2)]) _
    refine XS.aloadN X2.here hx rfl (hb hby d40_4) rfl rfl ?_
    exact kt
  obtain ⟨T4, X4, e4, st4⟩ := getF X2 hx hZ hown (host := "") (Or.inl (own_w hw 166 rfl)) Via.refl e2 F_secret_r0 (g := (mkF m 5 #[rv r0] [(.ref r0), (.ref y2)])) rfl rfl (hb hby d40_5)
  obtain ⟨cl5, Ar5, -, S5, M5, -, -⟩ := id V_y2
  have pre6 : ∀ t, Sx p e below T4 (mkF m 9 #[rv r0] [(.int (own_len LL)), (.ref y2)]) t → Sx p e below s₁ g₀ t := by
    intro t kt
    refine pre3 _ ?_
    refine st4 _ ?_
    show Sx p e below T4 (mkF m 8 #[rv r0] [(.ref y2), (.ref y2)]) _
    refine X4.arraylength hx (by rw [e4]; exact Ar5.1) (State.isArrayOf_alike hZ.alike Ar5.2.1) (g := (mkF m 8 #[rv r0] [(.ref y2), (.ref y2)])) rfl rfl (hb hby d40_8) _ ?_
    rw [len_of S5 M5]
    exact kt
  obtain ⟨_, T7, Lc7, X7, hQ7, st7⟩ := own_cS X4 hx hZ (y := Y46) hown (own_w hw 193 rfl) (own_w hw 194 rfl) (own_w hw 110 rfl) (own_w hw 195 rfl) (by decide) (W := 0) (rm41 l Z a0 hw [] y2 k2 (own_len LL) LL h0 n0 (Nat.le_trans Z0 (Keep.refl h0 []).1) V_y2 E_y2 (by rw [own_lenN _ (by omega)]; exact Nat.le_refl _) hL15 (own_lenP _ (by omega))) (by decide) (by decide) (g := (mkF m 9 #[rv r0] [(.int (own_len LL)), (.ref y2)])) rfl hml.symm (argsL := [(.ref y2), (.int (own_len LL))]) (rest := []) (lenOf pd37 rfl) rfl (Nat.le_of_eq rfl) (hb hby d40_9) rfl e4 (by decide) (by decide)
  obtain ⟨y7, ky7, rfl, N7q, Kc7, hy7, Vy7, Ey7⟩ := hQ7
  have N7 := Fr.app N0 N7q
  have K7 : Keep h0 T7.heap [] := (Keep.refl h0 []).trans Kc7 all0
  have g_y7 : n0 ≤ y7 := Nat.le_trans (Nat.le_trans Z0 (Keep.refl h0 []).1) hy7
  have sz_y7 : h0.size ≤ y7 := Nat.le_trans (Keep.refl h0 []).1 hy7
  have pre8 : ∀ t, Sx p e below T7 (mkF m 12 #[rv r0] [(.ref y7)]) t → Sx p e below s₁ g₀ t := by
    intro t kt
    refine pre6 _ ?_
    refine st7 _ ?_
    exact kt
  obtain ⟨fs, hr, hrun, hended, hW, hsame⟩ := X7.leave (v := some (.ref y7)) (fun h => by rw [Bd.returns] at h; cases h)
  refine ⟨_, _, _, pre8 _ ?_, hrun, hended, ?_, ⟨_, rfl⟩, hW, hsame.mono (by decide) (by decide)⟩
  · show Steps p.tables e below (T7.setTop (mkF m 12 #[rv r0] [(.ref y7)])) _
    jvm_step X7.here [X7.here.top, hx, (hb hby d40_12), X7.method', Bd.returns, Value.isRef, FieldType.isReference]
    first | (intro acts; rw [hr _ acts rfl rfl rfl]) | rw [hr _ _ rfl rfl rfl]
    exact Steps.refl _
  · show Q40 Z r0 y2 k2 LL h0 n0 _ T7.heap _
    exact ⟨y7, ky7, rfl, N7, K7, sz_y7, Vy7, Ey7⟩
abbrev D9 (q : Nat) (i : Instr) (k : Nat) : Prop := decode prog_9_method_2_code q = .ok (i, k)
theorem d9_0 : D9 0 (.aload_n 0) 1 := by decide +kernel
theorem d9_1 : D9 1 (.bipush 58) 2 := by decide +kernel
theorem d9_3 : D9 3 (.invokevirtual 17) 3 := by decide +kernel
theorem d9_6 : D9 6 (.istore_n 1) 1 := by decide +kernel
theorem d9_7 : D9 7 (.iload_n 1) 1 := by decide +kernel
theorem d9_8 : D9 8 (.ifCond .le 13) 3 := by decide +kernel
theorem d9_11 : D9 11 (.iload_n 1) 1 := by decide +kernel
theorem d9_12 : D9 12 (.aload_n 0) 1 := by decide +kernel
theorem d9_13 : D9 13 (.invokevirtual 23) 3 := by decide +kernel
theorem d9_16 : D9 16 (.iconst 1) 1 := by decide +kernel
theorem d9_17 : D9 17 (.isub) 1 := by decide +kernel
theorem d9_18 : D9 18 (.if_icmp .ne 13) 3 := by decide +kernel
theorem d9_31 : D9 31 (.aload_n 0) 1 := by decide +kernel
theorem d9_32 : D9 32 (.iload_n 1) 1 := by decide +kernel
theorem d9_33 : D9 33 (.iconst 1) 1 := by decide +kernel
theorem d9_34 : D9 34 (.iadd) 1 := by decide +kernel
theorem pd44 : parseMethodDescriptor "(I)Ljava/lang/String;" = some ⟨[.int], some (.object "java/lang/String")⟩ := by decide +kernel
theorem d9_35 : D9 35 (.invokevirtual 34) 3 := by decide +kernel
theorem d9_38 : D9 38 (.getstatic 38) 3 := by decide +kernel
theorem pd45 : parseMethodDescriptor "(Ljava/nio/charset/Charset;)[B" = some ⟨[(.object "java/nio/charset/Charset")], some (.array .byte)⟩ := by decide +kernel
theorem d9_41 : D9 41 (.invokevirtual 44) 3 := by decide +kernel
theorem d9_44 : D9 44 (.astore_n 2) 1 := by decide +kernel
theorem d9_45 : D9 45 (.new 8) 3 := by decide +kernel
theorem d9_48 : D9 48 (.dup) 1 := by decide +kernel
theorem d9_49 : D9 49 (.aload_n 0) 1 := by decide +kernel
theorem d9_50 : D9 50 (.iconst 0) 1 := by decide +kernel
theorem d9_51 : D9 51 (.iload_n 1) 1 := by decide +kernel
theorem d9_52 : D9 52 (.invokevirtual 48) 3 := by decide +kernel
theorem d9_55 : D9 55 (.aload_n 2) 1 := by decide +kernel
theorem pd46 : parseMethodDescriptor "(Ljava/lang/String;[B)V" = some ⟨[(.object "java/lang/String"), (.array .byte)], none⟩ := by decide +kernel
theorem d9_56 : D9 56 (.invokespecial 51) 3 := by decide +kernel
theorem d9_59 : D9 59 (.areturn) 1 := by decide +kernel
theorem ef_9 (m : MethodId) (x0 : Addr) : entryFrame m #[(.ref x0)] 3 = mkF m 0 #[.val (.ref x0), .unset, .unset] [] := by first | (simp [entryFrame, mkF, argsToLocals, Value.category]; done) | rfl
def Q9 (Z : State) (r0 : Addr) (va : Addr) (kc : ClassId) (ts_ : List Int32) (c1 : List Int32) (c2 : List Int32) (jj : Nat) (cs : Int32) (fm : Value) (u8 : Addr) (h0 : Heap) (n0 : Nat) (v : Option Value) (h : Heap) (L : List Loc) : Prop := ∃ x s1 y1 k1 y2 k2, v = some (.ref x) ∧ Fr n0 L ∧ Keep h0 h [] ∧ Exa Z h x "com/example/treewarden/treewarden/session/Credential" ∧ Fld Z h x "com/example/treewarden/treewarden/session/Credential" "scheme" "Ljava/lang/String;" (.ref s1) ∧ Fld Z h x "com/example/treewarden/treewarden/session/Credential" "secret" "[B" (.ref y2) ∧ Fld Z h s1 "java/lang/String" "value" "[B" (.ref y1) ∧ Exa Z h s1 "java/lang/String" ∧ own_sf Z h s1 y1 k1 c1 ∧ Arv Z h y2 k2 .byte (own_len (own_encs c2)) (own_M (own_encs c2)) (.int (0 : Int32)) ∧ Exa Z h y2 "[B"
abbrev R9 : Room := { frames := 9, cells := 10, slots := 80, locals := 170 }
theorem rm9 (l : Launch) (Z : State) (a0 : Array Value) (hw : ∀ d ∈ tables_1, d.before a0 Z = true) (ws : List Jvm.Cond) (r0 : Addr) (va : Addr) (kc : ClassId) (ts_ : List Int32) (c1 : List Int32) (c2 : List Int32) (jj : Nat) (cs : Int32) (fm : Value) (u8 : Addr) (h0 : Heap) (n0 : Nat) (Z0 : n0 ≤ h0.size) (F_v : Fld Z h0 r0 "java/lang/String" "value" "[B" (.ref va)) (E_r0 : Exa Z h0 r0 "java/lang/String") (hD : own_sf Z h0 r0 va kc ts_) (hjj : ts_[jj]? = some (58 : Int32)) (hbf : ∀ i x, i < jj → ts_[i]? = some x → ¬ (x = (58 : Int32))) (hj5 : jj < ts_.length) (hts_ : ∀ x ∈ ts_, own_ch x) (ht5 : ts_.length ≤ 5) (hj0 : 0 < jj) (hc1 : c1.length = jj) (hs1 : ∀ j x, c1[j]? = some x → ts_[0 + j]? = some x ∧ own_ch x) (hc2 : jj + 1 + c2.length = ts_.length) (hp2 : 0 < c2.length) (hs2 : ∀ j x, c2[j]? = some x → ts_[jj + 1 + j]? = some x ∧ own_ch x) (hsur : ∀ x ∈ c2, ¬ (x < (55296 : Int32)) → ¬ (x < (57344 : Int32))) (O0 : Old Z n0 h0) (S_cs : Sta Z Z.heap "java/lang/String" "COMPACT_STRINGS" "Z" (.int cs)) (hcs : ¬ (cs = (0 : Int32))) (S_fm : Sta Z Z.heap "jdk/internal/util/Preconditions" "SIOOBE_FORMATTER" "Ljava/util/function/BiFunction;" fm) (hr_fm : fm.isRef = true) (S_ad : Sta Z Z.heap "java/lang/StringUTF16" "$assertionsDisabled" "Z" (.int (1 : Int32))) (S_hi : Sta Z Z.heap "java/lang/StringUTF16" "HI_BYTE_SHIFT" "I" (.int (0 : Int32))) (S_lo : Sta Z Z.heap "java/lang/StringUTF16" "LO_BYTE_SHIFT" "I" (.int (8 : Int32))) (S_u8 : Sta Z Z.heap "java/nio/charset/StandardCharsets" "UTF_8" "Ljava/nio/charset/Charset;" (.ref u8)) (S_in8 : Sta Z Z.heap "sun/nio/cs/UTF_8" "INSTANCE" "Lsun/nio/cs/UTF_8;" (.ref u8)) :
    MetFree l Y57 (head1 (Jvm.Cond.code Y57 prog_9_method_2_code 3 (some (.object "com/example/treewarden/treewarden/session/Credential")) :: ws) R9) (fun a U => a = #[(.ref r0)] ∧ Z.Warmed39 U.vm ∧ U.heap = h0) (fun _ _ _ _ _ => True) (fun _ U o U' => ∃ v L, o = .returned v ∧ Q9 Z r0 va kc ts_ c1 c2 jj cs fm u8 h0 n0 v U'.heap L ∧ FrameEnd U o U' L R9.cells R9.slots) := by
  refine own_start (C := "com/example/treewarden/treewarden/session/Credential") (Q := Q9 Z r0 va kc ts_ c1 c2 jj cs fm u8 h0 n0) rfl (plainFor_of_name pn43) ?_
  intro p e s m below meth c s₁ g₀ hg₀ Bd hx hby hml hZ hown hnm X0 e0
  have N0 := Fr.nil n0
  have pre0 : ∀ t, Sx p e below s₁ (mkF m 0 #[rv r0, .unset, .unset] []) t → Sx p e below s₁ g₀ t := fun t k => by subst hg₀; exact castTop (ef_9 m r0) k
  have pre1 : ∀ t, Sx p e below s₁ (mkF m 3 #[rv r0, .unset, .unset] [(.int (58 : Int32)), (.ref r0)]) t → Sx p e below s₁ g₀ t := by
    intro t kt
    refine pre0 _ ?_
    refine XS.aloadN X0.here hx rfl (hb hby d9_0) rfl rfl ?_
    refine XS.bipush X0.here hx rfl (hb hby d9_1) ?_
    exact kt
  obtain ⟨_, T2, Lc2, X2, hQ2, st2⟩ := own_cV X0 hx hZ (y := Y37) hown (own_w hw 43 rfl) (own_w hw 44 rfl) (own_w hw 46 rfl) (own_w hw 45 rfl) (own_w hw 47 rfl) (own_w hw 13 rfl) (by decide) (W := 0) (rm10s l Z a0 hw [] r0 va kc ts_ jj cs fm h0 n0 (Nat.le_trans Z0 (Keep.refl h0 []).1) F_v E_r0 hD hjj hbf hj5 hts_ ht5 (O0.keep (Keep.refl h0 []) all0) S_cs hcs S_fm hr_fm S_ad S_hi S_lo) (by decide) (by decide) E_r0 (g := (mkF m 3 #[rv r0, .unset, .unset] [(.int (58 : Int32)), (.ref r0)])) rfl hml.symm (argsL := [(.int (58 : Int32))]) (rest := []) (lenOf pd12 rfl) rfl (Nat.le_of_eq rfl) (hb hby d9_3) rfl e0 (by decide) (by decide)
  obtain ⟨rfl, N2q, hh2⟩ := hQ2
  have N2 := Fr.app N0 N2q
  have pre4 : ∀ t, Sx p e below T2 (mkF m 8 #[rv r0, iv (own_n jj), .unset] [(.int (own_n jj))]) t → Sx p e below s₁ g₀ t := by
    intro t kt
    refine pre1 _ ?_
    refine st2.trans ?_
    show Sx p e below T2 (mkF m 6 #[rv r0, .unset, .unset] [(.int (own_n jj))]) _
    refine XS.istoreN X2.here hx rfl (hb hby d9_6) rfl (l' := #[rv r0, iv (own_n jj), .unset]) rfl ?_
    refine XS.iloadN X2.here hx rfl (hb hby d9_7) rfl ?_
    exact kt
  have hc8_3 : (0 : Int32) < (own_n jj) := (own_n0lt hj0 (by omega))
  have pre5 : ∀ t, Sx p e below T2 (mkF m 13 #[rv r0, iv (own_n jj), .unset] [(.ref r0), (.int (own_n jj))]) t → Sx p e below s₁ g₀ t := by
    intro t kt
    refine pre4 _ ?_
    refine XS.ifNo X2.here hx rfl (hb hby d9_8) rfl ((if0 _ _).trans (tlt hc8_3).2.2.2) ?_
    refine XS.iloadN X2.here hx rfl (hb hby d9_11) rfl ?_
    refine XS.aloadN X2.here hx rfl (hb hby d9_12) rfl rfl ?_
    exact kt
  obtain ⟨_, T6, Lc6, X6, hQ6, st6⟩ := own_cV X2 hx hZ (y := Y27) hown (own_w hw 85 rfl) (own_w hw 59 rfl) (own_w hw 61 rfl) (own_w hw 60 rfl) (own_w hw 62 rfl) (own_w hw 13 rfl) (by decide) (W := 1) (rm13s l Z a0 hw [] r0 va kc ts_ cs h0 n0 (Nat.le_trans Z0 (Keep.refl h0 []).1) F_v E_r0 hD ht5 (O0.keep (Keep.refl h0 []) all0) S_cs hcs) (by decide) (by decide) E_r0 (g := (mkF m 13 #[rv r0, iv (own_n jj), .unset] [(.ref r0), (.int (own_n jj))])) rfl hml.symm (argsL := []) (rest := [(.int (own_n jj))]) (lenOf pd27 rfl) rfl (Nat.le_of_eq rfl) (hb hby d9_13) rfl hh2 (by decide) (by decide)
  obtain ⟨rfl, N6q, hh6⟩ := hQ6
  have N6 := Fr.app N2 N6q
  have pre8 : ∀ t, Sx p e below T6 (mkF m 18 #[rv r0, iv (own_n jj), .unset] [(.int (own_n (ts_.length - 1))), (.int (own_n jj))]) t → Sx p e below s₁ g₀ t := by
    intro t kt
    refine pre5 _ ?_
    refine st6.trans ?_
    show Sx p e below T6 (mkF m 16 #[rv r0, iv (own_n jj), .unset] [(.int (own_len ts_)), (.int (own_n jj))]) _
    refine XS.iconst X6.here hx rfl (hb hby d9_16) ?_
    refine XS.isub X6.here hx rfl (hb hby d9_17) rfl ?_
    show Sx p e below T6 (mkF m 18 #[rv r0, iv (own_n jj), .unset] [(.int ((own_len ts_) - (1 : Int32))), (.int (own_n jj))]) _
    rw [show ((own_len ts_) - (1 : Int32)) = (own_n (ts_.length - 1)) from (own_ns1 (by omega) (by omega))]
    exact kt
  have hc18_7 : ¬ ((own_n jj) = (own_n (ts_.length - 1))) := (own_nne (by omega) (by omega) (by omega))
  have pre9 : ∀ t, Sx p e below T6 (mkF m 35 #[rv r0, iv (own_n jj), .unset] [(.int (own_n (jj + 1))), (.ref r0)]) t → Sx p e below s₁ g₀ t := by
    intro t kt
    refine pre8 _ ?_
    refine XS.icmpYes X6.here hx rfl (pc0 := 18) (pc' := 31) rfl (hb hby d9_18) rfl (feq hc18_7).2 (by decide) (by decide) ?_
    refine XS.aloadN X6.here hx rfl (hb hby d9_31) rfl rfl ?_
    refine XS.iloadN X6.here hx rfl (hb hby d9_32) rfl ?_
    refine XS.iconst X6.here hx rfl (hb hby d9_33) ?_
    refine XS.iadd X6.here hx rfl (hb hby d9_34) rfl ?_
    show Sx p e below T6 (mkF m 35 #[rv r0, iv (own_n jj), .unset] [(.int ((own_n jj) + (1 : Int32))), (.ref r0)]) _
    rw [show ((own_n jj) + (1 : Int32)) = (own_n (jj + 1)) from (own_nS (by omega))]
    exact kt
  obtain ⟨_, T10, Lc10, X10, hQ10, st10⟩ := own_cV X6 hx hZ (y := Y45) hown (own_w hw 86 rfl) (own_w hw 87 rfl) (own_w hw 89 rfl) (own_w hw 88 rfl) (own_w hw 90 rfl) (own_w hw 13 rfl) (by decide) (W := 0) (rm20s l Z a0 hw [] r0 va kc ts_ c2 (jj + 1) cs fm h0 n0 (Nat.le_trans Z0 (Keep.refl h0 []).1) F_v E_r0 hD (by omega) hp2 hs2 ht5 (by omega) (fun q => absurd q (Nat.succ_ne_zero _)) hc2 (O0.keep (Keep.refl h0 []) all0) S_cs hcs S_fm hr_fm S_ad S_hi S_lo) (by decide) (by decide) E_r0 (g := (mkF m 35 #[rv r0, iv (own_n jj), .unset] [(.int (own_n (jj + 1))), (.ref r0)])) rfl hml.symm (argsL := [(.int (own_n (jj + 1)))]) (rest := []) (lenOf pd44 rfl) rfl (Nat.le_of_eq rfl) (hb hby d9_35) rfl hh6 (by decide) (by decide)
  obtain ⟨x10, y10, ky10, rfl, N10q, Kc10, hx10, hy10, Ex10, Fv10, Ey10, hD10⟩ := hQ10
  have N10 := Fr.app N6 N10q
  have K10 : Keep h0 T10.heap [] := (Keep.refl h0 []).trans Kc10 all0
  have sz_x10 : h0.size ≤ x10 := Nat.le_trans (Keep.refl h0 []).1 hx10
  have sz_y10 : h0.size ≤ y10 := Nat.le_trans (Keep.refl h0 []).1 hy10
  have pre11 : ∀ t, Sx p e below T10 (mkF m 38 #[rv r0, iv (own_n jj), .unset] [(.ref x10)]) t → Sx p e below s₁ g₀ t := by
    intro t kt
    refine pre9 _ ?_
    refine st10.trans ?_
    exact kt
  obtain ⟨T12, X12, e12, st12⟩ := getS2 X10 hx hZ hown (host := "") (Or.inl (own_w hw 126 rfl)) Via.refl rfl (S_u8.ext (O0.keep K10 all0).2) (g := (mkF m 38 #[rv r0, iv (own_n jj), .unset] [(.ref x10)])) rfl (hb hby d9_38)
  have pre13 : ∀ t, Sx p e below T12 (mkF m 41 #[rv r0, iv (own_n jj), .unset] [(.ref u8), (.ref x10)]) t → Sx p e below s₁ g₀ t := by
    intro t kt
    refine pre11 _ ?_
    refine st12 _ ?_
    exact kt
  obtain ⟨_, T14, Lc14, X14, hQ14, st14⟩ := own_cV X12 hx hZ (y := Y53) hown (own_w hw 128 rfl) (own_w hw 129 rfl) (own_w hw 131 rfl) (own_w hw 130 rfl) (own_w hw 132 rfl) (own_w hw 13 rfl) (by decide) (W := 0) (rm29s l Z a0 hw [] x10 y10 ky10 c2 cs u8 T10.heap n0 (Nat.le_trans Z0 K10.1) Fv10 Ex10 hD10 Ey10 (fun x q => by obtain ⟨i, hi⟩ := List.getElem?_of_mem q; exact (hs2 i x hi).2) (by omega) hp2 hsur (O0.keep K10 all0) S_cs hcs S_ad S_hi S_lo S_u8 S_in8) (by decide) (by decide) Ex10 (g := (mkF m 41 #[rv r0, iv (own_n jj), .unset] [(.ref u8), (.ref x10)])) rfl hml.symm (argsL := [(.ref u8)]) (rest := []) (lenOf pd45 rfl) rfl (Nat.le_of_eq rfl) (hb hby d9_41) rfl e12 (by decide) (by decide)
  obtain ⟨y14, ky14, rfl, N14q, Kc14, hy14, Vy14, Ey14⟩ := hQ14
  have N14 := Fr.app N10 N14q
  have K14 : Keep h0 T14.heap [] := K10.trans Kc14 all0
  have g_y14 : n0 ≤ y14 := Nat.le_trans (Nat.le_trans Z0 K10.1) hy14
  have sz_y14 : h0.size ≤ y14 := Nat.le_trans K10.1 hy14
  have pre15 : ∀ t, Sx p e below T14 (mkF m 45 #[rv r0, iv (own_n jj), rv y14] []) t → Sx p e below s₁ g₀ t := by
    intro t kt
    refine pre13 _ ?_
    refine st14.trans ?_
    show Sx p e below T14 (mkF m 44 #[rv r0, iv (own_n jj), .unset] [(.ref y14)]) _
    refine XS.astoreN X14.here hx rfl (hb hby d9_44) rfl rfl (l' := #[rv r0, iv (own_n jj), rv y14]) rfl ?_
    exact kt
  obtain ⟨T16, h16, X16, e16, E16, A16, D16, -, st16⟩ := newO X14 hx hZ hown (own_w hw 157 rfl) (own_w hw 158 rfl) (own_w hw 41 rfl) rfl (g := (mkF m 45 #[rv r0, iv (own_n jj), rv y14] [])) rfl (hb hby d9_45) (by decide) (by decide)
  obtain ⟨b16, g16⟩ : ∃ z, z = T14.heap.size := ⟨_, rfl⟩
  rw [← g16] at A16 D16 st16
  have g_b16 : n0 ≤ b16 := Nat.le_trans (Nat.le_trans Z0 K14.1) (Nat.le_of_eq g16.symm)
  have sz_b16 : h0.size ≤ b16 := Nat.le_trans K14.1 (Nat.le_of_eq g16.symm)
  have F_scheme_b16 : Fld Z h16 b16 "com/example/treewarden/treewarden/session/Credential" "scheme" "Ljava/lang/String;" .null := D16 (Or.inr (own_w hw 165 rfl)) (ty := (.object "java/lang/String")) (by decide)
  have F_secret_b16 : Fld Z h16 b16 "com/example/treewarden/treewarden/session/Credential" "secret" "[B" .null := D16 (Or.inr (own_w hw 167 rfl)) (ty := (.array .byte)) (by decide)
  have K16 : Keep h0 h16 [] := K14.ext E16
  have pre17 : ∀ t, Sx p e below T16 (mkF m 52 #[rv r0, iv (own_n (0 + c1.length)), rv y14] [(.int (own_n (0 + c1.length))), (.int (0 : Int32)), (.ref r0), (.ref b16), (.ref b16)]) t → Sx p e below s₁ g₀ t := by
    intro t kt
    refine pre15 _ ?_
    refine st16 _ ?_
    show Sx p e below T16 (mkF m 48 #[rv r0, iv (own_n jj), rv y14] [(.ref b16)]) _
    refine XS.dup X16.here hx rfl (hb hby d9_48) rfl rfl ?_
    refine XS.aloadN X16.here hx rfl (hb hby d9_49) rfl rfl ?_
    refine XS.iconst X16.here hx rfl (hb hby d9_50) ?_
    refine XS.iloadN X16.here hx rfl (hb hby d9_51) rfl ?_
    show Sx p e below T16 (mkF m 52 #[rv r0, iv (own_n jj), rv y14] [(.int (own_n jj)), (.int (0 : Int32)), (.ref r0), (.ref b16), (.ref b16)]) _
    rw [show (own_n jj) = (own_n (0 + c1.length)) from (by rw [Nat.zero_add, hc1])]
    exact kt
  have f18 := (((F_v.keep Kc10 nin0).keep Kc14 nin0).ext E16)
  have f19 := (((E_r0.keep Kc10).keep Kc14).ext E16)
  obtain ⟨_, T20, Lc20, X20, hQ20, st20⟩ := own_cV X16 hx hZ (y := Y44) hown (own_w hw 159 rfl) (own_w hw 92 rfl) (own_w hw 94 rfl) (own_w hw 93 rfl) (own_w hw 95 rfl) (own_w hw 13 rfl) (by decide) (W := 2) (rm21s l Z a0 hw [] r0 va kc ts_ c1 0 cs fm h16 n0 (Nat.le_trans Z0 K16.1) f18 f19 (((hD.keep Kc10 nin0 nin0).keep Kc14 nin0 nin0).ext E16) (by omega) (by omega) hs1 ht5 (by omega) (fun _ => by omega) (O0.keep K16 all0) S_cs hcs S_fm hr_fm S_ad S_hi S_lo) (by decide) (by decide) f19 (g := (mkF m 52 #[rv r0, iv (own_n (0 + c1.length)), rv y14] [(.int (own_n (0 + c1.length))), (.int (0 : Int32)), (.ref r0), (.ref b16), (.ref b16)])) rfl hml.symm (argsL := [(.int (0 : Int32)), (.int (own_n (0 + c1.length)))]) (rest := [(.ref b16), (.ref b16)]) (lenOf pd33 rfl) rfl (Nat.le_of_eq rfl) (hb hby d9_52) rfl e16 (by decide) (by decide)
  obtain ⟨x20, y20, ky20, rfl, N20q, Kc20, hx20, hy20, Ex20, Fv20, Ey20, hD20⟩ := hQ20
  have N20 := Fr.app N14 N20q
  have K20 : Keep h0 T20.heap [] := K16.trans Kc20 all0
  have sz_x20 : h0.size ≤ x20 := Nat.le_trans K16.1 hx20
  have sz_y20 : h0.size ≤ y20 := Nat.le_trans K16.1 hy20
  have pre21 : ∀ t, Sx p e below T20 (mkF m 56 #[rv r0, iv (own_n (0 + c1.length)), rv y14] [(.ref y14), (.ref x20), (.ref b16), (.ref b16)]) t → Sx p e below s₁ g₀ t := by
    intro t kt
    refine pre17 _ ?_
    refine st20.trans ?_
    show Sx p e below T20 (mkF m 55 #[rv r0, iv (own_n (0 + c1.length)), rv y14] [(.ref x20), (.ref b16), (.ref b16)]) _
    refine XS.aloadN X20.here hx rfl (hb hby d9_55) rfl rfl ?_
    exact kt
  have f22 := (((Fv10.keep Kc14 nin0).ext E16).keep Kc20 nin0)
  have f23 := (((Ex10.keep Kc14).ext E16).keep Kc20)
  have f24 := (((Ey10.keep Kc14).ext E16).keep Kc20)
  obtain ⟨_, _, ⟨T25, L25, k25, n25⟩, -, X25, ⟨Lc25, hQ25, l25, y25, z25⟩, st25⟩ := X20.specialBack hx (y := Y54) rfl hown (mvT hZ (own_w hw 160 rfl)) (mvT hZ (own_w hw 161 rfl)) (mvT hZ (own_w hw 162 rfl)) (by decide) (backOf (W := 1) (rm34 l Z a0 hw [] b16 x20 y14 T20.heap n0 (Nat.le_trans Z0 K20.1) (F_scheme_b16.keep Kc20 nin0) (F_secret_b16.keep Kc20 nin0) (A16.keep Kc20) g_b16) hZ (own_w hw 162 rfl) (own_w hw 41 rfl) (by decide) (by decide)) (g := (mkF m 56 #[rv r0, iv (own_n (0 + c1.length)), rv y14] [(.ref y14), (.ref x20), (.ref b16), (.ref b16)])) rfl (by rw [hml]; rfl) (Steps.refl _) (a := b16) (argsL := [(.ref x20), (.ref y14)]) (rest := [(.ref b16)]) (lenOf pd46 rfl) rfl (by show 2 * 0 + _ ≤ _; exact Nat.le_of_eq rfl) (hb hby d9_56) (fun _ _ => ⟨rfl, rfl, (by decide : 10 + 0 ≤ _), (by decide : 80 + 0 ≤ _)⟩)
  dsimp only [Pt.U, Pt.locs, Pt.cells, Pt.slots] at X25 l25 y25 z25 st25 hQ25
  subst l25 y25 z25
  obtain ⟨rfl, N25q, Kc25, Fa25, Fb25⟩ := hQ25
  have N25 := Fr.app N20 N25q
  have K25 : Keep h0 T25.heap [] := K20.trans Kc25 (allS (Or.inr sz_b16) all0)
  have pre26 : ∀ t, Sx p e below T25 (mkF m 59 #[rv r0, iv (own_n (0 + c1.length)), rv y14] [(.ref b16)]) t → Sx p e below s₁ g₀ t := by
    intro t kt
    refine pre21 _ ?_
    refine st25.trans ?_
    exact kt
  obtain ⟨fs, hr, hrun, hended, hW, hsame⟩ := X25.leave (v := some (.ref b16)) (fun h => by rw [Bd.returns] at h; cases h)
  refine ⟨_, _, _, pre26 _ ?_, hrun, hended, ?_, ⟨_, rfl⟩, hW, hsame.mono (by decide) (by decide)⟩
  · show Steps p.tables e below (T25.setTop (mkF m 59 #[rv r0, iv (own_n (0 + c1.length)), rv y14] [(.ref b16)])) _
    jvm_step X25.here [X25.here.top, hx, (hb hby d9_59), X25.method', Bd.returns, Value.isRef, FieldType.isReference]
    first | (intro acts; rw [hr _ acts rfl rfl rfl]) | rw [hr _ _ rfl rfl rfl]
    exact Steps.refl _
  · show Q9 Z r0 va kc ts_ c1 c2 jj cs fm u8 h0 n0 _ T25.heap _
    exact ⟨b16, x20, y20, ky20, y14, ky14, rfl, N25, K25, ((A16.keep Kc20).keep Kc25), Fa25, Fb25, (Fv20.keep Kc25 (ninS (Exa.ne (Ex20.keep Kc25) ((A16.keep Kc20).keep Kc25) (by decide)) nin0)), (Ex20.keep Kc25), (hD20.keep Kc25 (ninS (Exa.ne (Ex20.keep Kc25) ((A16.keep Kc20).keep Kc25) (by decide)) nin0) (ninS (Exa.ne (Ey20.keep Kc25) ((A16.keep Kc20).keep Kc25) (by decide)) nin0)), (((Vy14.ext E16).keep Kc20 nin0).keep Kc25 (ninS (Exa.ne (((Ey14.ext E16).keep Kc20).keep Kc25) ((A16.keep Kc20).keep Kc25) (by decide)) nin0)), (((Ey14.ext E16).keep Kc20).keep Kc25)⟩
def own_pick (p0 : Int32) (p1 : Int32) (p2 : Int32) : Int32 := (if p1 < p2 then (if p0 = (58 : Int32) then (59 : Int32) else p0) else (if p1 = p2 then (58 : Int32) else (if p0 < (55296 : Int32) then p0 else (if (57343 : Int32) < p0 then p0 else ((p0 - (20480 : Int32)).toUInt32.toUInt16.toUInt32.toInt32)))))
theorem pn47 : plainName "com/example/treewarden/treewarden/session/CredentialParsePinLaw" = true := by first | (simp [plainName, overriddenIn]; done) | decide +kernel
abbrev D1 (q : Nat) (i : Instr) (k : Nat) : Prop := decode method_3_code q = .ok (i, k)
theorem d1_0 : D1 0 (.iload_n 1) 1 := by decide +kernel
theorem d1_1 : D1 1 (.iload_n 2) 1 := by decide +kernel
theorem d1_2 : D1 2 (.if_icmp .ge 16) 3 := by decide +kernel
theorem d1_5 : D1 5 (.iload_n 0) 1 := by decide +kernel
theorem d1_6 : D1 6 (.bipush 58) 2 := by decide +kernel
theorem d1_8 : D1 8 (.if_icmp .ne 8) 3 := by decide +kernel
theorem d1_11 : D1 11 (.bipush 59) 2 := by decide +kernel
theorem d1_13 : D1 13 (.goto 4) 3 := by decide +kernel
theorem d1_17 : D1 17 (.ireturn) 1 := by decide +kernel
theorem d1_16 : D1 16 (.iload_n 0) 1 := by decide +kernel
theorem d1_18 : D1 18 (.iload_n 1) 1 := by decide +kernel
theorem d1_19 : D1 19 (.iload_n 2) 1 := by decide +kernel
theorem d1_20 : D1 20 (.if_icmp .ne 6) 3 := by decide +kernel
theorem d1_23 : D1 23 (.bipush 58) 2 := by decide +kernel
theorem d1_25 : D1 25 (.ireturn) 1 := by decide +kernel
theorem d1_26 : D1 26 (.iload_n 0) 1 := by decide +kernel
theorem d1_27 : D1 27 (.ldc 49) 2 := by decide +kernel
theorem d1_29 : D1 29 (.if_icmp .lt 16) 3 := by decide +kernel
theorem d1_45 : D1 45 (.iload_n 0) 1 := by decide +kernel
theorem d1_46 : D1 46 (.ireturn) 1 := by decide +kernel
theorem d1_32 : D1 32 (.iload_n 0) 1 := by decide +kernel
theorem d1_33 : D1 33 (.ldc 50) 2 := by decide +kernel
theorem d1_35 : D1 35 (.if_icmp .gt 10) 3 := by decide +kernel
theorem d1_38 : D1 38 (.iload_n 0) 1 := by decide +kernel
theorem d1_39 : D1 39 (.sipush 20480) 3 := by decide +kernel
theorem d1_42 : D1 42 (.isub) 1 := by decide +kernel
theorem d1_43 : D1 43 (.i2c) 1 := by decide +kernel
theorem d1_44 : D1 44 (.ireturn) 1 := by decide +kernel
theorem ef_1 (m : MethodId) (x0 : Int32) (x1 : Int32) (x2 : Int32) : entryFrame m #[(.int x0), (.int x1), (.int x2)] 3 = mkF m 0 #[.val (.int x0), .val (.int x1), .val (.int x2)] [] := by first | (simp [entryFrame, mkF, argsToLocals, Value.category]; done) | rfl
def Q1 (Z : State) (p0 : Int32) (p1 : Int32) (p2 : Int32) (h0 : Heap) (n0 : Nat) (v : Option Value) (h : Heap) (L : List Loc) : Prop := v = some (.int (own_pick p0 p1 p2)) ∧ Fr n0 L ∧ h = h0
abbrev R1 : Room := { frames := 0, cells := 0, slots := 0, locals := 0 }
theorem rm1 (l : Launch) (Z : State) (a0 : Array Value) (hw : ∀ d ∈ tables_1, d.before a0 Z = true) (ws : List Jvm.Cond) (p0 : Int32) (p1 : Int32) (p2 : Int32) (h0 : Heap) (n0 : Nat) (Z0 : n0 ≤ h0.size) (hch : own_ch p0) :
    MetFree l Y58 (head1 (Jvm.Cond.code Y58 method_3_code 3 (some .char) :: ws) R1) (fun a U => a = #[(.int p0), (.int p1), (.int p2)] ∧ Z.Warmed39 U.vm ∧ U.heap = h0) (fun _ _ _ _ _ => True) (fun _ U o U' => ∃ v L, o = .returned v ∧ Q1 Z p0 p1 p2 h0 n0 v U'.heap L ∧ FrameEnd U o U' L R1.cells R1.slots) := by
  refine own_start (C := "com/example/treewarden/treewarden/session/CredentialParsePinLaw") (Q := Q1 Z p0 p1 p2 h0 n0) rfl (plainFor_of_name pn47) ?_
  intro p e s m below meth c s₁ g₀ hg₀ Bd hx hby hml hZ hown hnm X0 e0
  have N0 := Fr.nil n0
  have pre0 : ∀ t, Sx p e below s₁ (mkF m 0 #[iv p0, iv p1, iv p2] []) t → Sx p e below s₁ g₀ t := fun t k => by subst hg₀; exact castTop (ef_1 m p0 p1 p2) k
  have pre1 : ∀ t, Sx p e below s₁ (mkF m 2 #[iv p0, iv p1, iv p2] [(.int p2), (.int p1)]) t → Sx p e below s₁ g₀ t := by
    intro t kt
    refine pre0 _ ?_
    refine XS.iloadN X0.here hx rfl (hb hby d1_0) rfl ?_
    refine XS.iloadN X0.here hx rfl (hb hby d1_1) rfl ?_
    exact kt
  by_cases hc2 : p1 < p2
  · have pre2 : ∀ t, Sx p e below s₁ (mkF m 8 #[iv p0, iv p1, iv p2] [(.int (58 : Int32)), (.int p0)]) t → Sx p e below s₁ g₀ t := by
      intro t kt
      refine pre1 _ ?_
      refine XS.icmpNo X0.here hx rfl (hb hby d1_2) rfl (tlt hc2).2.1 ?_
      refine XS.iloadN X0.here hx rfl (hb hby d1_5) rfl ?_
      refine XS.bipush X0.here hx rfl (hb hby d1_6) ?_
      exact kt
    by_cases hc8 : p0 = (58 : Int32)
    · have pre3 : ∀ t, Sx p e below s₁ (mkF m 17 #[iv p0, iv p1, iv p2] [(.int (59 : Int32))]) t → Sx p e below s₁ g₀ t := by
        intro t kt
        refine pre2 _ ?_
        refine XS.icmpNo X0.here hx rfl (hb hby d1_8) rfl (teq hc8).2 ?_
        refine XS.bipush X0.here hx rfl (hb hby d1_11) ?_
        refine XS.goto X0.here hx rfl (pc0 := 13) (pc' := 17) rfl (hb hby d1_13) (by decide) (by decide) ?_
        exact kt
      obtain ⟨fs, hr, hrun, hended, hW, hsame⟩ := X0.leave (v := some (.int (59 : Int32))) (fun h => by rw [Bd.returns] at h; cases h)
      refine ⟨_, _, _, pre3 _ ?_, hrun, hended, ?_, ⟨_, rfl⟩, hW, hsame.mono (by decide) (by decide)⟩
      · show Steps p.tables e below (s₁.setTop (mkF m 17 #[iv p0, iv p1, iv p2] [(.int (59 : Int32))])) _
        exact retN X0 hx (t := .char) Bd.returns (by simp) (hb hby d1_17) hr
      · show Q1 Z p0 p1 p2 h0 n0 _ s₁.heap _
        rw [e0]
        exact ⟨congrArg (fun z => some (Value.int z)) ((if_pos hc2).trans ((if_pos hc8).trans rfl)).symm, N0, rfl⟩
    · have pre4 : ∀ t, Sx p e below s₁ (mkF m 17 #[iv p0, iv p1, iv p2] [(.int p0)]) t → Sx p e below s₁ g₀ t := by
        intro t kt
        refine pre2 _ ?_
        refine XS.icmpYes X0.here hx rfl (pc0 := 8) (pc' := 16) rfl (hb hby d1_8) rfl (feq hc8).2 (by decide) (by decide) ?_
        refine XS.iloadN X0.here hx rfl (hb hby d1_16) rfl ?_
        exact kt
      obtain ⟨fs, hr, hrun, hended, hW, hsame⟩ := X0.leave (v := some (.int (nar .char p0))) (fun h => by rw [Bd.returns] at h; cases h)
      refine ⟨_, _, _, pre4 _ ?_, hrun, hended, ?_, ⟨_, rfl⟩, hW, hsame.mono (by decide) (by decide)⟩
      · show Steps p.tables e below (s₁.setTop (mkF m 17 #[iv p0, iv p1, iv p2] [(.int p0)])) _
        exact retN X0 hx (t := .char) Bd.returns (by simp) (hb hby d1_17) hr
      · show Q1 Z p0 p1 p2 h0 n0 _ s₁.heap _
        rw [e0]
        exact ⟨congrArg (fun z => some (Value.int z)) ((own_nrc _ hch).trans ((if_pos hc2).trans ((if_neg hc8).trans rfl)).symm), N0, rfl⟩
  · have pre5 : ∀ t, Sx p e below s₁ (mkF m 20 #[iv p0, iv p1, iv p2] [(.int p2), (.int p1)]) t → Sx p e below s₁ g₀ t := by
      intro t kt
      refine pre1 _ ?_
      refine XS.icmpYes X0.here hx rfl (pc0 := 2) (pc' := 18) rfl (hb hby d1_2) rfl (flt hc2).2.1 (by decide) (by decide) ?_
      refine XS.iloadN X0.here hx rfl (hb hby d1_18) rfl ?_
      refine XS.iloadN X0.here hx rfl (hb hby d1_19) rfl ?_
      exact kt
    by_cases hc20 : p1 = p2
    · have pre6 : ∀ t, Sx p e below s₁ (mkF m 25 #[iv p0, iv p1, iv p2] [(.int (58 : Int32))]) t → Sx p e below s₁ g₀ t := by
        intro t kt
        refine pre5 _ ?_
        refine XS.icmpNo X0.here hx rfl (hb hby d1_20) rfl (teq hc20).2 ?_
        refine XS.bipush X0.here hx rfl (hb hby d1_23) ?_
        exact kt
      obtain ⟨fs, hr, hrun, hended, hW, hsame⟩ := X0.leave (v := some (.int (58 : Int32))) (fun h => by rw [Bd.returns] at h; cases h)
      refine ⟨_, _, _, pre6 _ ?_, hrun, hended, ?_, ⟨_, rfl⟩, hW, hsame.mono (by decide) (by decide)⟩
      · show Steps p.tables e below (s₁.setTop (mkF m 25 #[iv p0, iv p1, iv p2] [(.int (58 : Int32))])) _
        exact retN X0 hx (t := .char) Bd.returns (by simp) (hb hby d1_25) hr
      · show Q1 Z p0 p1 p2 h0 n0 _ s₁.heap _
        rw [e0]
        exact ⟨congrArg (fun z => some (Value.int z)) ((if_neg hc2).trans ((if_pos hc20).trans rfl)).symm, N0, rfl⟩
    · have pre7 : ∀ t, Sx p e below s₁ (mkF m 29 #[iv p0, iv p1, iv p2] [(.int (55296 : Int32)), (.int p0)]) t → Sx p e below s₁ g₀ t := by
        intro t kt
        refine pre5 _ ?_
        refine XS.icmpYes X0.here hx rfl (pc0 := 20) (pc' := 26) rfl (hb hby d1_20) rfl (feq hc20).2 (by decide) (by decide) ?_
        refine XS.iloadN X0.here hx rfl (hb hby d1_26) rfl ?_
        refine X0.ldcInt hx hown (mvT hZ (own_w hw 6 rfl)) (g := (mkF m 27 #[iv p0, iv p1, iv p2] [(.int p0)])) rfl (hb hby d1_27) _ ?_
        exact kt
      by_cases hc29 : p0 < (55296 : Int32)
      · have pre8 : ∀ t, Sx p e below s₁ (mkF m 46 #[iv p0, iv p1, iv p2] [(.int p0)]) t → Sx p e below s₁ g₀ t := by
          intro t kt
          refine pre7 _ ?_
          refine XS.icmpYes X0.here hx rfl (pc0 := 29) (pc' := 45) rfl (hb hby d1_29) rfl (tlt hc29).1 (by decide) (by decide) ?_
          refine XS.iloadN X0.here hx rfl (hb hby d1_45) rfl ?_
          exact kt
        obtain ⟨fs, hr, hrun, hended, hW, hsame⟩ := X0.leave (v := some (.int (nar .char p0))) (fun h => by rw [Bd.returns] at h; cases h)
        refine ⟨_, _, _, pre8 _ ?_, hrun, hended, ?_, ⟨_, rfl⟩, hW, hsame.mono (by decide) (by decide)⟩
        · show Steps p.tables e below (s₁.setTop (mkF m 46 #[iv p0, iv p1, iv p2] [(.int p0)])) _
          exact retN X0 hx (t := .char) Bd.returns (by simp) (hb hby d1_46) hr
        · show Q1 Z p0 p1 p2 h0 n0 _ s₁.heap _
          rw [e0]
          exact ⟨congrArg (fun z => some (Value.int z)) ((own_nrc _ hch).trans ((if_neg hc2).trans ((if_neg hc20).trans ((if_pos hc29).trans rfl))).symm), N0, rfl⟩
      · have pre9 : ∀ t, Sx p e below s₁ (mkF m 35 #[iv p0, iv p1, iv p2] [(.int (57343 : Int32)), (.int p0)]) t → Sx p e below s₁ g₀ t := by
          intro t kt
          refine pre7 _ ?_
          refine XS.icmpNo X0.here hx rfl (hb hby d1_29) rfl (flt hc29).1 ?_
          refine XS.iloadN X0.here hx rfl (hb hby d1_32) rfl ?_
          refine X0.ldcInt hx hown (mvT hZ (own_w hw 278 rfl)) (g := (mkF m 33 #[iv p0, iv p1, iv p2] [(.int p0)])) rfl (hb hby d1_33) _ ?_
          exact kt
        by_cases hc35 : (57343 : Int32) < p0
        · have pre10 : ∀ t, Sx p e below s₁ (mkF m 46 #[iv p0, iv p1, iv p2] [(.int p0)]) t → Sx p e below s₁ g₀ t := by
            intro t kt
            refine pre9 _ ?_
            refine XS.icmpYes X0.here hx rfl (pc0 := 35) (pc' := 45) rfl (hb hby d1_35) rfl (tlt hc35).2.2.1 (by decide) (by decide) ?_
            refine XS.iloadN X0.here hx rfl (hb hby d1_45) rfl ?_
            exact kt
          obtain ⟨fs, hr, hrun, hended, hW, hsame⟩ := X0.leave (v := some (.int (nar .char p0))) (fun h => by rw [Bd.returns] at h; cases h)
          refine ⟨_, _, _, pre10 _ ?_, hrun, hended, ?_, ⟨_, rfl⟩, hW, hsame.mono (by decide) (by decide)⟩
          · show Steps p.tables e below (s₁.setTop (mkF m 46 #[iv p0, iv p1, iv p2] [(.int p0)])) _
            exact retN X0 hx (t := .char) Bd.returns (by simp) (hb hby d1_46) hr
          · show Q1 Z p0 p1 p2 h0 n0 _ s₁.heap _
            rw [e0]
            exact ⟨congrArg (fun z => some (Value.int z)) ((own_nrc _ hch).trans ((if_neg hc2).trans ((if_neg hc20).trans ((if_neg hc29).trans ((if_pos hc35).trans rfl)))).symm), N0, rfl⟩
        · have pre11 : ∀ t, Sx p e below s₁ (mkF m 44 #[iv p0, iv p1, iv p2] [(.int ((p0 - (20480 : Int32)).toUInt32.toUInt16.toUInt32.toInt32))]) t → Sx p e below s₁ g₀ t := by
            intro t kt
            refine pre9 _ ?_
            refine XS.icmpNo X0.here hx rfl (hb hby d1_35) rfl (flt hc35).2.2.1 ?_
            refine XS.iloadN X0.here hx rfl (hb hby d1_38) rfl ?_
            refine XS.sipush X0.here hx rfl (hb hby d1_39) ?_
            refine XS.isub X0.here hx rfl (hb hby d1_42) rfl ?_
            refine XS.i2c X0.here hx rfl (hb hby d1_43) rfl ?_
            exact kt
          obtain ⟨fs, hr, hrun, hended, hW, hsame⟩ := X0.leave (v := some (.int (nar .char ((p0 - (20480 : Int32)).toUInt32.toUInt16.toUInt32.toInt32)))) (fun h => by rw [Bd.returns] at h; cases h)
          refine ⟨_, _, _, pre11 _ ?_, hrun, hended, ?_, ⟨_, rfl⟩, hW, hsame.mono (by decide) (by decide)⟩
          · show Steps p.tables e below (s₁.setTop (mkF m 44 #[iv p0, iv p1, iv p2] [(.int ((p0 - (20480 : Int32)).toUInt32.toUInt16.toUInt32.toInt32))])) _
            exact retN X0 hx (t := .char) Bd.returns (by simp) (hb hby d1_44) hr
          · show Q1 Z p0 p1 p2 h0 n0 _ s₁.heap _
            rw [e0]
            exact ⟨congrArg (fun z => some (Value.int z)) ((own_nrc _ (own_chC _)).trans ((if_neg hc2).trans ((if_neg hc20).trans ((if_neg hc29).trans ((if_neg hc35).trans rfl)))).symm), N0, rfl⟩
abbrev D2 (q : Nat) (i : Instr) (k : Nat) : Prop := decode method_4_code q = .ok (i, k)
theorem d2_0 : D2 0 (.iload_n 3) 1 := by decide +kernel
theorem d2_1 : D2 1 (.iload 4) 2 := by decide +kernel
theorem d2_3 : D2 3 (.if_icmp .gt 5) 3 := by decide +kernel
theorem d2_8 : D2 8 (.aload_n 2) 1 := by decide +kernel
theorem d2_9 : D2 9 (.iload_n 3) 1 := by decide +kernel
theorem d2_10 : D2 10 (.caload) 1 := by decide +kernel
theorem d2_11 : D2 11 (.istore 5) 2 := by decide +kernel
theorem d2_13 : D2 13 (.iload 5) 2 := by decide +kernel
theorem d2_15 : D2 15 (.sipush 128) 3 := by decide +kernel
theorem d2_18 : D2 18 (.if_icmp .ge 13) 3 := by decide +kernel
theorem d2_21 : D2 21 (.aload_n 0) 1 := by decide +kernel
theorem d2_22 : D2 22 (.iload_n 1) 1 := by decide +kernel
theorem d2_23 : D2 23 (.iload 5) 2 := by decide +kernel
theorem d2_25 : D2 25 (.i2b) 1 := by decide +kernel
theorem d2_26 : D2 26 (.bastore) 1 := by decide +kernel
theorem d2_27 : D2 27 (.iload_n 1) 1 := by decide +kernel
theorem d2_28 : D2 28 (.iconst 1) 1 := by decide +kernel
theorem d2_29 : D2 29 (.iadd) 1 := by decide +kernel
theorem d2_30 : D2 30 (.ireturn) 1 := by decide +kernel
theorem d2_31 : D2 31 (.iload 5) 2 := by decide +kernel
theorem d2_33 : D2 33 (.sipush 2048) 3 := by decide +kernel
theorem d2_36 : D2 36 (.if_icmp .ge 35) 3 := by decide +kernel
theorem d2_39 : D2 39 (.aload_n 0) 1 := by decide +kernel
theorem d2_40 : D2 40 (.iload_n 1) 1 := by decide +kernel
theorem d2_41 : D2 41 (.sipush 192) 3 := by decide +kernel
theorem d2_44 : D2 44 (.iload 5) 2 := by decide +kernel
theorem d2_46 : D2 46 (.bipush 6) 2 := by decide +kernel
theorem d2_48 : D2 48 (.ishr) 1 := by decide +kernel
theorem d2_49 : D2 49 (.ior) 1 := by decide +kernel
theorem d2_50 : D2 50 (.i2b) 1 := by decide +kernel
theorem d2_51 : D2 51 (.bastore) 1 := by decide +kernel
theorem d2_52 : D2 52 (.aload_n 0) 1 := by decide +kernel
theorem d2_53 : D2 53 (.iload_n 1) 1 := by decide +kernel
theorem d2_54 : D2 54 (.iconst 1) 1 := by decide +kernel
theorem d2_55 : D2 55 (.iadd) 1 := by decide +kernel
theorem d2_56 : D2 56 (.sipush 128) 3 := by decide +kernel
theorem d2_59 : D2 59 (.iload 5) 2 := by decide +kernel
theorem d2_61 : D2 61 (.bipush 63) 2 := by decide +kernel
theorem d2_63 : D2 63 (.iand) 1 := by decide +kernel
theorem d2_64 : D2 64 (.ior) 1 := by decide +kernel
theorem d2_65 : D2 65 (.i2b) 1 := by decide +kernel
theorem d2_66 : D2 66 (.bastore) 1 := by decide +kernel
theorem d2_67 : D2 67 (.iload_n 1) 1 := by decide +kernel
theorem d2_68 : D2 68 (.iconst 2) 1 := by decide +kernel
theorem d2_69 : D2 69 (.iadd) 1 := by decide +kernel
theorem d2_70 : D2 70 (.ireturn) 1 := by decide +kernel
theorem d2_71 : D2 71 (.aload_n 0) 1 := by decide +kernel
theorem d2_72 : D2 72 (.iload_n 1) 1 := by decide +kernel
theorem d2_73 : D2 73 (.sipush 224) 3 := by decide +kernel
theorem d2_76 : D2 76 (.iload 5) 2 := by decide +kernel
theorem d2_78 : D2 78 (.bipush 12) 2 := by decide +kernel
theorem d2_80 : D2 80 (.ishr) 1 := by decide +kernel
theorem d2_81 : D2 81 (.ior) 1 := by decide +kernel
theorem d2_82 : D2 82 (.i2b) 1 := by decide +kernel
theorem d2_83 : D2 83 (.bastore) 1 := by decide +kernel
theorem d2_84 : D2 84 (.aload_n 0) 1 := by decide +kernel
theorem d2_85 : D2 85 (.iload_n 1) 1 := by decide +kernel
theorem d2_86 : D2 86 (.iconst 1) 1 := by decide +kernel
theorem d2_87 : D2 87 (.iadd) 1 := by decide +kernel
theorem d2_88 : D2 88 (.sipush 128) 3 := by decide +kernel
theorem d2_91 : D2 91 (.iload 5) 2 := by decide +kernel
theorem d2_93 : D2 93 (.bipush 6) 2 := by decide +kernel
theorem d2_95 : D2 95 (.ishr) 1 := by decide +kernel
theorem d2_96 : D2 96 (.bipush 63) 2 := by decide +kernel
theorem d2_98 : D2 98 (.iand) 1 := by decide +kernel
theorem d2_99 : D2 99 (.ior) 1 := by decide +kernel
theorem d2_100 : D2 100 (.i2b) 1 := by decide +kernel
theorem d2_101 : D2 101 (.bastore) 1 := by decide +kernel
theorem d2_102 : D2 102 (.aload_n 0) 1 := by decide +kernel
theorem d2_103 : D2 103 (.iload_n 1) 1 := by decide +kernel
theorem d2_104 : D2 104 (.iconst 2) 1 := by decide +kernel
theorem d2_105 : D2 105 (.iadd) 1 := by decide +kernel
theorem d2_106 : D2 106 (.sipush 128) 3 := by decide +kernel
theorem d2_109 : D2 109 (.iload 5) 2 := by decide +kernel
theorem d2_111 : D2 111 (.bipush 63) 2 := by decide +kernel
theorem d2_113 : D2 113 (.iand) 1 := by decide +kernel
theorem d2_114 : D2 114 (.ior) 1 := by decide +kernel
theorem d2_115 : D2 115 (.i2b) 1 := by decide +kernel
theorem d2_116 : D2 116 (.bastore) 1 := by decide +kernel
theorem d2_117 : D2 117 (.iload_n 1) 1 := by decide +kernel
theorem d2_118 : D2 118 (.iconst 3) 1 := by decide +kernel
theorem d2_119 : D2 119 (.iadd) 1 := by decide +kernel
theorem d2_120 : D2 120 (.ireturn) 1 := by decide +kernel
theorem d2_6 : D2 6 (.iload_n 1) 1 := by decide +kernel
theorem d2_7 : D2 7 (.ireturn) 1 := by decide +kernel
theorem ef_2 (m : MethodId) (x0 : Addr) (x1 : Int32) (x2 : Addr) (x3 : Int32) (x4 : Int32) : entryFrame m #[(.ref x0), (.int x1), (.ref x2), (.int x3), (.int x4)] 6 = mkF m 0 #[.val (.ref x0), .val (.int x1), .val (.ref x2), .val (.int x3), .val (.int x4), .unset] [] := by first | (simp [entryFrame, mkF, argsToLocals, Value.category]; done) | rfl
def Q2 (Z : State) (r0 : Addr) (r2 : Addr) (p4 : Int32) (ke : ClassId) (kt : ClassId) (LL : List Int32) (cs_ : List Int32) (ii : Nat) (xx : Int32) (h0 : Heap) (n0 : Nat) (v : Option Value) (h : Heap) (L : List Loc) : Prop := v = some (.int (own_len (own_put LL p4 ii xx))) ∧ Fr n0 L ∧ Keep h0 h [r0] ∧ Arv Z h r0 ke .byte (12 : Int32) (own_M (own_put LL p4 ii xx)) (.int (0 : Int32))
abbrev R2 : Room := { frames := 0, cells := 0, slots := 0, locals := 0 }
theorem rm2 (l : Launch) (Z : State) (a0 : Array Value) (hw : ∀ d ∈ tables_1, d.before a0 Z = true) (ws : List Jvm.Cond) (r0 : Addr) (r2 : Addr) (p4 : Int32) (ke : ClassId) (kt : ClassId) (LL : List Int32) (cs_ : List Int32) (ii : Nat) (xx : Int32) (h0 : Heap) (n0 : Nat) (Z0 : n0 ≤ h0.size) (V_r0 : Arv Z h0 r0 ke .byte (12 : Int32) (own_M LL) (.int (0 : Int32))) (g_r0 : n0 ≤ r0) (V_r2 : Arv Z h0 r2 kt .char (own_len cs_) (own_M cs_) (.int (0 : Int32))) (hne : r2 ≠ r0) (hxx : cs_[ii]? = some xx) (hi : ii < cs_.length) (hl5 : cs_.length ≤ 5) (hL9 : LL.length ≤ 9) :
    MetFree l Y59 (head1 (Jvm.Cond.code Y59 method_4_code 6 (some .int) :: ws) R2) (fun a U => a = #[(.ref r0), (.int (own_len LL)), (.ref r2), (.int (own_n ii)), (.int p4)] ∧ Z.Warmed39 U.vm ∧ U.heap = h0) (fun _ _ _ _ _ => True) (fun _ U o U' => ∃ v L, o = .returned v ∧ Q2 Z r0 r2 p4 ke kt LL cs_ ii xx h0 n0 v U'.heap L ∧ FrameEnd U o U' L R2.cells R2.slots) := by
  refine own_start (C := "com/example/treewarden/treewarden/session/CredentialParsePinLaw") (Q := Q2 Z r0 r2 p4 ke kt LL cs_ ii xx h0 n0) rfl (plainFor_of_name pn47) ?_
  intro p e s m below meth c s₁ g₀ hg₀ Bd hx hby hml hZ hown hnm X0 e0
  have N0 := Fr.nil n0
  have pre0 : ∀ t, Sx p e below s₁ (mkF m 0 #[rv r0, iv (own_len LL), rv r2, iv (own_n ii), iv p4, .unset] []) t → Sx p e below s₁ g₀ t := fun t k => by subst hg₀; exact castTop (ef_2 m r0 (own_len LL) r2 (own_n ii) p4) k
  have pre1 : ∀ t, Sx p e below s₁ (mkF m 3 #[rv r0, iv (own_len LL), rv r2, iv (own_n ii), iv p4, .unset] [(.int p4), (.int (own_n ii))]) t → Sx p e below s₁ g₀ t := by
    intro t kt
    refine pre0 _ ?_
    refine XS.iloadN X0.here hx rfl (hb hby d2_0) rfl ?_
    refine XS.iload X0.here hx rfl (hb hby d2_1) rfl ?_
    exact kt
  by_cases hc3 : p4 < (own_n ii)
  · obtain ⟨cl2, Ar2, q2, S2, M2, H2, G2⟩ := id V_r2
    have hin2 : ¬ ((own_n ii) < 0 ∨ cl2.slots.size ≤ ((own_n ii)).toNatClampNeg) := inb_of S2 ⟨own_nP (by omega), own_nlt hi (by omega)⟩
    have hat2 : cl2.slots[((own_n ii)).toNatClampNeg]? = some (.int xx) := H2.at hin2 (own_Mat hxx (by omega))
    have pre3 : ∀ t, Sx p e below s₁ (mkF m 18 #[rv r0, iv (own_len LL), rv r2, iv (own_n ii), iv p4, iv xx] [(.int (128 : Int32)), (.int xx)]) t → Sx p e below s₁ g₀ t := by
      intro t kt
      refine pre1 _ ?_
      refine XS.icmpYes X0.here hx rfl (pc0 := 3) (pc' := 8) rfl (hb hby d2_3) rfl (tlt hc3).2.2.1 (by decide) (by decide) ?_
      refine XS.aloadN X0.here hx rfl (hb hby d2_8) rfl rfl ?_
      refine XS.iloadN X0.here hx rfl (hb hby d2_9) rfl ?_
      refine X0.caload hx (j := (own_n ii)) (v := (.int xx)) (by rw [e0]; exact Ar2.1) (State.isArrayOf_alike hZ.alike Ar2.2.1) Ar2.2.2 hin2 hat2 (g := (mkF m 10 #[rv r0, iv (own_len LL), rv r2, iv (own_n ii), iv p4, .unset] [(.int (own_n ii)), (.ref r2)])) rfl rfl (hb hby d2_10) _ ?_
      show Sx p e below s₁ (mkF m 11 #[rv r0, iv (own_len LL), rv r2, iv (own_n ii), iv p4, .unset] [(.int xx)]) _
      refine XS.istore X0.here hx rfl (hb hby d2_11) rfl (l' := #[rv r0, iv (own_len LL), rv r2, iv (own_n ii), iv p4, iv xx]) rfl ?_
      refine XS.iload X0.here hx rfl (hb hby d2_13) rfl ?_
      refine XS.sipush X0.here hx rfl (hb hby d2_15) ?_
      exact kt
    by_cases hc18 : xx < (128 : Int32)
    · have pre4 : ∀ t, Sx p e below s₁ (mkF m 26 #[rv r0, iv (own_len LL), rv r2, iv (own_n ii), iv p4, iv xx] [(.int (xx.toInt8.toInt32)), (.int (own_len LL)), (.ref r0)]) t → Sx p e below s₁ g₀ t := by
        intro t kt
        refine pre3 _ ?_
        refine XS.icmpNo X0.here hx rfl (hb hby d2_18) rfl (tlt hc18).2.1 ?_
        refine XS.aloadN X0.here hx rfl (hb hby d2_21) rfl rfl ?_
        refine XS.iloadN X0.here hx rfl (hb hby d2_22) rfl ?_
        refine XS.iload X0.here hx rfl (hb hby d2_23) rfl ?_
        refine XS.i2b X0.here hx rfl (hb hby d2_25) rfl ?_
        exact kt
      obtain ⟨cl5, Ar5, q5, S5, M5, H5, G5⟩ := id V_r0
      have hin5 : ¬ ((own_len LL) < 0 ∨ cl5.slots.size ≤ ((own_len LL)).toNatClampNeg) := inb_of S5 (own_pb0 (by have e12 : (12 : Int32).toNatClampNeg = 12 := (by decide); omega) (by omega))
      obtain ⟨T5, h5, X5, e5, W5, st5⟩ := stB X0 hx hZ e0 Ar5 (j := (own_len LL)) hin5 (g := (mkF m 26 #[rv r0, iv (own_len LL), rv r2, iv (own_n ii), iv p4, iv xx] [(.int (xx.toInt8.toInt32)), (.int (own_len LL)), (.ref r0)])) rfl rfl (hb hby d2_26)
      have nn5 : nar .byte (xx.toInt8.toInt32) = (xx.toInt8.toInt32) := (own_nb _)
      rw [nn5] at W5
      have V5 : Arv Z h5 r0 ke .byte (12 : Int32) (own_M (LL ++ [(xx.toInt8.toInt32)])) (.int (0 : Int32)) := own_push Ar5 q5 S5 M5 H5 G5 (own_fb nn5) W5 (own_lenN LL (by omega))
      have K5 : Keep h0 h5 [r0] := (Keep.refl h0 [r0]).wr W5 (Or.inl (List.mem_of_getElem? (i := 0) rfl))
      have N5 := Fr.snoc X5 N0 g_r0
      have pre6 : ∀ t, Sx p e below T5 (mkF m 30 #[rv r0, iv (own_len LL), rv r2, iv (own_n ii), iv p4, iv xx] [(.int ((own_len LL) + (1 : Int32)))]) t → Sx p e below s₁ g₀ t := by
        intro t kt
        refine pre4 _ ?_
        refine st5 _ ?_
        show Sx p e below T5 (mkF m 27 #[rv r0, iv (own_len LL), rv r2, iv (own_n ii), iv p4, iv xx] []) _
        refine XS.iloadN X5.here hx rfl (hb hby d2_27) rfl ?_
        refine XS.iconst X5.here hx rfl (hb hby d2_28) ?_
        refine XS.iadd X5.here hx rfl (hb hby d2_29) rfl ?_
        exact kt
      obtain ⟨fs, hr, hrun, hended, hW, hsame⟩ := X5.leave (v := some (.int ((own_len LL) + (1 : Int32)))) (fun h => by rw [Bd.returns] at h; cases h)
      refine ⟨_, _, _, pre6 _ ?_, hrun, hended, ?_, ⟨_, rfl⟩, hW, hsame.mono (by decide) (by decide)⟩
      · show Steps p.tables e below (T5.setTop (mkF m 30 #[rv r0, iv (own_len LL), rv r2, iv (own_n ii), iv p4, iv xx] [(.int ((own_len LL) + (1 : Int32)))])) _
        exact retI X5 hx Bd.returns (hb hby d2_30) hr
      · show Q2 Z r0 r2 p4 ke kt LL cs_ ii xx h0 n0 _ T5.heap _
        rw [e5]
        show _ = _ ∧ _ ∧ _ ∧ _
        have hp : own_put LL p4 ii xx = LL ++ [(xx.toInt8.toInt32)] := (if_pos hc3).trans (by rw [own_e1 hc18])
        rw [hp]
        exact ⟨congrArg (fun z => some (Value.int z)) (own_p1 LL _ (by omega)), N5, K5, V5⟩
    · have pre7 : ∀ t, Sx p e below s₁ (mkF m 36 #[rv r0, iv (own_len LL), rv r2, iv (own_n ii), iv p4, iv xx] [(.int (2048 : Int32)), (.int xx)]) t → Sx p e below s₁ g₀ t := by
        intro t kt
        refine pre3 _ ?_
        refine XS.icmpYes X0.here hx rfl (pc0 := 18) (pc' := 31) rfl (hb hby d2_18) rfl (flt hc18).2.1 (by decide) (by decide) ?_
        refine XS.iload X0.here hx rfl (hb hby d2_31) rfl ?_
        refine XS.sipush X0.here hx rfl (hb hby d2_33) ?_
        exact kt
      by_cases hc36 : xx < (2048 : Int32)
      · have pre8 : ∀ t, Sx p e below s₁ (mkF m 51 #[rv r0, iv (own_len LL), rv r2, iv (own_n ii), iv p4, iv xx] [(.int (own_a0 xx)), (.int (own_len LL)), (.ref r0)]) t → Sx p e below s₁ g₀ t := by
          intro t kt
          refine pre7 _ ?_
          refine XS.icmpNo X0.here hx rfl (hb hby d2_36) rfl (tlt hc36).2.1 ?_
          refine XS.aloadN X0.here hx rfl (hb hby d2_39) rfl rfl ?_
          refine XS.iloadN X0.here hx rfl (hb hby d2_40) rfl ?_
          refine XS.sipush X0.here hx rfl (hb hby d2_41) ?_
          refine XS.iload X0.here hx rfl (hb hby d2_44) rfl ?_
          refine XS.bipush X0.here hx rfl (hb hby d2_46) ?_
          refine XS.ishr X0.here hx rfl (hb hby d2_48) rfl ?_
          refine XS.ior X0.here hx rfl (hb hby d2_49) rfl ?_
          refine XS.i2b X0.here hx rfl (hb hby d2_50) rfl ?_
          show Sx p e below s₁ (mkF m 51 #[rv r0, iv (own_len LL), rv r2, iv (own_n ii), iv p4, iv xx] [(.int (((192 : Int32) ||| (xx >>> ((6 : Int32) &&& 31))).toInt8.toInt32)), (.int (own_len LL)), (.ref r0)]) _
          rw [show (((192 : Int32) ||| (xx >>> ((6 : Int32) &&& 31))).toInt8.toInt32) = (own_a0 xx) from rfl]
          exact kt
        obtain ⟨cl9, Ar9, q9, S9, M9, H9, G9⟩ := id V_r0
        have hin9 : ¬ ((own_len LL) < 0 ∨ cl9.slots.size ≤ ((own_len LL)).toNatClampNeg) := inb_of S9 (own_pb0 (by have e12 : (12 : Int32).toNatClampNeg = 12 := (by decide); omega) (by omega))
        obtain ⟨T9, h9, X9, e9, W9, st9⟩ := stB X0 hx hZ e0 Ar9 (j := (own_len LL)) hin9 (g := (mkF m 51 #[rv r0, iv (own_len LL), rv r2, iv (own_n ii), iv p4, iv xx] [(.int (own_a0 xx)), (.int (own_len LL)), (.ref r0)])) rfl rfl (hb hby d2_51)
        have nn9 : nar .byte (own_a0 xx) = (own_a0 xx) := (own_nb _)
        rw [nn9] at W9
        have V9 : Arv Z h9 r0 ke .byte (12 : Int32) (own_M (LL ++ [(own_a0 xx)])) (.int (0 : Int32)) := own_push Ar9 q9 S9 M9 H9 G9 (own_fb nn9) W9 (own_lenN LL (by omega))
        have K9 : Keep h0 h9 [r0] := (Keep.refl h0 [r0]).wr W9 (Or.inl (List.mem_of_getElem? (i := 0) rfl))
        have N9 := Fr.snoc X9 N0 g_r0
        have pre10 : ∀ t, Sx p e below T9 (mkF m 66 #[rv r0, iv (own_len LL), rv r2, iv (own_n ii), iv p4, iv xx] [(.int (own_a1 xx)), (.int ((own_len LL) + (1 : Int32))), (.ref r0)]) t → Sx p e below s₁ g₀ t := by
          intro t kt
          refine pre8 _ ?_
          refine st9 _ ?_
          show Sx p e below T9 (mkF m 52 #[rv r0, iv (own_len LL), rv r2, iv (own_n ii), iv p4, iv xx] []) _
          refine XS.aloadN X9.here hx rfl (hb hby d2_52) rfl rfl ?_
          refine XS.iloadN X9.here hx rfl (hb hby d2_53) rfl ?_
          refine XS.iconst X9.here hx rfl (hb hby d2_54) ?_
          refine XS.iadd X9.here hx rfl (hb hby d2_55) rfl ?_
          refine XS.sipush X9.here hx rfl (hb hby d2_56) ?_
          refine XS.iload X9.here hx rfl (hb hby d2_59) rfl ?_
          refine XS.bipush X9.here hx rfl (hb hby d2_61) ?_
          refine XS.iand X9.here hx rfl (hb hby d2_63) rfl ?_
          refine XS.ior X9.here hx rfl (hb hby d2_64) rfl ?_
          refine XS.i2b X9.here hx rfl (hb hby d2_65) rfl ?_
          show Sx p e below T9 (mkF m 66 #[rv r0, iv (own_len LL), rv r2, iv (own_n ii), iv p4, iv xx] [(.int (((128 : Int32) ||| (xx &&& (63 : Int32))).toInt8.toInt32)), (.int ((own_len LL) + (1 : Int32))), (.ref r0)]) _
          rw [show (((128 : Int32) ||| (xx &&& (63 : Int32))).toInt8.toInt32) = (own_a1 xx) from rfl]
          exact kt
        obtain ⟨cl11, Ar11, q11, S11, M11, H11, G11⟩ := id V9
        have hin11 : ¬ (((own_len LL) + (1 : Int32)) < 0 ∨ cl11.slots.size ≤ (((own_len LL) + (1 : Int32))).toNatClampNeg) := inb_of S11 (own_qb (m := 1) rfl (by have e12 : (12 : Int32).toNatClampNeg = 12 := (by decide); omega) (by omega))
        obtain ⟨T11, h11, X11, e11, W11, st11⟩ := stB X9 hx hZ e9 Ar11 (j := ((own_len LL) + (1 : Int32))) hin11 (g := (mkF m 66 #[rv r0, iv (own_len LL), rv r2, iv (own_n ii), iv p4, iv xx] [(.int (own_a1 xx)), (.int ((own_len LL) + (1 : Int32))), (.ref r0)])) rfl rfl (hb hby d2_66)
        have nn11 : nar .byte (own_a1 xx) = (own_a1 xx) := (own_nb _)
        rw [nn11] at W11
        have V11 : Arv Z h11 r0 ke .byte (12 : Int32) (own_M (LL ++ [(own_a0 xx)] ++ [(own_a1 xx)])) (.int (0 : Int32)) := own_push Ar11 q11 S11 M11 H11 G11 (own_fb nn11) W11 (own_q1 LL _ (by omega))
        have K11 : Keep h0 h11 [r0] := K9.wr W11 (Or.inl (List.mem_of_getElem? (i := 0) rfl))
        have N11 := Fr.snoc X11 N9 g_r0
        have pre12 : ∀ t, Sx p e below T11 (mkF m 70 #[rv r0, iv (own_len LL), rv r2, iv (own_n ii), iv p4, iv xx] [(.int ((own_len LL) + (2 : Int32)))]) t → Sx p e below s₁ g₀ t := by
          intro t kt
          refine pre10 _ ?_
          refine st11 _ ?_
          show Sx p e below T11 (mkF m 67 #[rv r0, iv (own_len LL), rv r2, iv (own_n ii), iv p4, iv xx] []) _
          refine XS.iloadN X11.here hx rfl (hb hby d2_67) rfl ?_
          refine XS.iconst X11.here hx rfl (hb hby d2_68) ?_
          refine XS.iadd X11.here hx rfl (hb hby d2_69) rfl ?_
          exact kt
        obtain ⟨fs, hr, hrun, hended, hW, hsame⟩ := X11.leave (v := some (.int ((own_len LL) + (2 : Int32)))) (fun h => by rw [Bd.returns] at h; cases h)
        refine ⟨_, _, _, pre12 _ ?_, hrun, hended, ?_, ⟨_, rfl⟩, hW, hsame.mono (by decide) (by decide)⟩
        · show Steps p.tables e below (T11.setTop (mkF m 70 #[rv r0, iv (own_len LL), rv r2, iv (own_n ii), iv p4, iv xx] [(.int ((own_len LL) + (2 : Int32)))])) _
          exact retI X11 hx Bd.returns (hb hby d2_70) hr
        · show Q2 Z r0 r2 p4 ke kt LL cs_ ii xx h0 n0 _ T11.heap _
          rw [e11]
          show _ = _ ∧ _ ∧ _ ∧ _
          have hp : own_put LL p4 ii xx = LL ++ [(own_a0 xx)] ++ [(own_a1 xx)] := (if_pos hc3).trans (by rw [own_e2 hc18 hc36]; simp only [List.append_assoc]; rfl)
          rw [hp]
          exact ⟨congrArg (fun z => some (Value.int z)) (own_q2 LL _ _ (by omega)), N11, K11, V11⟩
      · have pre13 : ∀ t, Sx p e below s₁ (mkF m 83 #[rv r0, iv (own_len LL), rv r2, iv (own_n ii), iv p4, iv xx] [(.int (own_b0 xx)), (.int (own_len LL)), (.ref r0)]) t → Sx p e below s₁ g₀ t := by
          intro t kt
          refine pre7 _ ?_
          refine XS.icmpYes X0.here hx rfl (pc0 := 36) (pc' := 71) rfl (hb hby d2_36) rfl (flt hc36).2.1 (by decide) (by decide) ?_
          refine XS.aloadN X0.here hx rfl (hb hby d2_71) rfl rfl ?_
          refine XS.iloadN X0.here hx rfl (hb hby d2_72) rfl ?_
          refine XS.sipush X0.here hx rfl (hb hby d2_73) ?_
          refine XS.iload X0.here hx rfl (hb hby d2_76) rfl ?_
          refine XS.bipush X0.here hx rfl (hb hby d2_78) ?_
          refine XS.ishr X0.here hx rfl (hb hby d2_80) rfl ?_
          refine XS.ior X0.here hx rfl (hb hby d2_81) rfl ?_
          refine XS.i2b X0.here hx rfl (hb hby d2_82) rfl ?_
          show Sx p e below s₁ (mkF m 83 #[rv r0, iv (own_len LL), rv r2, iv (own_n ii), iv p4, iv xx] [(.int (((224 : Int32) ||| (xx >>> ((12 : Int32) &&& 31))).toInt8.toInt32)), (.int (own_len LL)), (.ref r0)]) _
          rw [show (((224 : Int32) ||| (xx >>> ((12 : Int32) &&& 31))).toInt8.toInt32) = (own_b0 xx) from rfl]
          exact kt
        obtain ⟨cl14, Ar14, q14, S14, M14, H14, G14⟩ := id V_r0
        have hin14 : ¬ ((own_len LL) < 0 ∨ cl14.slots.size ≤ ((own_len LL)).toNatClampNeg) := inb_of S14 (own_pb0 (by have e12 : (12 : Int32).toNatClampNeg = 12 := (by decide); omega) (by omega))
        obtain ⟨T14, h14, X14, e14, W14, st14⟩ := stB X0 hx hZ e0 Ar14 (j := (own_len LL)) hin14 (g := (mkF m 83 #[rv r0, iv (own_len LL), rv r2, iv (own_n ii), iv p4, iv xx] [(.int (own_b0 xx)), (.int (own_len LL)), (.ref r0)])) rfl rfl (hb hby d2_83)
        have nn14 : nar .byte (own_b0 xx) = (own_b0 xx) := (own_nb _)
        rw [nn14] at W14
        have V14 : Arv Z h14 r0 ke .byte (12 : Int32) (own_M (LL ++ [(own_b0 xx)])) (.int (0 : Int32)) := own_push Ar14 q14 S14 M14 H14 G14 (own_fb nn14) W14 (own_lenN LL (by omega))
        have K14 : Keep h0 h14 [r0] := (Keep.refl h0 [r0]).wr W14 (Or.inl (List.mem_of_getElem? (i := 0) rfl))
        have N14 := Fr.snoc X14 N0 g_r0
        have pre15 : ∀ t, Sx p e below T14 (mkF m 101 #[rv r0, iv (own_len LL), rv r2, iv (own_n ii), iv p4, iv xx] [(.int (own_b1 xx)), (.int ((own_len LL) + (1 : Int32))), (.ref r0)]) t → Sx p e below s₁ g₀ t := by
          intro t kt
          refine pre13 _ ?_
          refine st14 _ ?_
          show Sx p e below T14 (mkF m 84 #[rv r0, iv (own_len LL), rv r2, iv (own_n ii), iv p4, iv xx] []) _
          refine XS.aloadN X14.here hx rfl (hb hby d2_84) rfl rfl ?_
          refine XS.iloadN X14.here hx rfl (hb hby d2_85) rfl ?_
          refine XS.iconst X14.here hx rfl (hb hby d2_86) ?_
          refine XS.iadd X14.here hx rfl (hb hby d2_87) rfl ?_
          refine XS.sipush X14.here hx rfl (hb hby d2_88) ?_
          refine XS.iload X14.here hx rfl (hb hby d2_91) rfl ?_
          refine XS.bipush X14.here hx rfl (hb hby d2_93) ?_
          refine XS.ishr X14.here hx rfl (hb hby d2_95) rfl ?_
          refine XS.bipush X14.here hx rfl (hb hby d2_96) ?_
          refine XS.iand X14.here hx rfl (hb hby d2_98) rfl ?_
          refine XS.ior X14.here hx rfl (hb hby d2_99) rfl ?_
          refine XS.i2b X14.here hx rfl (hb hby d2_100) rfl ?_
          show Sx p e below T14 (mkF m 101 #[rv r0, iv (own_len LL), rv r2, iv (own_n ii), iv p4, iv xx] [(.int (((128 : Int32) ||| ((xx >>> ((6 : Int32) &&& 31)) &&& (63 : Int32))).toInt8.toInt32)), (.int ((own_len LL) + (1 : Int32))), (.ref r0)]) _
          rw [show (((128 : Int32) ||| ((xx >>> ((6 : Int32) &&& 31)) &&& (63 : Int32))).toInt8.toInt32) = (own_b1 xx) from rfl]
          exact kt
        obtain ⟨cl16, Ar16, q16, S16, M16, H16, G16⟩ := id V14
        have hin16 : ¬ (((own_len LL) + (1 : Int32)) < 0 ∨ cl16.slots.size ≤ (((own_len LL) + (1 : Int32))).toNatClampNeg) := inb_of S16 (own_qb (m := 1) rfl (by have e12 : (12 : Int32).toNatClampNeg = 12 := (by decide); omega) (by omega))
        obtain ⟨T16, h16, X16, e16, W16, st16⟩ := stB X14 hx hZ e14 Ar16 (j := ((own_len LL) + (1 : Int32))) hin16 (g := (mkF m 101 #[rv r0, iv (own_len LL), rv r2, iv (own_n ii), iv p4, iv xx] [(.int (own_b1 xx)), (.int ((own_len LL) + (1 : Int32))), (.ref r0)])) rfl rfl (hb hby d2_101)
        have nn16 : nar .byte (own_b1 xx) = (own_b1 xx) := (own_nb _)
        rw [nn16] at W16
        have V16 : Arv Z h16 r0 ke .byte (12 : Int32) (own_M (LL ++ [(own_b0 xx)] ++ [(own_b1 xx)])) (.int (0 : Int32)) := own_push Ar16 q16 S16 M16 H16 G16 (own_fb nn16) W16 (own_q1 LL _ (by omega))
        have K16 : Keep h0 h16 [r0] := K14.wr W16 (Or.inl (List.mem_of_getElem? (i := 0) rfl))
        have N16 := Fr.snoc X16 N14 g_r0
        have pre17 : ∀ t, Sx p e below T16 (mkF m 116 #[rv r0, iv (own_len LL), rv r2, iv (own_n ii), iv p4, iv xx] [(.int (own_a1 xx)), (.int ((own_len LL) + (2 : Int32))), (.ref r0)]) t → Sx p e below s₁ g₀ t := by
          intro t kt
          refine pre15 _ ?_
          refine st16 _ ?_
          show Sx p e below T16 (mkF m 102 #[rv r0, iv (own_len LL), rv r2, iv (own_n ii), iv p4, iv xx] []) _
          refine XS.aloadN X16.here hx rfl (hb hby d2_102) rfl rfl ?_
          refine XS.iloadN X16.here hx rfl (hb hby d2_103) rfl ?_
          refine XS.iconst X16.here hx rfl (hb hby d2_104) ?_
          refine XS.iadd X16.here hx rfl (hb hby d2_105) rfl ?_
          refine XS.sipush X16.here hx rfl (hb hby d2_106) ?_
          refine XS.iload X16.here hx rfl (hb hby d2_109) rfl ?_
          refine XS.bipush X16.here hx rfl (hb hby d2_111) ?_
          refine XS.iand X16.here hx rfl (hb hby d2_113) rfl ?_
          refine XS.ior X16.here hx rfl (hb hby d2_114) rfl ?_
          refine XS.i2b X16.here hx rfl (hb hby d2_115) rfl ?_
          show Sx p e below T16 (mkF m 116 #[rv r0, iv (own_len LL), rv r2, iv (own_n ii), iv p4, iv xx] [(.int (((128 : Int32) ||| (xx &&& (63 : Int32))).toInt8.toInt32)), (.int ((own_len LL) + (2 : Int32))), (.ref r0)]) _
          rw [show (((128 : Int32) ||| (xx &&& (63 : Int32))).toInt8.toInt32) = (own_a1 xx) from rfl]
          exact kt
        obtain ⟨cl18, Ar18, q18, S18, M18, H18, G18⟩ := id V16
        have hin18 : ¬ (((own_len LL) + (2 : Int32)) < 0 ∨ cl18.slots.size ≤ (((own_len LL) + (2 : Int32))).toNatClampNeg) := inb_of S18 (own_qb (m := 2) rfl (by have e12 : (12 : Int32).toNatClampNeg = 12 := (by decide); omega) (by omega))
        obtain ⟨T18, h18, X18, e18, W18, st18⟩ := stB X16 hx hZ e16 Ar18 (j := ((own_len LL) + (2 : Int32))) hin18 (g := (mkF m 116 #[rv r0, iv (own_len LL), rv r2, iv (own_n ii), iv p4, iv xx] [(.int (own_a1 xx)), (.int ((own_len LL) + (2 : Int32))), (.ref r0)])) rfl rfl (hb hby d2_116)
        have nn18 : nar .byte (own_a1 xx) = (own_a1 xx) := (own_nb _)
        rw [nn18] at W18
        have V18 : Arv Z h18 r0 ke .byte (12 : Int32) (own_M (LL ++ [(own_b0 xx)] ++ [(own_b1 xx)] ++ [(own_a1 xx)])) (.int (0 : Int32)) := own_push Ar18 q18 S18 M18 H18 G18 (own_fb nn18) W18 (by rw [own_q2 LL (own_b0 xx) (own_b1 xx) (by omega)]; exact own_lenN _ (by simp; omega))
        have K18 : Keep h0 h18 [r0] := K16.wr W18 (Or.inl (List.mem_of_getElem? (i := 0) rfl))
        have N18 := Fr.snoc X18 N16 g_r0
        have pre19 : ∀ t, Sx p e below T18 (mkF m 120 #[rv r0, iv (own_len LL), rv r2, iv (own_n ii), iv p4, iv xx] [(.int ((own_len LL) + (3 : Int32)))]) t → Sx p e below s₁ g₀ t := by
          intro t kt
          refine pre17 _ ?_
          refine st18 _ ?_
          show Sx p e below T18 (mkF m 117 #[rv r0, iv (own_len LL), rv r2, iv (own_n ii), iv p4, iv xx] []) _
          refine XS.iloadN X18.here hx rfl (hb hby d2_117) rfl ?_
          refine XS.iconst X18.here hx rfl (hb hby d2_118) ?_
          refine XS.iadd X18.here hx rfl (hb hby d2_119) rfl ?_
          exact kt
        obtain ⟨fs, hr, hrun, hended, hW, hsame⟩ := X18.leave (v := some (.int ((own_len LL) + (3 : Int32)))) (fun h => by rw [Bd.returns] at h; cases h)
        refine ⟨_, _, _, pre19 _ ?_, hrun, hended, ?_, ⟨_, rfl⟩, hW, hsame.mono (by decide) (by decide)⟩
        · show Steps p.tables e below (T18.setTop (mkF m 120 #[rv r0, iv (own_len LL), rv r2, iv (own_n ii), iv p4, iv xx] [(.int ((own_len LL) + (3 : Int32)))])) _
          exact retI X18 hx Bd.returns (hb hby d2_120) hr
        · show Q2 Z r0 r2 p4 ke kt LL cs_ ii xx h0 n0 _ T18.heap _
          rw [e18]
          show _ = _ ∧ _ ∧ _ ∧ _
          have hp : own_put LL p4 ii xx = LL ++ [(own_b0 xx)] ++ [(own_b1 xx)] ++ [(own_a1 xx)] := (if_pos hc3).trans (by rw [own_e3 hc18 hc36]; simp only [List.append_assoc]; rfl)
          rw [hp]
          exact ⟨congrArg (fun z => some (Value.int z)) (own_q3 LL _ _ _ (by omega)), N18, K18, V18⟩
  · have pre20 : ∀ t, Sx p e below s₁ (mkF m 7 #[rv r0, iv (own_len LL), rv r2, iv (own_n ii), iv p4, .unset] [(.int (own_len LL))]) t → Sx p e below s₁ g₀ t := by
      intro t kt
      refine pre1 _ ?_
      refine XS.icmpNo X0.here hx rfl (hb hby d2_3) rfl (flt hc3).2.2.1 ?_
      refine XS.iloadN X0.here hx rfl (hb hby d2_6) rfl ?_
      exact kt
    obtain ⟨fs, hr, hrun, hended, hW, hsame⟩ := X0.leave (v := some (.int (own_len LL))) (fun h => by rw [Bd.returns] at h; cases h)
    refine ⟨_, _, _, pre20 _ ?_, hrun, hended, ?_, ⟨_, rfl⟩, hW, hsame.mono (by decide) (by decide)⟩
    · show Steps p.tables e below (s₁.setTop (mkF m 7 #[rv r0, iv (own_len LL), rv r2, iv (own_n ii), iv p4, .unset] [(.int (own_len LL))])) _
      exact retI X0 hx Bd.returns (hb hby d2_7) hr
    · show Q2 Z r0 r2 p4 ke kt LL cs_ ii xx h0 n0 _ s₁.heap _
      rw [e0]
      show _ = _ ∧ _ ∧ _ ∧ _
      rw [show own_put LL p4 ii xx = LL from if_neg hc3]
      exact ⟨rfl, N0, (Keep.refl h0 [r0]), V_r0⟩
abbrev D42 (q : Nat) (i : Instr) (k : Nat) : Prop := decode method_5_code q = .ok (i, k)
theorem d42_0 : D42 0 (.iload_n 3) 1 := by decide +kernel
theorem d42_1 : D42 1 (.iload_n 2) 1 := by decide +kernel
theorem d42_2 : D42 2 (.if_icmp .ge 12) 3 := by decide +kernel
theorem d42_5 : D42 5 (.aload_n 0) 1 := by decide +kernel
theorem d42_6 : D42 6 (.iload_n 3) 1 := by decide +kernel
theorem d42_7 : D42 7 (.baload) 1 := by decide +kernel
theorem d42_8 : D42 8 (.aload_n 1) 1 := by decide +kernel
theorem d42_9 : D42 9 (.iload_n 3) 1 := by decide +kernel
theorem d42_10 : D42 10 (.baload) 1 := by decide +kernel
theorem d42_11 : D42 11 (.if_icmp .ne 7) 3 := by decide +kernel
theorem d42_14 : D42 14 (.iconst 1) 1 := by decide +kernel
theorem d42_15 : D42 15 (.goto 4) 3 := by decide +kernel
theorem d42_19 : D42 19 (.ireturn) 1 := by decide +kernel
theorem ef_42 (m : MethodId) (x0 : Addr) (x1 : Addr) (x2 : Int32) (x3 : Int32) : entryFrame m #[(.ref x0), (.ref x1), (.int x2), (.int x3)] 4 = mkF m 0 #[.val (.ref x0), .val (.ref x1), .val (.int x2), .val (.int x3)] [] := by first | (simp [entryFrame, mkF, argsToLocals, Value.category]; done) | rfl
def Q42 (Z : State) (r0 : Addr) (r1 : Addr) (k1 : ClassId) (k2 : ClassId) (LL : List Int32) (ii : Nat) (h0 : Heap) (n0 : Nat) (v : Option Value) (h : Heap) (L : List Loc) : Prop := v = some (.int (1 : Int32)) ∧ Fr n0 L ∧ h = h0
abbrev R42 : Room := { frames := 0, cells := 0, slots := 0, locals := 0 }
theorem rm42 (l : Launch) (Z : State) (a0 : Array Value) (hw : ∀ d ∈ tables_1, d.before a0 Z = true) (ws : List Jvm.Cond) (r0 : Addr) (r1 : Addr) (k1 : ClassId) (k2 : ClassId) (LL : List Int32) (ii : Nat) (h0 : Heap) (n0 : Nat) (Z0 : n0 ≤ h0.size) (V_r0 : Arv Z h0 r0 k1 .byte (own_len LL) (own_M LL) (.int (0 : Int32))) (V_r1 : Arv Z h0 r1 k2 .byte (12 : Int32) (own_M LL) (.int (0 : Int32))) (hi : ii ≤ 11) (hL12 : LL.length ≤ 12) :
    MetFree l Y60 (head1 (Jvm.Cond.code Y60 method_5_code 4 (some .boolean) :: ws) R42) (fun a U => a = #[(.ref r0), (.ref r1), (.int (own_len LL)), (.int (own_n ii))] ∧ Z.Warmed39 U.vm ∧ U.heap = h0) (fun _ _ _ _ _ => True) (fun _ U o U' => ∃ v L, o = .returned v ∧ Q42 Z r0 r1 k1 k2 LL ii h0 n0 v U'.heap L ∧ FrameEnd U o U' L R42.cells R42.slots) := by
  refine own_start (C := "com/example/treewarden/treewarden/session/CredentialParsePinLaw") (Q := Q42 Z r0 r1 k1 k2 LL ii h0 n0) rfl (plainFor_of_name pn47) ?_
  intro p e s m below meth c s₁ g₀ hg₀ Bd hx hby hml hZ hown hnm X0 e0
  have N0 := Fr.nil n0
  have pre0 : ∀ t, Sx p e below s₁ (mkF m 0 #[rv r0, rv r1, iv (own_len LL), iv (own_n ii)] []) t → Sx p e below s₁ g₀ t := fun t k => by subst hg₀; exact castTop (ef_42 m r0 r1 (own_len LL) (own_n ii)) k
  have pre1 : ∀ t, Sx p e below s₁ (mkF m 2 #[rv r0, rv r1, iv (own_len LL), iv (own_n ii)] [(.int (own_len LL)), (.int (own_n ii))]) t → Sx p e below s₁ g₀ t := by
    intro t kt
    refine pre0 _ ?_
    refine XS.iloadN X0.here hx rfl (hb hby d42_0) rfl ?_
    refine XS.iloadN X0.here hx rfl (hb hby d42_1) rfl ?_
    exact kt
  by_cases hc2 : (own_n ii) < (own_len LL)
  · obtain ⟨cl2, Ar2, q2, S2, M2, H2, G2⟩ := id V_r0
    have hin2 : ¬ ((own_n ii) < 0 ∨ cl2.slots.size ≤ ((own_n ii)).toNatClampNeg) := inb_of S2 ⟨own_nP (by omega), hc2⟩
    have hat2 : cl2.slots[((own_n ii)).toNatClampNeg]? = some (.int (LL.getD ii (0 : Int32))) := H2.at hin2 (own_Mat (own_get (own_ltn (b := LL.length) hc2 (by omega) (by omega))) (by omega))
    obtain ⟨cl3, Ar3, q3, S3, M3, H3, G3⟩ := id V_r1
    have hin3 : ¬ ((own_n ii) < 0 ∨ cl3.slots.size ≤ ((own_n ii)).toNatClampNeg) := inb_of S3 ⟨own_nP (by omega), own_ltz (by have e12 : (12 : Int32).toNatClampNeg = 12 := (by decide); omega) (by omega)⟩
    have hat3 : cl3.slots[((own_n ii)).toNatClampNeg]? = some (.int (LL.getD ii (0 : Int32))) := H3.at hin3 (own_Mat (own_get (own_ltn (b := LL.length) hc2 (by omega) (by omega))) (by omega))
    have pre4 : ∀ t, Sx p e below s₁ (mkF m 19 #[rv r0, rv r1, iv (own_len LL), iv (own_n ii)] [(.int (1 : Int32))]) t → Sx p e below s₁ g₀ t := by
      intro t kt
      refine pre1 _ ?_
      refine XS.icmpNo X0.here hx rfl (hb hby d42_2) rfl (tlt hc2).2.1 ?_
      refine XS.aloadN X0.here hx rfl (hb hby d42_5) rfl rfl ?_
      refine XS.iloadN X0.here hx rfl (hb hby d42_6) rfl ?_
      refine X0.baloadBytes hx (j := (own_n ii)) (v := (.int (LL.getD ii (0 : Int32)))) (by rw [e0]; exact Ar2.1) (State.isArrayOf_alike hZ.alike Ar2.2.1) Ar2.2.2 hin2 hat2 (g := (mkF m 7 #[rv r0, rv r1, iv (own_len LL), iv (own_n ii)] [(.int (own_n ii)), (.ref r0)])) rfl rfl (hb hby d42_7) _ ?_
      show Sx p e below s₁ (mkF m 8 #[rv r0, rv r1, iv (own_len LL), iv (own_n ii)] [(.int (LL.getD ii (0 : Int32)))]) _
      refine XS.aloadN X0.here hx rfl (hb hby d42_8) rfl rfl ?_
      refine XS.iloadN X0.here hx rfl (hb hby d42_9) rfl ?_
      refine X0.baloadBytes hx (j := (own_n ii)) (v := (.int (LL.getD ii (0 : Int32)))) (by rw [e0]; exact Ar3.1) (State.isArrayOf_alike hZ.alike Ar3.2.1) Ar3.2.2 hin3 hat3 (g := (mkF m 10 #[rv r0, rv r1, iv (own_len LL), iv (own_n ii)] [(.int (own_n ii)), (.ref r1), (.int (LL.getD ii (0 : Int32)))])) rfl rfl (hb hby d42_10) _ ?_
      show Sx p e below s₁ (mkF m 11 #[rv r0, rv r1, iv (own_len LL), iv (own_n ii)] [(.int (LL.getD ii (0 : Int32))), (.int (LL.getD ii (0 : Int32)))]) _
      refine XS.icmpNo X0.here hx rfl (hb hby d42_11) rfl (teq rfl).2 ?_
      refine XS.iconst X0.here hx rfl (hb hby d42_14) ?_
      refine XS.goto X0.here hx rfl (pc0 := 15) (pc' := 19) rfl (hb hby d42_15) (by decide) (by decide) ?_
      exact kt
    obtain ⟨fs, hr, hrun, hended, hW, hsame⟩ := X0.leave (v := some (.int (1 : Int32))) (fun h => by rw [Bd.returns] at h; cases h)
    refine ⟨_, _, _, pre4 _ ?_, hrun, hended, ?_, ⟨_, rfl⟩, hW, hsame.mono (by decide) (by decide)⟩
    · show Steps p.tables e below (s₁.setTop (mkF m 19 #[rv r0, rv r1, iv (own_len LL), iv (own_n ii)] [(.int (1 : Int32))])) _
      exact retN X0 hx (t := .boolean) Bd.returns (by simp) (hb hby d42_19) hr
    · show Q42 Z r0 r1 k1 k2 LL ii h0 n0 _ s₁.heap _
      rw [e0]
      exact ⟨rfl, N0, rfl⟩
  · have pre5 : ∀ t, Sx p e below s₁ (mkF m 19 #[rv r0, rv r1, iv (own_len LL), iv (own_n ii)] [(.int (1 : Int32))]) t → Sx p e below s₁ g₀ t := by
      intro t kt
      refine pre1 _ ?_
      refine XS.icmpYes X0.here hx rfl (pc0 := 2) (pc' := 14) rfl (hb hby d42_2) rfl (flt hc2).2.1 (by decide) (by decide) ?_
      refine XS.iconst X0.here hx rfl (hb hby d42_14) ?_
      refine XS.goto X0.here hx rfl (pc0 := 15) (pc' := 19) rfl (hb hby d42_15) (by decide) (by decide) ?_
      exact kt
    obtain ⟨fs, hr, hrun, hended, hW, hsame⟩ := X0.leave (v := some (.int (1 : Int32))) (fun h => by rw [Bd.returns] at h; cases h)
    refine ⟨_, _, _, pre5 _ ?_, hrun, hended, ?_, ⟨_, rfl⟩, hW, hsame.mono (by decide) (by decide)⟩
    · show Steps p.tables e below (s₁.setTop (mkF m 19 #[rv r0, rv r1, iv (own_len LL), iv (own_n ii)] [(.int (1 : Int32))])) _
      exact retN X0 hx (t := .boolean) Bd.returns (by simp) (hb hby d42_19) hr
    · show Q42 Z r0 r1 k1 k2 LL ii h0 n0 _ s₁.heap _
      rw [e0]
      exact ⟨rfl, N0, rfl⟩
theorem own_pickc {r : Int32} (h : own_ch r) (i p : Int32) : own_ch (own_pick r i p) := by
  unfold own_pick
  repeat' split
  all_goals first | exact h | exact own_chC _ | (unfold own_ch; decide)
theorem own_pk1 {r i p : Int32} (h : i < p) : ¬ (own_pick r i p = (58 : Int32)) := by
  unfold own_pick
  rw [if_pos h]
  split
  · decide
  · assumption
theorem own_pk2 (r i : Int32) : own_pick r i i = (58 : Int32) := by
  unfold own_pick
  rw [if_neg Int32.lt_irrefl, if_pos rfl]
theorem own_pk3 {r i p : Int32} (h : p < i) : ¬ (own_pick r i p < (55296 : Int32)) → ¬ (own_pick r i p < (57344 : Int32)) := by
  unfold own_pick
  rw [if_neg (fun q => absurd (Int32.lt_trans h q) Int32.lt_irrefl), if_neg (fun q => by rw [q] at h; exact absurd h Int32.lt_irrefl)]
  split
  · rename_i q; exact fun z => absurd q z
  · split
    · rename_i q; intro _ z
      simp only [Int32.lt_iff_toInt_lt, Int32.reduceToInt] at q z; omega
    · rename_i q1 q2; intro z
      have a := c_isub r 20480
      have b := c_i2c (r - (20480 : Int32))
      have ra := rng32 (r - (20480 : Int32))
      simp only [Int32.lt_iff_toInt_lt, Int32.reduceToInt] at q1 q2 z a
      omega
theorem own_putT {LL : List Int32} {p x : Int32} {ii : Nat} (h : p < own_n ii) : own_put LL p ii x = LL ++ own_enc x := if_pos h
theorem own_putF {LL : List Int32} {p x : Int32} {ii : Nat} (h : ¬ (p < own_n ii)) : own_put LL p ii x = LL := if_neg h
def own_g1 (jj : Nat) (t1 : Int32) : List Int32 := own_put [] (own_n jj) 1 t1
def own_g2 (jj : Nat) (t1 t2 : Int32) : List Int32 := own_put (own_g1 jj t1) (own_n jj) 2 t2
def own_g3 (jj : Nat) (t1 t2 t3 : Int32) : List Int32 := own_put (own_g2 jj t1 t2) (own_n jj) 3 t3
def own_g4 (jj : Nat) (t1 t2 t3 t4 : Int32) : List Int32 := own_put (own_g3 jj t1 t2 t3) (own_n jj) 4 t4
theorem own_gl1 (jj : Nat) (t1 : Int32) : (own_g1 jj t1).length ≤ 3 := own_putl [] _ _ _
theorem own_gl2 (jj : Nat) (t1 t2 : Int32) : (own_g2 jj t1 t2).length ≤ 6 := Nat.le_trans (own_putl _ _ _ _) (Nat.add_le_add_right (own_gl1 jj t1) 3)
theorem own_gl3 (jj : Nat) (t1 t2 t3 : Int32) : (own_g3 jj t1 t2 t3).length ≤ 9 := Nat.le_trans (own_putl _ _ _ _) (Nat.add_le_add_right (own_gl2 jj t1 t2) 3)
theorem own_gl4 (jj : Nat) (t1 t2 t3 t4 : Int32) : (own_g4 jj t1 t2 t3 t4).length ≤ 12 := Nat.le_trans (own_putl _ _ _ _) (Nat.add_le_add_right (own_gl3 jj t1 t2 t3) 3)
theorem own_lw {jj : Nat} {t0 t1 t2 t3 t4 r0 r1 r2 r3 r4 : Int32} (hj1 : 1 ≤ jj) (hj3 : jj ≤ 3) (e0 : t0 = own_pick r0 (0 : Int32) (own_n jj)) (e1 : t1 = own_pick r1 (1 : Int32) (own_n jj)) (e2 : t2 = own_pick r2 (2 : Int32) (own_n jj)) (e3 : t3 = own_pick r3 (3 : Int32) (own_n jj)) (e4 : t4 = own_pick r4 (4 : Int32) (own_n jj)) :
    ([t0, t1, t2, t3, t4] : List Int32)[jj]? = some (58 : Int32) ∧ (∀ i x, i < jj → ([t0, t1, t2, t3, t4] : List Int32)[i]? = some x → ¬ (x = (58 : Int32))) ∧ (∀ x ∈ own_sub [t0, t1, t2, t3, t4] (jj + 1) (4 - jj), ¬ (x < (55296 : Int32)) → ¬ (x < (57344 : Int32))) ∧ own_g4 jj t1 t2 t3 t4 = own_encs (own_sub [t0, t1, t2, t3, t4] (jj + 1) (4 - jj)) := by
  rcases (by omega : jj = 1 ∨ jj = 2 ∨ jj = 3) with rfl | rfl | rfl
  · have s0 : ¬ (t0 = (58 : Int32)) := by rw [e0]; exact own_pk1 (by decide)
    refine ⟨?_, fun i x hi hx => ?_, fun x hx => ?_, ?_⟩
    · show some t1 = _; rw [e1]; exact congrArg some (own_pk2 r1 1)
    · obtain rfl : i = 0 := by omega
      cases hx; exact s0
    · have hx : x ∈ ([t2, t3, t4] : List Int32) := hx
      simp only [List.mem_cons, List.not_mem_nil, or_false] at hx
      rcases hx with rfl | rfl | rfl
      · rw [e2]; exact own_pk3 (by decide)
      · rw [e3]; exact own_pk3 (by decide)
      · rw [e4]; exact own_pk3 (by decide)
    · show own_put (own_put (own_put (own_put [] (own_n 1) 1 t1) (own_n 1) 2 t2) (own_n 1) 3 t3) (own_n 1) 4 t4 = own_encs [t2, t3, t4]
      rw [own_putT (p := own_n 1) (ii := 4) (by decide), own_putT (p := own_n 1) (ii := 3) (by decide), own_putT (p := own_n 1) (ii := 2) (by decide), own_putF (p := own_n 1) (ii := 1) (by decide)]; simp [own_encs]
  · have s0 : ¬ (t0 = (58 : Int32)) := by rw [e0]; exact own_pk1 (by decide)
    have s1 : ¬ (t1 = (58 : Int32)) := by rw [e1]; exact own_pk1 (by decide)
    refine ⟨?_, fun i x hi hx => ?_, fun x hx => ?_, ?_⟩
    · show some t2 = _; rw [e2]; exact congrArg some (own_pk2 r2 2)
    · rcases (by omega : i = 0 ∨ i = 1) with rfl | rfl
      · cases hx; exact s0
      · cases hx; exact s1
    · have hx : x ∈ ([t3, t4] : List Int32) := hx
      simp only [List.mem_cons, List.not_mem_nil, or_false] at hx
      rcases hx with rfl | rfl
      · rw [e3]; exact own_pk3 (by decide)
      · rw [e4]; exact own_pk3 (by decide)
    · show own_put (own_put (own_put (own_put [] (own_n 2) 1 t1) (own_n 2) 2 t2) (own_n 2) 3 t3) (own_n 2) 4 t4 = own_encs [t3, t4]
      rw [own_putT (p := own_n 2) (ii := 4) (by decide), own_putT (p := own_n 2) (ii := 3) (by decide), own_putF (p := own_n 2) (ii := 2) (by decide), own_putF (p := own_n 2) (ii := 1) (by decide)]; simp [own_encs]
  · have s0 : ¬ (t0 = (58 : Int32)) := by rw [e0]; exact own_pk1 (by decide)
    have s1 : ¬ (t1 = (58 : Int32)) := by rw [e1]; exact own_pk1 (by decide)
    have s2 : ¬ (t2 = (58 : Int32)) := by rw [e2]; exact own_pk1 (by decide)
    refine ⟨?_, fun i x hi hx => ?_, fun x hx => ?_, ?_⟩
    · show some t3 = _; rw [e3]; exact congrArg some (own_pk2 r3 3)
    · rcases (by omega : i = 0 ∨ i = 1 ∨ i = 2) with rfl | rfl | rfl
      · cases hx; exact s0
      · cases hx; exact s1
      · cases hx; exact s2
    · have hx : x ∈ ([t4] : List Int32) := hx
      simp only [List.mem_cons, List.not_mem_nil, or_false] at hx
      subst hx
      rw [e4]; exact own_pk3 (by decide)
    · show own_put (own_put (own_put (own_put [] (own_n 3) 1 t1) (own_n 3) 2 t2) (own_n 3) 3 t3) (own_n 3) 4 t4 = own_encs [t4]
      rw [own_putT (p := own_n 3) (ii := 4) (by decide), own_putF (p := own_n 3) (ii := 3) (by decide), own_putF (p := own_n 3) (ii := 2) (by decide), own_putF (p := own_n 3) (ii := 1) (by decide)]; simp [own_encs]
theorem own_si {t : Term} {k : Int32} {args : Array Value} {s : State} (h : (Jvm.Cond.eq t (.int k)).value args s none s [] = some true) : t.eval args s none [] s = some (.int k) := by
  obtain ⟨x, y, hx, hy, k1, k2⟩ := cmp_v (Or.inl h)
  have hy' : y = .int k := (Option.some.inj (hy.symm.trans (Term.int_eval k)))
  subst hy'
  cases x with
  | int z =>
    have e : (Jvm.Cond.eq t (.int k)).value args s none s [] = some (decide (z = k)) := by simp [Cond.value, hx, hy]
    have := gotT e h
    subst this
    exact hx
  | _ => simp [Kin] at k1 k2
theorem own_sr {t u : Term} {a b : Addr} {args : Array Value} {s : State} (ev : t.eval args s none [] s = some (.ref a)) (ev2 : u.eval args s none [] s = some (.ref b)) (h : (Jvm.Cond.eq t u).value args s none s [] = some true) : b = a := by
  have e := eq_R (args := args) (first := s) (o := none) (s := s) (idx := []) ev ev2 rfl rfl
  have := gotT e h
  cases this; rfl
theorem pd48 : parseMethodDescriptor "(CII)C" = some ⟨[.char, .int, .int], some .char⟩ := by decide +kernel
theorem pd49 : parseMethodDescriptor "([BI[CII)I" = some ⟨[(.array .byte), .int, (.array .char), .int, .int], some .int⟩ := by decide +kernel
theorem pd50 : parseMethodDescriptor "([C)V" = some ⟨[(.array .char)], none⟩ := by decide +kernel
theorem pd51 : parseMethodDescriptor "(Ljava/lang/String;)Lcom/example/treewarden/treewarden/session/Credential;" = some ⟨[(.object "java/lang/String")], some (.object "com/example/treewarden/treewarden/session/Credential")⟩ := by decide +kernel
theorem pd52 : parseMethodDescriptor "()Ljava/lang/String;" = some ⟨[], some (.object "java/lang/String")⟩ := by decide +kernel
theorem pd53 : parseMethodDescriptor "(I)C" = some ⟨[.int], some .char⟩ := by decide +kernel
theorem pd54 : parseMethodDescriptor "()[B" = some ⟨[], some (.array .byte)⟩ := by decide +kernel
theorem pd55 : parseMethodDescriptor "([B[BII)Z" = some ⟨[(.array .byte), (.array .byte), .int, .int], some .boolean⟩ := by decide +kernel
theorem ef_0 (m : MethodId) (x0 : Int32) (x1 : Int32) (x2 : Int32) : entryFrame m #[(.int x0), (.int x1), (.int x2)] maxLocals = mkF m 0 #[.val (.int x0), .val (.int x1), .val (.int x2), .unset, .unset, .unset, .unset, .unset, .unset, .unset, .unset, .unset] [] := by first | (simp [entryFrame, mkF, argsToLocals, Value.category, maxLocals]; done) | rfl
def Q0 (Z : State) (p0 : Int32) (p1 : Int32) (p2 : Int32) (cs : Int32) (fm : Value) (u8 : Addr) (h0 : Heap) (n0 : Nat) (v : Option Value) (h : Heap) (L : List Loc) : Prop := v = some (.int 1) ∧ Fr n0 L
theorem rm0 (l : Launch) (Z : State) (a0 : Array Value) (hw : ∀ d ∈ tables_1, d.before a0 Z = true) (ws : List Jvm.Cond) (p0 : Int32) (p1 : Int32) (p2 : Int32) (cs : Int32) (fm : Value) (u8 : Addr) (h0 : Heap) (n0 : Nat) (Z0 : n0 ≤ h0.size) (O0 : Old Z n0 h0) (S_cs : Sta Z Z.heap "java/lang/String" "COMPACT_STRINGS" "Z" (.int cs)) (hcs : ¬ (cs = (0 : Int32))) (S_fm : Sta Z Z.heap "jdk/internal/util/Preconditions" "SIOOBE_FORMATTER" "Ljava/util/function/BiFunction;" fm) (hr_fm : fm.isRef = true) (S_ad : Sta Z Z.heap "java/lang/StringUTF16" "$assertionsDisabled" "Z" (.int (1 : Int32))) (S_hi : Sta Z Z.heap "java/lang/StringUTF16" "HI_BYTE_SHIFT" "I" (.int (0 : Int32))) (S_lo : Sta Z Z.heap "java/lang/StringUTF16" "LO_BYTE_SHIFT" "I" (.int (8 : Int32))) (S_u8 : Sta Z Z.heap "java/nio/charset/StandardCharsets" "UTF_8" "Ljava/nio/charset/Charset;" (.ref u8)) (S_in8 : Sta Z Z.heap "sun/nio/cs/UTF_8" "INSTANCE" "Lsun/nio/cs/UTF_8;" (.ref u8)) :
    MetFree l x (head1 (Jvm.Cond.code x code maxLocals ret :: ws) room_1) (fun a U => a = #[(.int p0), (.int p1), (.int p2)] ∧ Z.Warmed39 U.vm ∧ U.heap = h0) (fun _ _ _ _ _ => True) (fun _ U o U' => ∃ v L, o = .returned v ∧ Q0 Z p0 p1 p2 cs fm u8 h0 n0 v U'.heap L ∧ FrameEnd U o U' L room_1.cells room_1.slots) := by
  refine own_start (C := "com/example/treewarden/treewarden/session/CredentialParsePinLaw") (Q := Q0 Z p0 p1 p2 cs fm u8 h0 n0) rfl (plainFor_of_name pn47) ?_
  intro p e s m below meth c s₁ g₀ hg₀ Bd hx hby hml hZ hown hnm X0 e0
  have N0 := Fr.nil n0
  have pre0 : ∀ t, Sx p e below s₁ (mkF m 0 #[iv p0, iv p1, iv p2, .unset, .unset, .unset, .unset, .unset, .unset, .unset, .unset, .unset] []) t → Sx p e below s₁ g₀ t := fun t k => by subst hg₀; exact castTop (ef_0 m p0 p1 p2) k
  obtain ⟨pp, h_pp⟩ : ∃ z : Int32, z = ((((p2.toUInt32 >>> ((16 : Int32) &&& 31).toUInt32).toInt32) % (3 : Int32)) + (1 : Int32)) := ⟨_, rfl⟩
  have pre1 : ∀ t, Sx p e below s₁ (mkF m 9 #[iv p0, iv p1, iv p2, iv pp, .unset, .unset, .unset, .unset, .unset, .unset, .unset, .unset] []) t → Sx p e below s₁ g₀ t := by
    intro t kt
    refine pre0 _ ?_
    refine XS.iloadN X0.here hx rfl (hb hby at_0) rfl ?_
    refine XS.bipush X0.here hx rfl (hb hby at_1) ?_
    refine XS.iushr X0.here hx rfl (hb hby at_3) rfl ?_
    refine XS.iconst X0.here hx rfl (hb hby at_4) ?_
    refine iremM X0 hx rfl (hb hby at_5) rfl (by decide) ?_
    show Sx p e below s₁ (mkF m 6 #[iv p0, iv p1, iv p2, .unset, .unset, .unset, .unset, .unset, .unset, .unset, .unset, .unset] [(.int (((p2.toUInt32 >>> ((16 : Int32) &&& 31).toUInt32).toInt32) % (3 : Int32)))]) _
    refine XS.iconst X0.here hx rfl (hb hby at_6) ?_
    refine XS.iadd X0.here hx rfl (hb hby at_7) rfl ?_
    refine XS.istoreN X0.here hx rfl (hb hby at_8) rfl (l' := #[iv p0, iv p1, iv p2, iv ((((p2.toUInt32 >>> ((16 : Int32) &&& 31).toUInt32).toInt32) % (3 : Int32)) + (1 : Int32)), .unset, .unset, .unset, .unset, .unset, .unset, .unset, .unset]) rfl ?_
    show Sx p e below s₁ (mkF m 9 #[iv p0, iv p1, iv p2, iv ((((p2.toUInt32 >>> ((16 : Int32) &&& 31).toUInt32).toInt32) % (3 : Int32)) + (1 : Int32)), .unset, .unset, .unset, .unset, .unset, .unset, .unset, .unset] []) _
    rw [← h_pp]
    exact kt
  obtain ⟨jj, hj1, hj3, hjp⟩ := own_pp p2
  have hjq : pp = own_n jj := h_pp.trans hjp
  subst hjq
  have pre2 : ∀ t, Sx p e below s₁ (mkF m 10 #[iv p0, iv p1, iv p2, iv (own_n jj), .unset, .unset, .unset, .unset, .unset, .unset, .unset, .unset] [(.int (5 : Int32))]) t → Sx p e below s₁ g₀ t := by
    intro t kt
    refine pre1 _ ?_
    refine XS.iconst X0.here hx rfl (hb hby at_9) ?_
    exact kt
  obtain ⟨T3, h3, k3, X3, e3, E3, A3, Ex3, st3⟩ := newPE X0 hx hZ (own_w hw 0 rfl) e0 (g := (mkF m 10 #[iv p0, iv p1, iv p2, iv (own_n jj), .unset, .unset, .unset, .unset, .unset, .unset, .unset, .unset] [(.int (5 : Int32))])) rfl (hb hby at_10) rfl (by decide) (cap := 5) (by decide) (by decide) (by decide) (by decide) (ad := "[C") rfl
  obtain ⟨b3, g3⟩ : ∃ z, z = h0.size := ⟨_, rfl⟩
  rw [← g3] at A3 Ex3 st3
  have g_b3 : n0 ≤ b3 := Nat.le_trans (Nat.le_trans Z0 (Keep.refl h0 []).1) (Nat.le_of_eq g3.symm)
  have sz_b3 : h0.size ≤ b3 := Nat.le_trans (Keep.refl h0 []).1 (Nat.le_of_eq g3.symm)
  have V_b3 : Arv Z h3 b3 k3 .char (5 : Int32) [(.int (0 : Int32)), (.int (0 : Int32)), (.int (0 : Int32)), (.int (0 : Int32)), (.int (0 : Int32))] (.int (0 : Int32)) := (Arv.new A3 (by decide)).pad (pad_rep [] (.int (0 : Int32)) 5)
  have K3 : Keep h0 h3 [] := (Keep.refl h0 []).ext E3
  have pre4 : ∀ t, Sx p e below T3 (mkF m 24 #[iv p0, iv p1, iv p2, iv (own_n jj), rv b3, .unset, .unset, .unset, .unset, .unset, .unset, .unset] [(.int (own_n jj)), (.int (0 : Int32)), (.int ((p0 &&& (65535 : Int32)).toUInt32.toUInt16.toUInt32.toInt32)), (.int (0 : Int32)), (.ref b3)]) t → Sx p e below s₁ g₀ t := by
    intro t kt
    refine pre2 _ ?_
    refine st3 _ ?_
    show Sx p e below T3 (mkF m 12 #[iv p0, iv p1, iv p2, iv (own_n jj), .unset, .unset, .unset, .unset, .unset, .unset, .unset, .unset] [(.ref b3)]) _
    refine XS.astore X3.here hx rfl (hb hby at_12) rfl rfl (l' := #[iv p0, iv p1, iv p2, iv (own_n jj), rv b3, .unset, .unset, .unset, .unset, .unset, .unset, .unset]) rfl ?_
    refine XS.aload X3.here hx rfl (hb hby at_14) rfl rfl ?_
    refine XS.iconst X3.here hx rfl (hb hby at_16) ?_
    refine XS.iloadN X3.here hx rfl (hb hby at_17) rfl ?_
    refine X3.ldcInt hx hown (mvT hZ (own_w hw 1 rfl)) (g := (mkF m 18 #[iv p0, iv p1, iv p2, iv (own_n jj), rv b3, .unset, .unset, .unset, .unset, .unset, .unset, .unset] [(.int p0), (.int (0 : Int32)), (.ref b3)])) rfl (hb hby at_18) _ ?_
    show Sx p e below T3 (mkF m 20 #[iv p0, iv p1, iv p2, iv (own_n jj), rv b3, .unset, .unset, .unset, .unset, .unset, .unset, .unset] [(.int (65535 : Int32)), (.int p0), (.int (0 : Int32)), (.ref b3)]) _
    refine XS.iand X3.here hx rfl (hb hby at_20) rfl ?_
    refine XS.i2c X3.here hx rfl (hb hby at_21) rfl ?_
    refine XS.iconst X3.here hx rfl (hb hby at_22) ?_
    refine XS.iloadN X3.here hx rfl (hb hby at_23) rfl ?_
    exact kt
  obtain ⟨_, T5, Lc5, X5, hQ5, st5⟩ := own_cS X3 hx hZ (y := Y58) hown (own_w hw 2 rfl) (own_w hw 3 rfl) (own_w hw 4 rfl) (own_w hw 5 rfl) (by decide) (W := 2) (rm1 l Z a0 hw [] ((p0 &&& (65535 : Int32)).toUInt32.toUInt16.toUInt32.toInt32) (0 : Int32) (own_n jj) h3 n0 (Nat.le_trans Z0 K3.1) (own_chC _)) (by decide) (by decide) (g := (mkF m 24 #[iv p0, iv p1, iv p2, iv (own_n jj), rv b3, .unset, .unset, .unset, .unset, .unset, .unset, .unset] [(.int (own_n jj)), (.int (0 : Int32)), (.int ((p0 &&& (65535 : Int32)).toUInt32.toUInt16.toUInt32.toInt32)), (.int (0 : Int32)), (.ref b3)])) rfl hml.symm (argsL := [(.int ((p0 &&& (65535 : Int32)).toUInt32.toUInt16.toUInt32.toInt32)), (.int (0 : Int32)), (.int (own_n jj))]) (rest := [(.int (0 : Int32)), (.ref b3)]) (lenOf pd48 rfl) rfl (Nat.le_of_eq rfl) (hb hby at_24) rfl e3 (by decide) (by decide)
  obtain ⟨rfl, N5q, hh5⟩ := hQ5
  have N5 := Fr.app N0 N5q
  have pre6 : ∀ t, Sx p e below T5 (mkF m 27 #[iv p0, iv p1, iv p2, iv (own_n jj), rv b3, .unset, .unset, .unset, .unset, .unset, .unset, .unset] [(.int (own_pick ((p0 &&& (65535 : Int32)).toUInt32.toUInt16.toUInt32.toInt32) (0 : Int32) (own_n jj))), (.int (0 : Int32)), (.ref b3)]) t → Sx p e below s₁ g₀ t := by
    intro t kt
    refine pre4 _ ?_
    refine st5 _ ?_
    exact kt
  obtain ⟨t0, h_t0⟩ : ∃ z : Int32, z = (own_pick ((p0 &&& (65535 : Int32)).toUInt32.toUInt16.toUInt32.toInt32) (0 : Int32) (own_n jj)) := ⟨_, rfl⟩
  have hch_t0 : own_ch t0 := by rw [h_t0]; exact own_pickc (own_chC _) _ _
  have pre7 : ∀ t, Sx p e below T5 (mkF m 27 #[iv p0, iv p1, iv p2, iv (own_n jj), rv b3, .unset, .unset, .unset, .unset, .unset, .unset, .unset] [(.int t0), (.int (0 : Int32)), (.ref b3)]) t → Sx p e below s₁ g₀ t := by rw [h_t0]; exact pre6
  obtain ⟨cl8, Ar8, q8, S8, M8, H8, G8⟩ := id V_b3
  have hin8 : ¬ ((0 : Int32) < 0 ∨ cl8.slots.size ≤ ((0 : Int32)).toNatClampNeg) := inb_of S8 ⟨by decide, by decide⟩
  obtain ⟨T8, h8, X8, e8, W8, st8⟩ := stC X5 hx hZ hh5 Ar8 (j := (0 : Int32)) hin8 (g := (mkF m 27 #[iv p0, iv p1, iv p2, iv (own_n jj), rv b3, .unset, .unset, .unset, .unset, .unset, .unset, .unset] [(.int t0), (.int (0 : Int32)), (.ref b3)])) rfl rfl (hb hby at_27)
  have nn8 : nar .char t0 = t0 := (own_nrc t0 hch_t0)
  rw [nn8] at W8
  have V8 : Arv Z h8 b3 k3 .char (5 : Int32) [(.int t0), (.int (0 : Int32)), (.int (0 : Int32)), (.int (0 : Int32)), (.int (0 : Int32))] (.int (0 : Int32)) := Arv.set Ar8 q8 S8 M8 H8 G8 (own_fc nn8) W8 0 rfl (Nat.le_of_ble_eq_true rfl)
  have K8 : Keep h0 h8 [] := K3.wr W8 (Or.inr sz_b3)
  have N8 := Fr.snoc X8 N5 g_b3
  have pre9 : ∀ t, Sx p e below T8 (mkF m 38 #[iv p0, iv p1, iv p2, iv (own_n jj), rv b3, .unset, .unset, .unset, .unset, .unset, .unset, .unset] [(.int (own_n jj)), (.int (1 : Int32)), (.int (((p0.toUInt32 >>> ((16 : Int32) &&& 31).toUInt32).toInt32).toUInt32.toUInt16.toUInt32.toInt32)), (.int (1 : Int32)), (.ref b3)]) t → Sx p e below s₁ g₀ t := by
    intro t kt
    refine pre7 _ ?_
    refine st8 _ ?_
    show Sx p e below T8 (mkF m 28 #[iv p0, iv p1, iv p2, iv (own_n jj), rv b3, .unset, .unset, .unset, .unset, .unset, .unset, .unset] []) _
    refine XS.aload X8.here hx rfl (hb hby at_28) rfl rfl ?_
    refine XS.iconst X8.here hx rfl (hb hby at_30) ?_
    refine XS.iloadN X8.here hx rfl (hb hby at_31) rfl ?_
    refine XS.bipush X8.here hx rfl (hb hby at_32) ?_
    refine XS.iushr X8.here hx rfl (hb hby at_34) rfl ?_
    refine XS.i2c X8.here hx rfl (hb hby at_35) rfl ?_
    refine XS.iconst X8.here hx rfl (hb hby at_36) ?_
    refine XS.iloadN X8.here hx rfl (hb hby at_37) rfl ?_
    exact kt
  obtain ⟨_, T10, Lc10, X10, hQ10, st10⟩ := own_cS X8 hx hZ (y := Y58) hown (own_w hw 2 rfl) (own_w hw 3 rfl) (own_w hw 4 rfl) (own_w hw 5 rfl) (by decide) (W := 2) (rm1 l Z a0 hw [] (((p0.toUInt32 >>> ((16 : Int32) &&& 31).toUInt32).toInt32).toUInt32.toUInt16.toUInt32.toInt32) (1 : Int32) (own_n jj) h8 n0 (Nat.le_trans Z0 K8.1) (own_chC _)) (by decide) (by decide) (g := (mkF m 38 #[iv p0, iv p1, iv p2, iv (own_n jj), rv b3, .unset, .unset, .unset, .unset, .unset, .unset, .unset] [(.int (own_n jj)), (.int (1 : Int32)), (.int (((p0.toUInt32 >>> ((16 : Int32) &&& 31).toUInt32).toInt32).toUInt32.toUInt16.toUInt32.toInt32)), (.int (1 : Int32)), (.ref b3)])) rfl hml.symm (argsL := [(.int (((p0.toUInt32 >>> ((16 : Int32) &&& 31).toUInt32).toInt32).toUInt32.toUInt16.toUInt32.toInt32)), (.int (1 : Int32)), (.int (own_n jj))]) (rest := [(.int (1 : Int32)), (.ref b3)]) (lenOf pd48 rfl) rfl (Nat.le_of_eq rfl) (hb hby at_38) rfl e8 (by decide) (by decide)
  obtain ⟨rfl, N10q, hh10⟩ := hQ10
  have N10 := Fr.app N8 N10q
  have pre11 : ∀ t, Sx p e below T10 (mkF m 41 #[iv p0, iv p1, iv p2, iv (own_n jj), rv b3, .unset, .unset, .unset, .unset, .unset, .unset, .unset] [(.int (own_pick (((p0.toUInt32 >>> ((16 : Int32) &&& 31).toUInt32).toInt32).toUInt32.toUInt16.toUInt32.toInt32) (1 : Int32) (own_n jj))), (.int (1 : Int32)), (.ref b3)]) t → Sx p e below s₁ g₀ t := by
    intro t kt
    refine pre9 _ ?_
    refine st10 _ ?_
    exact kt
  obtain ⟨t1, h_t1⟩ : ∃ z : Int32, z = (own_pick (((p0.toUInt32 >>> ((16 : Int32) &&& 31).toUInt32).toInt32).toUInt32.toUInt16.toUInt32.toInt32) (1 : Int32) (own_n jj)) := ⟨_, rfl⟩
  have hch_t1 : own_ch t1 := by rw [h_t1]; exact own_pickc (own_chC _) _ _
  have pre12 : ∀ t, Sx p e below T10 (mkF m 41 #[iv p0, iv p1, iv p2, iv (own_n jj), rv b3, .unset, .unset, .unset, .unset, .unset, .unset, .unset] [(.int t1), (.int (1 : Int32)), (.ref b3)]) t → Sx p e below s₁ g₀ t := by rw [h_t1]; exact pre11
  obtain ⟨cl13, Ar13, q13, S13, M13, H13, G13⟩ := id V8
  have hin13 : ¬ ((1 : Int32) < 0 ∨ cl13.slots.size ≤ ((1 : Int32)).toNatClampNeg) := inb_of S13 ⟨by decide, by decide⟩
  obtain ⟨T13, h13, X13, e13, W13, st13⟩ := stC X10 hx hZ hh10 Ar13 (j := (1 : Int32)) hin13 (g := (mkF m 41 #[iv p0, iv p1, iv p2, iv (own_n jj), rv b3, .unset, .unset, .unset, .unset, .unset, .unset, .unset] [(.int t1), (.int (1 : Int32)), (.ref b3)])) rfl rfl (hb hby at_41)
  have nn13 : nar .char t1 = t1 := (own_nrc t1 hch_t1)
  rw [nn13] at W13
  have V13 : Arv Z h13 b3 k3 .char (5 : Int32) [(.int t0), (.int t1), (.int (0 : Int32)), (.int (0 : Int32)), (.int (0 : Int32))] (.int (0 : Int32)) := Arv.set Ar13 q13 S13 M13 H13 G13 (own_fc nn13) W13 1 rfl (Nat.le_of_ble_eq_true rfl)
  have K13 : Keep h0 h13 [] := K8.wr W13 (Or.inr sz_b3)
  have N13 := Fr.snoc X13 N10 g_b3
  have pre14 : ∀ t, Sx p e below T13 (mkF m 52 #[iv p0, iv p1, iv p2, iv (own_n jj), rv b3, .unset, .unset, .unset, .unset, .unset, .unset, .unset] [(.int (own_n jj)), (.int (2 : Int32)), (.int ((p1 &&& (65535 : Int32)).toUInt32.toUInt16.toUInt32.toInt32)), (.int (2 : Int32)), (.ref b3)]) t → Sx p e below s₁ g₀ t := by
    intro t kt
    refine pre12 _ ?_
    refine st13 _ ?_
    show Sx p e below T13 (mkF m 42 #[iv p0, iv p1, iv p2, iv (own_n jj), rv b3, .unset, .unset, .unset, .unset, .unset, .unset, .unset] []) _
    refine XS.aload X13.here hx rfl (hb hby at_42) rfl rfl ?_
    refine XS.iconst X13.here hx rfl (hb hby at_44) ?_
    refine XS.iloadN X13.here hx rfl (hb hby at_45) rfl ?_
    refine X13.ldcInt hx hown (mvT hZ (own_w hw 1 rfl)) (g := (mkF m 46 #[iv p0, iv p1, iv p2, iv (own_n jj), rv b3, .unset, .unset, .unset, .unset, .unset, .unset, .unset] [(.int p1), (.int (2 : Int32)), (.ref b3)])) rfl (hb hby at_46) _ ?_
    show Sx p e below T13 (mkF m 48 #[iv p0, iv p1, iv p2, iv (own_n jj), rv b3, .unset, .unset, .unset, .unset, .unset, .unset, .unset] [(.int (65535 : Int32)), (.int p1), (.int (2 : Int32)), (.ref b3)]) _
    refine XS.iand X13.here hx rfl (hb hby at_48) rfl ?_
    refine XS.i2c X13.here hx rfl (hb hby at_49) rfl ?_
    refine XS.iconst X13.here hx rfl (hb hby at_50) ?_
    refine XS.iloadN X13.here hx rfl (hb hby at_51) rfl ?_
    exact kt
  obtain ⟨_, T15, Lc15, X15, hQ15, st15⟩ := own_cS X13 hx hZ (y := Y58) hown (own_w hw 2 rfl) (own_w hw 3 rfl) (own_w hw 4 rfl) (own_w hw 5 rfl) (by decide) (W := 2) (rm1 l Z a0 hw [] ((p1 &&& (65535 : Int32)).toUInt32.toUInt16.toUInt32.toInt32) (2 : Int32) (own_n jj) h13 n0 (Nat.le_trans Z0 K13.1) (own_chC _)) (by decide) (by decide) (g := (mkF m 52 #[iv p0, iv p1, iv p2, iv (own_n jj), rv b3, .unset, .unset, .unset, .unset, .unset, .unset, .unset] [(.int (own_n jj)), (.int (2 : Int32)), (.int ((p1 &&& (65535 : Int32)).toUInt32.toUInt16.toUInt32.toInt32)), (.int (2 : Int32)), (.ref b3)])) rfl hml.symm (argsL := [(.int ((p1 &&& (65535 : Int32)).toUInt32.toUInt16.toUInt32.toInt32)), (.int (2 : Int32)), (.int (own_n jj))]) (rest := [(.int (2 : Int32)), (.ref b3)]) (lenOf pd48 rfl) rfl (Nat.le_of_eq rfl) (hb hby at_52) rfl e13 (by decide) (by decide)
  obtain ⟨rfl, N15q, hh15⟩ := hQ15
  have N15 := Fr.app N13 N15q
  have pre16 : ∀ t, Sx p e below T15 (mkF m 55 #[iv p0, iv p1, iv p2, iv (own_n jj), rv b3, .unset, .unset, .unset, .unset, .unset, .unset, .unset] [(.int (own_pick ((p1 &&& (65535 : Int32)).toUInt32.toUInt16.toUInt32.toInt32) (2 : Int32) (own_n jj))), (.int (2 : Int32)), (.ref b3)]) t → Sx p e below s₁ g₀ t := by
    intro t kt
    refine pre14 _ ?_
    refine st15 _ ?_
    exact kt
  obtain ⟨t2, h_t2⟩ : ∃ z : Int32, z = (own_pick ((p1 &&& (65535 : Int32)).toUInt32.toUInt16.toUInt32.toInt32) (2 : Int32) (own_n jj)) := ⟨_, rfl⟩
  have hch_t2 : own_ch t2 := by rw [h_t2]; exact own_pickc (own_chC _) _ _
  have pre17 : ∀ t, Sx p e below T15 (mkF m 55 #[iv p0, iv p1, iv p2, iv (own_n jj), rv b3, .unset, .unset, .unset, .unset, .unset, .unset, .unset] [(.int t2), (.int (2 : Int32)), (.ref b3)]) t → Sx p e below s₁ g₀ t := by rw [h_t2]; exact pre16
  obtain ⟨cl18, Ar18, q18, S18, M18, H18, G18⟩ := id V13
  have hin18 : ¬ ((2 : Int32) < 0 ∨ cl18.slots.size ≤ ((2 : Int32)).toNatClampNeg) := inb_of S18 ⟨by decide, by decide⟩
  obtain ⟨T18, h18, X18, e18, W18, st18⟩ := stC X15 hx hZ hh15 Ar18 (j := (2 : Int32)) hin18 (g := (mkF m 55 #[iv p0, iv p1, iv p2, iv (own_n jj), rv b3, .unset, .unset, .unset, .unset, .unset, .unset, .unset] [(.int t2), (.int (2 : Int32)), (.ref b3)])) rfl rfl (hb hby at_55)
  have nn18 : nar .char t2 = t2 := (own_nrc t2 hch_t2)
  rw [nn18] at W18
  have V18 : Arv Z h18 b3 k3 .char (5 : Int32) [(.int t0), (.int t1), (.int t2), (.int (0 : Int32)), (.int (0 : Int32))] (.int (0 : Int32)) := Arv.set Ar18 q18 S18 M18 H18 G18 (own_fc nn18) W18 2 rfl (Nat.le_of_ble_eq_true rfl)
  have K18 : Keep h0 h18 [] := K13.wr W18 (Or.inr sz_b3)
  have N18 := Fr.snoc X18 N15 g_b3
  have pre19 : ∀ t, Sx p e below T18 (mkF m 66 #[iv p0, iv p1, iv p2, iv (own_n jj), rv b3, .unset, .unset, .unset, .unset, .unset, .unset, .unset] [(.int (own_n jj)), (.int (3 : Int32)), (.int (((p1.toUInt32 >>> ((16 : Int32) &&& 31).toUInt32).toInt32).toUInt32.toUInt16.toUInt32.toInt32)), (.int (3 : Int32)), (.ref b3)]) t → Sx p e below s₁ g₀ t := by
    intro t kt
    refine pre17 _ ?_
    refine st18 _ ?_
    show Sx p e below T18 (mkF m 56 #[iv p0, iv p1, iv p2, iv (own_n jj), rv b3, .unset, .unset, .unset, .unset, .unset, .unset, .unset] []) _
    refine XS.aload X18.here hx rfl (hb hby at_56) rfl rfl ?_
    refine XS.iconst X18.here hx rfl (hb hby at_58) ?_
    refine XS.iloadN X18.here hx rfl (hb hby at_59) rfl ?_
    refine XS.bipush X18.here hx rfl (hb hby at_60) ?_
    refine XS.iushr X18.here hx rfl (hb hby at_62) rfl ?_
    refine XS.i2c X18.here hx rfl (hb hby at_63) rfl ?_
    refine XS.iconst X18.here hx rfl (hb hby at_64) ?_
    refine XS.iloadN X18.here hx rfl (hb hby at_65) rfl ?_
    exact kt
  have f20 := (((Ex3.wr W8).wr W13).wr W18)
  obtain ⟨_, T21, Lc21, X21, hQ21, st21⟩ := own_cS X18 hx hZ (y := Y58) hown (own_w hw 2 rfl) (own_w hw 3 rfl) (own_w hw 4 rfl) (own_w hw 5 rfl) (by decide) (W := 2) (rm1 l Z a0 hw [] (((p1.toUInt32 >>> ((16 : Int32) &&& 31).toUInt32).toInt32).toUInt32.toUInt16.toUInt32.toInt32) (3 : Int32) (own_n jj) h18 n0 (Nat.le_trans Z0 K18.1) (own_chC _)) (by decide) (by decide) (g := (mkF m 66 #[iv p0, iv p1, iv p2, iv (own_n jj), rv b3, .unset, .unset, .unset, .unset, .unset, .unset, .unset] [(.int (own_n jj)), (.int (3 : Int32)), (.int (((p1.toUInt32 >>> ((16 : Int32) &&& 31).toUInt32).toInt32).toUInt32.toUInt16.toUInt32.toInt32)), (.int (3 : Int32)), (.ref b3)])) rfl hml.symm (argsL := [(.int (((p1.toUInt32 >>> ((16 : Int32) &&& 31).toUInt32).toInt32).toUInt32.toUInt16.toUInt32.toInt32)), (.int (3 : Int32)), (.int (own_n jj))]) (rest := [(.int (3 : Int32)), (.ref b3)]) (lenOf pd48 rfl) rfl (Nat.le_of_eq rfl) (hb hby at_66) rfl e18 (by decide) (by decide)
  obtain ⟨rfl, N21q, hh21⟩ := hQ21
  have N21 := Fr.app N18 N21q
  have pre22 : ∀ t, Sx p e below T21 (mkF m 69 #[iv p0, iv p1, iv p2, iv (own_n jj), rv b3, .unset, .unset, .unset, .unset, .unset, .unset, .unset] [(.int (own_pick (((p1.toUInt32 >>> ((16 : Int32) &&& 31).toUInt32).toInt32).toUInt32.toUInt16.toUInt32.toInt32) (3 : Int32) (own_n jj))), (.int (3 : Int32)), (.ref b3)]) t → Sx p e below s₁ g₀ t := by
    intro t kt
    refine pre19 _ ?_
    refine st21 _ ?_
    exact kt
  obtain ⟨t3, h_t3⟩ : ∃ z : Int32, z = (own_pick (((p1.toUInt32 >>> ((16 : Int32) &&& 31).toUInt32).toInt32).toUInt32.toUInt16.toUInt32.toInt32) (3 : Int32) (own_n jj)) := ⟨_, rfl⟩
  have hch_t3 : own_ch t3 := by rw [h_t3]; exact own_pickc (own_chC _) _ _
  have pre23 : ∀ t, Sx p e below T21 (mkF m 69 #[iv p0, iv p1, iv p2, iv (own_n jj), rv b3, .unset, .unset, .unset, .unset, .unset, .unset, .unset] [(.int t3), (.int (3 : Int32)), (.ref b3)]) t → Sx p e below s₁ g₀ t := by rw [h_t3]; exact pre22
  obtain ⟨cl24, Ar24, q24, S24, M24, H24, G24⟩ := id V18
  have hin24 : ¬ ((3 : Int32) < 0 ∨ cl24.slots.size ≤ ((3 : Int32)).toNatClampNeg) := inb_of S24 ⟨by decide, by decide⟩
  obtain ⟨T24, h24, X24, e24, W24, st24⟩ := stC X21 hx hZ hh21 Ar24 (j := (3 : Int32)) hin24 (g := (mkF m 69 #[iv p0, iv p1, iv p2, iv (own_n jj), rv b3, .unset, .unset, .unset, .unset, .unset, .unset, .unset] [(.int t3), (.int (3 : Int32)), (.ref b3)])) rfl rfl (hb hby at_69)
  have nn24 : nar .char t3 = t3 := (own_nrc t3 hch_t3)
  rw [nn24] at W24
  have V24 : Arv Z h24 b3 k3 .char (5 : Int32) [(.int t0), (.int t1), (.int t2), (.int t3), (.int (0 : Int32))] (.int (0 : Int32)) := Arv.set Ar24 q24 S24 M24 H24 G24 (own_fc nn24) W24 3 rfl (Nat.le_of_ble_eq_true rfl)
  have K24 : Keep h0 h24 [] := K18.wr W24 (Or.inr sz_b3)
  have N24 := Fr.snoc X24 N21 g_b3
  have pre25 : ∀ t, Sx p e below T24 (mkF m 80 #[iv p0, iv p1, iv p2, iv (own_n jj), rv b3, .unset, .unset, .unset, .unset, .unset, .unset, .unset] [(.int (own_n jj)), (.int (4 : Int32)), (.int ((p2 &&& (65535 : Int32)).toUInt32.toUInt16.toUInt32.toInt32)), (.int (4 : Int32)), (.ref b3)]) t → Sx p e below s₁ g₀ t := by
    intro t kt
    refine pre23 _ ?_
    refine st24 _ ?_
    show Sx p e below T24 (mkF m 70 #[iv p0, iv p1, iv p2, iv (own_n jj), rv b3, .unset, .unset, .unset, .unset, .unset, .unset, .unset] []) _
    refine XS.aload X24.here hx rfl (hb hby at_70) rfl rfl ?_
    refine XS.iconst X24.here hx rfl (hb hby at_72) ?_
    refine XS.iloadN X24.here hx rfl (hb hby at_73) rfl ?_
    refine X24.ldcInt hx hown (mvT hZ (own_w hw 1 rfl)) (g := (mkF m 74 #[iv p0, iv p1, iv p2, iv (own_n jj), rv b3, .unset, .unset, .unset, .unset, .unset, .unset, .unset] [(.int p2), (.int (4 : Int32)), (.ref b3)])) rfl (hb hby at_74) _ ?_
    show Sx p e below T24 (mkF m 76 #[iv p0, iv p1, iv p2, iv (own_n jj), rv b3, .unset, .unset, .unset, .unset, .unset, .unset, .unset] [(.int (65535 : Int32)), (.int p2), (.int (4 : Int32)), (.ref b3)]) _
    refine XS.iand X24.here hx rfl (hb hby at_76) rfl ?_
    refine XS.i2c X24.here hx rfl (hb hby at_77) rfl ?_
    refine XS.iconst X24.here hx rfl (hb hby at_78) ?_
    refine XS.iloadN X24.here hx rfl (hb hby at_79) rfl ?_
    exact kt
  obtain ⟨_, T26, Lc26, X26, hQ26, st26⟩ := own_cS X24 hx hZ (y := Y58) hown (own_w hw 2 rfl) (own_w hw 3 rfl) (own_w hw 4 rfl) (own_w hw 5 rfl) (by decide) (W := 2) (rm1 l Z a0 hw [] ((p2 &&& (65535 : Int32)).toUInt32.toUInt16.toUInt32.toInt32) (4 : Int32) (own_n jj) h24 n0 (Nat.le_trans Z0 K24.1) (own_chC _)) (by decide) (by decide) (g := (mkF m 80 #[iv p0, iv p1, iv p2, iv (own_n jj), rv b3, .unset, .unset, .unset, .unset, .unset, .unset, .unset] [(.int (own_n jj)), (.int (4 : Int32)), (.int ((p2 &&& (65535 : Int32)).toUInt32.toUInt16.toUInt32.toInt32)), (.int (4 : Int32)), (.ref b3)])) rfl hml.symm (argsL := [(.int ((p2 &&& (65535 : Int32)).toUInt32.toUInt16.toUInt32.toInt32)), (.int (4 : Int32)), (.int (own_n jj))]) (rest := [(.int (4 : Int32)), (.ref b3)]) (lenOf pd48 rfl) rfl (Nat.le_of_eq rfl) (hb hby at_80) rfl e24 (by decide) (by decide)
  obtain ⟨rfl, N26q, hh26⟩ := hQ26
  have N26 := Fr.app N24 N26q
  have pre27 : ∀ t, Sx p e below T26 (mkF m 83 #[iv p0, iv p1, iv p2, iv (own_n jj), rv b3, .unset, .unset, .unset, .unset, .unset, .unset, .unset] [(.int (own_pick ((p2 &&& (65535 : Int32)).toUInt32.toUInt16.toUInt32.toInt32) (4 : Int32) (own_n jj))), (.int (4 : Int32)), (.ref b3)]) t → Sx p e below s₁ g₀ t := by
    intro t kt
    refine pre25 _ ?_
    refine st26 _ ?_
    exact kt
  obtain ⟨t4, h_t4⟩ : ∃ z : Int32, z = (own_pick ((p2 &&& (65535 : Int32)).toUInt32.toUInt16.toUInt32.toInt32) (4 : Int32) (own_n jj)) := ⟨_, rfl⟩
  have hch_t4 : own_ch t4 := by rw [h_t4]; exact own_pickc (own_chC _) _ _
  have pre28 : ∀ t, Sx p e below T26 (mkF m 83 #[iv p0, iv p1, iv p2, iv (own_n jj), rv b3, .unset, .unset, .unset, .unset, .unset, .unset, .unset] [(.int t4), (.int (4 : Int32)), (.ref b3)]) t → Sx p e below s₁ g₀ t := by rw [h_t4]; exact pre27
  obtain ⟨cl29, Ar29, q29, S29, M29, H29, G29⟩ := id V24
  have hin29 : ¬ ((4 : Int32) < 0 ∨ cl29.slots.size ≤ ((4 : Int32)).toNatClampNeg) := inb_of S29 ⟨by decide, by decide⟩
  obtain ⟨T29, h29, X29, e29, W29, st29⟩ := stC X26 hx hZ hh26 Ar29 (j := (4 : Int32)) hin29 (g := (mkF m 83 #[iv p0, iv p1, iv p2, iv (own_n jj), rv b3, .unset, .unset, .unset, .unset, .unset, .unset, .unset] [(.int t4), (.int (4 : Int32)), (.ref b3)])) rfl rfl (hb hby at_83)
  have nn29 : nar .char t4 = t4 := (own_nrc t4 hch_t4)
  rw [nn29] at W29
  have V29 : Arv Z h29 b3 k3 .char (5 : Int32) [(.int t0), (.int t1), (.int t2), (.int t3), (.int t4)] (.int (0 : Int32)) := Arv.set Ar29 q29 S29 M29 H29 G29 (own_fc nn29) W29 4 rfl (Nat.le_of_ble_eq_true rfl)
  have K29 : Keep h0 h29 [] := K24.wr W29 (Or.inr sz_b3)
  have N29 := Fr.snoc X29 N26 g_b3
  have pre30 : ∀ t, Sx p e below T29 (mkF m 86 #[iv p0, iv p1, iv p2, iv (own_n jj), rv b3, .unset, .unset, .unset, .unset, .unset, .unset, .unset] [(.int (12 : Int32))]) t → Sx p e below s₁ g₀ t := by
    intro t kt
    refine pre28 _ ?_
    refine st29 _ ?_
    show Sx p e below T29 (mkF m 84 #[iv p0, iv p1, iv p2, iv (own_n jj), rv b3, .unset, .unset, .unset, .unset, .unset, .unset, .unset] []) _
    refine XS.bipush X29.here hx rfl (hb hby at_84) ?_
    exact kt
  obtain ⟨T31, h31, k31, X31, e31, E31, A31, Ex31, st31⟩ := newPE X29 hx hZ (own_w hw 7 rfl) e29 (g := (mkF m 86 #[iv p0, iv p1, iv p2, iv (own_n jj), rv b3, .unset, .unset, .unset, .unset, .unset, .unset, .unset] [(.int (12 : Int32))])) rfl (hb hby at_86) rfl (by decide) (cap := 12) (by decide) (by decide) (by decide) (by decide) (ad := "[B") rfl
  obtain ⟨b31, g31⟩ : ∃ z, z = h29.size := ⟨_, rfl⟩
  rw [← g31] at A31 Ex31 st31
  have g_b31 : n0 ≤ b31 := Nat.le_trans (Nat.le_trans Z0 K29.1) (Nat.le_of_eq g31.symm)
  have sz_b31 : h0.size ≤ b31 := Nat.le_trans K29.1 (Nat.le_of_eq g31.symm)
  have V_b31 : Arv Z h31 b31 k31 .byte (12 : Int32) [(.int (0 : Int32)), (.int (0 : Int32)), (.int (0 : Int32)), (.int (0 : Int32)), (.int (0 : Int32)), (.int (0 : Int32)), (.int (0 : Int32)), (.int (0 : Int32)), (.int (0 : Int32)), (.int (0 : Int32)), (.int (0 : Int32)), (.int (0 : Int32))] (.int (0 : Int32)) := (Arv.new A31 (by decide)).pad (pad_rep [] (.int (0 : Int32)) 12)
  have K31 : Keep h0 h31 [] := K29.ext E31
  have pre32 : ∀ t, Sx p e below T31 (mkF m 101 #[iv p0, iv p1, iv p2, iv (own_n jj), rv b3, rv b31, iv (0 : Int32), .unset, .unset, .unset, .unset, .unset] [(.int (own_n jj)), (.int (1 : Int32)), (.ref b3), (.int (0 : Int32)), (.ref b31)]) t → Sx p e below s₁ g₀ t := by
    intro t kt
    refine pre30 _ ?_
    refine st31 _ ?_
    show Sx p e below T31 (mkF m 88 #[iv p0, iv p1, iv p2, iv (own_n jj), rv b3, .unset, .unset, .unset, .unset, .unset, .unset, .unset] [(.ref b31)]) _
    refine XS.astore X31.here hx rfl (hb hby at_88) rfl rfl (l' := #[iv p0, iv p1, iv p2, iv (own_n jj), rv b3, rv b31, .unset, .unset, .unset, .unset, .unset, .unset]) rfl ?_
    refine XS.iconst X31.here hx rfl (hb hby at_90) ?_
    refine XS.istore X31.here hx rfl (hb hby at_91) rfl (l' := #[iv p0, iv p1, iv p2, iv (own_n jj), rv b3, rv b31, iv (0 : Int32), .unset, .unset, .unset, .unset, .unset]) rfl ?_
    refine XS.aload X31.here hx rfl (hb hby at_93) rfl rfl ?_
    refine XS.iload X31.here hx rfl (hb hby at_95) rfl ?_
    refine XS.aload X31.here hx rfl (hb hby at_97) rfl rfl ?_
    refine XS.iconst X31.here hx rfl (hb hby at_99) ?_
    refine XS.iloadN X31.here hx rfl (hb hby at_100) rfl ?_
    exact kt
  have f33 := (((f20.wr W24).wr W29).ext E31)
  obtain ⟨_, T34, Lc34, X34, hQ34, st34⟩ := own_cS X31 hx hZ (y := Y59) hown (own_w hw 8 rfl) (own_w hw 9 rfl) (own_w hw 4 rfl) (own_w hw 10 rfl) (by decide) (W := 0) (rm2 l Z a0 hw [] b31 b3 (own_n jj) k31 k3 [] [t0, t1, t2, t3, t4] 1 t1 h31 n0 (Nat.le_trans Z0 K31.1) (V_b31.pad (fun i => (pad_rep [] (.int (0 : Int32)) 12 i).symm)) g_b31 (V29.ext E31) (Exa.ne f33 Ex31 (by decide)) rfl (Nat.le_of_ble_eq_true rfl) (Nat.le_of_ble_eq_true rfl) (Nat.le_of_ble_eq_true rfl)) (by decide) (by decide) (g := (mkF m 101 #[iv p0, iv p1, iv p2, iv (own_n jj), rv b3, rv b31, iv (0 : Int32), .unset, .unset, .unset, .unset, .unset] [(.int (own_n jj)), (.int (1 : Int32)), (.ref b3), (.int (0 : Int32)), (.ref b31)])) rfl hml.symm (argsL := [(.ref b31), (.int (0 : Int32)), (.ref b3), (.int (1 : Int32)), (.int (own_n jj))]) (rest := []) (lenOf pd49 rfl) rfl (Nat.le_of_eq rfl) (hb hby at_101) rfl e31 (by decide) (by decide)
  obtain ⟨rfl, N34q, Kc34, Vp34⟩ := hQ34
  have N34 := Fr.app N29 N34q
  have K34 : Keep h0 T34.heap [] := K31.trans Kc34 (allS (Or.inr sz_b31) all0)
  have pre35 : ∀ t, Sx p e below T34 (mkF m 114 #[iv p0, iv p1, iv p2, iv (own_n jj), rv b3, rv b31, iv (own_len (own_g1 jj t1)), .unset, .unset, .unset, .unset, .unset] [(.int (own_n jj)), (.int (2 : Int32)), (.ref b3), (.int (own_len (own_g1 jj t1))), (.ref b31)]) t → Sx p e below s₁ g₀ t := by
    intro t kt
    refine pre32 _ ?_
    refine st34 _ ?_
    show Sx p e below T34 (mkF m 104 #[iv p0, iv p1, iv p2, iv (own_n jj), rv b3, rv b31, iv (0 : Int32), .unset, .unset, .unset, .unset, .unset] [(.int (own_len (own_g1 jj t1)))]) _
    refine XS.istore X34.here hx rfl (hb hby at_104) rfl (l' := #[iv p0, iv p1, iv p2, iv (own_n jj), rv b3, rv b31, iv (own_len (own_g1 jj t1)), .unset, .unset, .unset, .unset, .unset]) rfl ?_
    refine XS.aload X34.here hx rfl (hb hby at_106) rfl rfl ?_
    refine XS.iload X34.here hx rfl (hb hby at_108) rfl ?_
    refine XS.aload X34.here hx rfl (hb hby at_110) rfl rfl ?_
    refine XS.iconst X34.here hx rfl (hb hby at_112) ?_
    refine XS.iloadN X34.here hx rfl (hb hby at_113) rfl ?_
    exact kt
  obtain ⟨_, T36, Lc36, X36, hQ36, st36⟩ := own_cS X34 hx hZ (y := Y59) hown (own_w hw 8 rfl) (own_w hw 9 rfl) (own_w hw 4 rfl) (own_w hw 10 rfl) (by decide) (W := 0) (rm2 l Z a0 hw [] b31 b3 (own_n jj) k31 k3 (own_g1 jj t1) [t0, t1, t2, t3, t4] 2 t2 T34.heap n0 (Nat.le_trans Z0 K34.1) Vp34 g_b31 ((V29.ext E31).keep Kc34 (ninS (Exa.ne (f33.keep Kc34) (Ex31.keep Kc34) (by decide)) nin0)) (Exa.ne (f33.keep Kc34) (Ex31.keep Kc34) (by decide)) rfl (Nat.le_of_ble_eq_true rfl) (Nat.le_of_ble_eq_true rfl) (Nat.le_trans (own_gl1 jj t1) (by decide))) (by decide) (by decide) (g := (mkF m 114 #[iv p0, iv p1, iv p2, iv (own_n jj), rv b3, rv b31, iv (own_len (own_g1 jj t1)), .unset, .unset, .unset, .unset, .unset] [(.int (own_n jj)), (.int (2 : Int32)), (.ref b3), (.int (own_len (own_g1 jj t1))), (.ref b31)])) rfl hml.symm (argsL := [(.ref b31), (.int (own_len (own_g1 jj t1))), (.ref b3), (.int (2 : Int32)), (.int (own_n jj))]) (rest := []) (lenOf pd49 rfl) rfl (Nat.le_of_eq rfl) (hb hby at_114) rfl rfl (by decide) (by decide)
  obtain ⟨rfl, N36q, Kc36, Vp36⟩ := hQ36
  have N36 := Fr.app N34 N36q
  have K36 : Keep h0 T36.heap [] := K34.trans Kc36 (allS (Or.inr sz_b31) all0)
  have pre37 : ∀ t, Sx p e below T36 (mkF m 127 #[iv p0, iv p1, iv p2, iv (own_n jj), rv b3, rv b31, iv (own_len (own_g2 jj t1 t2)), .unset, .unset, .unset, .unset, .unset] [(.int (own_n jj)), (.int (3 : Int32)), (.ref b3), (.int (own_len (own_g2 jj t1 t2))), (.ref b31)]) t → Sx p e below s₁ g₀ t := by
    intro t kt
    refine pre35 _ ?_
    refine st36 _ ?_
    show Sx p e below T36 (mkF m 117 #[iv p0, iv p1, iv p2, iv (own_n jj), rv b3, rv b31, iv (own_len (own_g1 jj t1)), .unset, .unset, .unset, .unset, .unset] [(.int (own_len (own_g2 jj t1 t2)))]) _
    refine XS.istore X36.here hx rfl (hb hby at_117) rfl (l' := #[iv p0, iv p1, iv p2, iv (own_n jj), rv b3, rv b31, iv (own_len (own_g2 jj t1 t2)), .unset, .unset, .unset, .unset, .unset]) rfl ?_
    refine XS.aload X36.here hx rfl (hb hby at_119) rfl rfl ?_
    refine XS.iload X36.here hx rfl (hb hby at_121) rfl ?_
    refine XS.aload X36.here hx rfl (hb hby at_123) rfl rfl ?_
    refine XS.iconst X36.here hx rfl (hb hby at_125) ?_
    refine XS.iloadN X36.here hx rfl (hb hby at_126) rfl ?_
    exact kt
  have f38 := (((V29.ext E31).keep Kc34 (ninS (Exa.ne ((f33.keep Kc34).keep Kc36) ((Ex31.keep Kc34).keep Kc36) (by decide)) nin0)).keep Kc36 (ninS (Exa.ne ((f33.keep Kc34).keep Kc36) ((Ex31.keep Kc34).keep Kc36) (by decide)) nin0))
  obtain ⟨_, T39, Lc39, X39, hQ39, st39⟩ := own_cS X36 hx hZ (y := Y59) hown (own_w hw 8 rfl) (own_w hw 9 rfl) (own_w hw 4 rfl) (own_w hw 10 rfl) (by decide) (W := 0) (rm2 l Z a0 hw [] b31 b3 (own_n jj) k31 k3 (own_g2 jj t1 t2) [t0, t1, t2, t3, t4] 3 t3 T36.heap n0 (Nat.le_trans Z0 K36.1) Vp36 g_b31 f38 (Exa.ne ((f33.keep Kc34).keep Kc36) ((Ex31.keep Kc34).keep Kc36) (by decide)) rfl (Nat.le_of_ble_eq_true rfl) (Nat.le_of_ble_eq_true rfl) (Nat.le_trans (own_gl2 jj t1 t2) (by decide))) (by decide) (by decide) (g := (mkF m 127 #[iv p0, iv p1, iv p2, iv (own_n jj), rv b3, rv b31, iv (own_len (own_g2 jj t1 t2)), .unset, .unset, .unset, .unset, .unset] [(.int (own_n jj)), (.int (3 : Int32)), (.ref b3), (.int (own_len (own_g2 jj t1 t2))), (.ref b31)])) rfl hml.symm (argsL := [(.ref b31), (.int (own_len (own_g2 jj t1 t2))), (.ref b3), (.int (3 : Int32)), (.int (own_n jj))]) (rest := []) (lenOf pd49 rfl) rfl (Nat.le_of_eq rfl) (hb hby at_127) rfl rfl (by decide) (by decide)
  obtain ⟨rfl, N39q, Kc39, Vp39⟩ := hQ39
  have N39 := Fr.app N36 N39q
  have K39 : Keep h0 T39.heap [] := K36.trans Kc39 (allS (Or.inr sz_b31) all0)
  have pre40 : ∀ t, Sx p e below T39 (mkF m 140 #[iv p0, iv p1, iv p2, iv (own_n jj), rv b3, rv b31, iv (own_len (own_g3 jj t1 t2 t3)), .unset, .unset, .unset, .unset, .unset] [(.int (own_n jj)), (.int (4 : Int32)), (.ref b3), (.int (own_len (own_g3 jj t1 t2 t3))), (.ref b31)]) t → Sx p e below s₁ g₀ t := by
    intro t kt
    refine pre37 _ ?_
    refine st39 _ ?_
    show Sx p e below T39 (mkF m 130 #[iv p0, iv p1, iv p2, iv (own_n jj), rv b3, rv b31, iv (own_len (own_g2 jj t1 t2)), .unset, .unset, .unset, .unset, .unset] [(.int (own_len (own_g3 jj t1 t2 t3)))]) _
    refine XS.istore X39.here hx rfl (hb hby at_130) rfl (l' := #[iv p0, iv p1, iv p2, iv (own_n jj), rv b3, rv b31, iv (own_len (own_g3 jj t1 t2 t3)), .unset, .unset, .unset, .unset, .unset]) rfl ?_
    refine XS.aload X39.here hx rfl (hb hby at_132) rfl rfl ?_
    refine XS.iload X39.here hx rfl (hb hby at_134) rfl ?_
    refine XS.aload X39.here hx rfl (hb hby at_136) rfl rfl ?_
    refine XS.iconst X39.here hx rfl (hb hby at_138) ?_
    refine XS.iloadN X39.here hx rfl (hb hby at_139) rfl ?_
    exact kt
  have f41 := (((f33.keep Kc34).keep Kc36).keep Kc39)
  have f42 := (((Ex31.keep Kc34).keep Kc36).keep Kc39)
  obtain ⟨_, T43, Lc43, X43, hQ43, st43⟩ := own_cS X39 hx hZ (y := Y59) hown (own_w hw 8 rfl) (own_w hw 9 rfl) (own_w hw 4 rfl) (own_w hw 10 rfl) (by decide) (W := 0) (rm2 l Z a0 hw [] b31 b3 (own_n jj) k31 k3 (own_g3 jj t1 t2 t3) [t0, t1, t2, t3, t4] 4 t4 T39.heap n0 (Nat.le_trans Z0 K39.1) Vp39 g_b31 (f38.keep Kc39 (ninS (Exa.ne f41 f42 (by decide)) nin0)) (Exa.ne f41 f42 (by decide)) rfl (Nat.le_of_ble_eq_true rfl) (Nat.le_of_ble_eq_true rfl) (Nat.le_trans (own_gl3 jj t1 t2 t3) (by decide))) (by decide) (by decide) (g := (mkF m 140 #[iv p0, iv p1, iv p2, iv (own_n jj), rv b3, rv b31, iv (own_len (own_g3 jj t1 t2 t3)), .unset, .unset, .unset, .unset, .unset] [(.int (own_n jj)), (.int (4 : Int32)), (.ref b3), (.int (own_len (own_g3 jj t1 t2 t3))), (.ref b31)])) rfl hml.symm (argsL := [(.ref b31), (.int (own_len (own_g3 jj t1 t2 t3))), (.ref b3), (.int (4 : Int32)), (.int (own_n jj))]) (rest := []) (lenOf pd49 rfl) rfl (Nat.le_of_eq rfl) (hb hby at_140) rfl rfl (by decide) (by decide)
  obtain ⟨rfl, N43q, Kc43, Vp43⟩ := hQ43
  have N43 := Fr.app N39 N43q
  have K43 : Keep h0 T43.heap [] := K39.trans Kc43 (allS (Or.inr sz_b31) all0)
  have pre44 : ∀ t, Sx p e below T43 (mkF m 145 #[iv p0, iv p1, iv p2, iv (own_n jj), rv b3, rv b31, iv (own_len (own_g4 jj t1 t2 t3 t4)), .unset, .unset, .unset, .unset, .unset] []) t → Sx p e below s₁ g₀ t := by
    intro t kt
    refine pre40 _ ?_
    refine st43 _ ?_
    show Sx p e below T43 (mkF m 143 #[iv p0, iv p1, iv p2, iv (own_n jj), rv b3, rv b31, iv (own_len (own_g3 jj t1 t2 t3)), .unset, .unset, .unset, .unset, .unset] [(.int (own_len (own_g4 jj t1 t2 t3 t4)))]) _
    refine XS.istore X43.here hx rfl (hb hby at_143) rfl (l' := #[iv p0, iv p1, iv p2, iv (own_n jj), rv b3, rv b31, iv (own_len (own_g4 jj t1 t2 t3 t4)), .unset, .unset, .unset, .unset, .unset]) rfl ?_
    exact kt
  obtain ⟨T45, h45, X45, e45, E45, A45, D45, -, st45⟩ := newO X43 hx hZ hown (own_w hw 11 rfl) (own_w hw 12 rfl) (own_w hw 13 rfl) rfl (g := (mkF m 145 #[iv p0, iv p1, iv p2, iv (own_n jj), rv b3, rv b31, iv (own_len (own_g4 jj t1 t2 t3 t4)), .unset, .unset, .unset, .unset, .unset] [])) rfl (hb hby at_145) (by decide) (by decide)
  obtain ⟨b45, g45⟩ : ∃ z, z = T43.heap.size := ⟨_, rfl⟩
  rw [← g45] at A45 D45 st45
  have g_b45 : n0 ≤ b45 := Nat.le_trans (Nat.le_trans Z0 K43.1) (Nat.le_of_eq g45.symm)
  have sz_b45 : h0.size ≤ b45 := Nat.le_trans K43.1 (Nat.le_of_eq g45.symm)
  have F_coder_b45 : Fld Z h45 b45 "java/lang/String" "coder" "B" (.int (0 : Int32)) := D45 (Or.inr (own_w hw 36 rfl)) (ty := .byte) (by decide)
  have F_value_b45 : Fld Z h45 b45 "java/lang/String" "value" "[B" .null := D45 (Or.inr (own_w hw 38 rfl)) (ty := (.array .byte)) (by decide)
  have K45 : Keep h0 h45 [] := K43.ext E45
  have pre46 : ∀ t, Sx p e below T45 (mkF m 151 #[iv p0, iv p1, iv p2, iv (own_n jj), rv b3, rv b31, iv (own_len (own_g4 jj t1 t2 t3 t4)), .unset, .unset, .unset, .unset, .unset] [(.ref b3), (.ref b45), (.ref b45)]) t → Sx p e below s₁ g₀ t := by
    intro t kt
    refine pre44 _ ?_
    refine st45 _ ?_
    show Sx p e below T45 (mkF m 148 #[iv p0, iv p1, iv p2, iv (own_n jj), rv b3, rv b31, iv (own_len (own_g4 jj t1 t2 t3 t4)), .unset, .unset, .unset, .unset, .unset] [(.ref b45)]) _
    refine XS.dup X45.here hx rfl (hb hby at_148) rfl rfl ?_
    refine XS.aload X45.here hx rfl (hb hby at_149) rfl rfl ?_
    exact kt
  have f47 := (((f38.keep Kc39 (ninS (Exa.ne ((f41.keep Kc43).ext E45) ((f42.keep Kc43).ext E45) (by decide)) nin0)).keep Kc43 (ninS (Exa.ne ((f41.keep Kc43).ext E45) ((f42.keep Kc43).ext E45) (by decide)) nin0)).ext E45)
  have hcsl : ∀ x ∈ ([t0, t1, t2, t3, t4] : List Int32), own_ch x := by
    intro x hx_
    simp only [List.mem_cons, List.not_mem_nil, or_false] at hx_
    rcases hx_ with rfl | rfl | rfl | rfl | rfl <;> assumption
  obtain ⟨_, _, ⟨T48, L48, k48, n48⟩, -, X48, ⟨Lc48, hQ48, l48, y48, z48⟩, st48⟩ := X45.specialBack hx (y := Y24) rfl hown (mvT hZ (own_w hw 14 rfl)) (mvT hZ (own_w hw 15 rfl)) (mvT hZ (own_w hw 16 rfl)) (by decide) (backOf (W := 1) (rm3 l Z a0 hw [] b45 b3 k3 [t0, t1, t2, t3, t4] cs h45 n0 (Nat.le_trans Z0 K45.1) F_value_b45 F_coder_b45 A45 g_b45 f47 hcsl (Nat.le_of_ble_eq_true rfl) (Nat.le_of_ble_eq_true rfl) (O0.keep K45 all0) S_cs hcs S_ad S_hi S_lo) hZ (own_w hw 16 rfl) (own_w hw 13 rfl) (by decide) (by decide)) (g := (mkF m 151 #[iv p0, iv p1, iv p2, iv (own_n jj), rv b3, rv b31, iv (own_len (own_g4 jj t1 t2 t3 t4)), .unset, .unset, .unset, .unset, .unset] [(.ref b3), (.ref b45), (.ref b45)])) rfl (by rw [hml]; rfl) (Steps.refl _) (a := b45) (argsL := [(.ref b3)]) (rest := [(.ref b45)]) (lenOf pd50 rfl) rfl (by show 2 * 0 + _ ≤ _; exact Nat.le_of_eq rfl) (hb hby at_151) (fun _ _ => ⟨rfl, e45, (by decide : 3 + 2 ≤ _), (by decide : 21 + 15 ≤ _)⟩)
  dsimp only [Pt.U, Pt.locs, Pt.cells, Pt.slots] at X48 l48 y48 z48 st48 hQ48
  subst l48 y48 z48
  obtain ⟨y48, ky48, rfl, N48q, Kc48, hy48, Fv48, Ey48, hD48⟩ := hQ48
  have N48 := Fr.app N43 N48q
  have K48 : Keep h0 T48.heap [] := K45.trans Kc48 (allS (Or.inr sz_b45) all0)
  have pre49 : ∀ t, Sx p e below T48 (mkF m 154 #[iv p0, iv p1, iv p2, iv (own_n jj), rv b3, rv b31, iv (own_len (own_g4 jj t1 t2 t3 t4)), .unset, .unset, .unset, .unset, .unset] [(.ref b45)]) t → Sx p e below s₁ g₀ t := by
    intro t kt
    refine pre46 _ ?_
    refine st48.trans ?_
    exact kt
  have f50 := (((f41.keep Kc43).ext E45).keep Kc48)
  have f51 := (((f42.keep Kc43).ext E45).keep Kc48)
  obtain ⟨hjj, hbf, hsur, hq4⟩ := own_lw hj1 hj3 h_t0 h_t1 h_t2 h_t3 h_t4
  obtain ⟨_, T52, Lc52, X52, hQ52, st52⟩ := own_cS X48 hx hZ (y := Y57) hown (own_w hw 39 rfl) (own_w hw 40 rfl) (own_w hw 41 rfl) (own_w hw 42 rfl) (by decide) (W := 0) (rm9 l Z a0 hw [] b45 y48 ky48 [t0, t1, t2, t3, t4] (own_sub [t0, t1, t2, t3, t4] 0 jj) (own_sub [t0, t1, t2, t3, t4] (jj + 1) (4 - jj)) jj cs fm u8 T48.heap n0 (Nat.le_trans Z0 K48.1) Fv48 (A45.keep Kc48) hD48 hjj hbf (by show jj < 5; omega) hcsl (Nat.le_of_ble_eq_true rfl) (by omega) (own_sublen (by show 0 + jj ≤ 5; omega)) (fun j x q => ⟨own_subat q, hcsl x (own_subm (List.mem_of_getElem? q))⟩) (by rw [own_sublen (by show jj + 1 + (4 - jj) ≤ 5; omega)]; show jj + 1 + (4 - jj) = 5; omega) (by rw [own_sublen (by show jj + 1 + (4 - jj) ≤ 5; omega)]; omega) (fun j x q => ⟨own_subat q, hcsl x (own_subm (List.mem_of_getElem? q))⟩) hsur (O0.keep K48 all0) S_cs hcs S_fm hr_fm S_ad S_hi S_lo S_u8 S_in8) (by decide) (by decide) (g := (mkF m 154 #[iv p0, iv p1, iv p2, iv (own_n jj), rv b3, rv b31, iv (own_len (own_g4 jj t1 t2 t3 t4)), .unset, .unset, .unset, .unset, .unset] [(.ref b45)])) rfl hml.symm (argsL := [(.ref b45)]) (rest := []) (lenOf pd51 rfl) rfl (Nat.le_of_eq rfl) (hb hby at_154) rfl rfl (by decide) (by decide)
  obtain ⟨x52, sa52, ya52, ka52, yb52, kb52, rfl, N52q, Kc52, Ex52, Fa52, Fb52, Fv52, Es52, hD52, Vb52, Eb52⟩ := hQ52
  have N52 := Fr.app N48 N52q
  have K52 : Keep h0 T52.heap [] := K48.trans Kc52 all0
  have Vq52 : Arv Z T52.heap yb52 kb52 .byte (own_len (own_g4 jj t1 t2 t3 t4)) (own_M (own_g4 jj t1 t2 t3 t4)) (.int (0 : Int32)) := by rw [hq4]; exact Vb52
  have pre53 : ∀ t, Sx p e below T52 (mkF m 161 #[iv p0, iv p1, iv p2, iv (own_n jj), rv b3, rv b31, iv (own_len (own_g4 jj t1 t2 t3 t4)), rv x52, .unset, .unset, .unset, .unset] [(.ref x52)]) t → Sx p e below s₁ g₀ t := by
    intro t kt
    refine pre49 _ ?_
    refine st52 _ ?_
    show Sx p e below T52 (mkF m 157 #[iv p0, iv p1, iv p2, iv (own_n jj), rv b3, rv b31, iv (own_len (own_g4 jj t1 t2 t3 t4)), .unset, .unset, .unset, .unset, .unset] [(.ref x52)]) _
    refine XS.astore X52.here hx rfl (hb hby at_157) rfl rfl (l' := #[iv p0, iv p1, iv p2, iv (own_n jj), rv b3, rv b31, iv (own_len (own_g4 jj t1 t2 t3 t4)), rv x52, .unset, .unset, .unset, .unset]) rfl ?_
    refine XS.aload X52.here hx rfl (hb hby at_159) rfl rfl ?_
    exact kt
  have f54 := (((Vp43.ext E45).keep Kc48 (ninS (Exa.ne (f51.keep Kc52) ((A45.keep Kc48).keep Kc52) (by decide)) nin0)).keep Kc52 nin0)
  obtain ⟨_, T55, Lc55, X55, hQ55, st55⟩ := own_cV X52 hx hZ (y := Y55) hown (own_w hw 168 rfl) (own_w hw 169 rfl) (own_w hw 171 rfl) (own_w hw 170 rfl) (own_w hw 172 rfl) (own_w hw 41 rfl) (by decide) (W := 0) (rm35 l Z a0 hw [] x52 sa52 T52.heap n0 (Nat.le_trans Z0 K52.1) Fa52 Ex52) (by decide) (by decide) Ex52 (g := (mkF m 161 #[iv p0, iv p1, iv p2, iv (own_n jj), rv b3, rv b31, iv (own_len (own_g4 jj t1 t2 t3 t4)), rv x52, .unset, .unset, .unset, .unset] [(.ref x52)])) rfl hml.symm (argsL := []) (rest := []) (lenOf pd52 rfl) rfl (Nat.le_of_eq rfl) (hb hby at_161) rfl rfl (by decide) (by decide)
  obtain ⟨rfl, N55q, hh55⟩ := hQ55
  have N55 := Fr.app N52 N55q
  have pre56 : ∀ t, Sx p e below T55 (mkF m 168 #[iv p0, iv p1, iv p2, iv (own_n jj), rv b3, rv b31, iv (own_len (own_g4 jj t1 t2 t3 t4)), rv x52, rv sa52, .unset, .unset, .unset] [(.ref sa52)]) t → Sx p e below s₁ g₀ t := by
    intro t kt
    refine pre53 _ ?_
    refine st55.trans ?_
    show Sx p e below T55 (mkF m 164 #[iv p0, iv p1, iv p2, iv (own_n jj), rv b3, rv b31, iv (own_len (own_g4 jj t1 t2 t3 t4)), rv x52, .unset, .unset, .unset, .unset] [(.ref sa52)]) _
    refine XS.astore X55.here hx rfl (hb hby at_164) rfl rfl (l' := #[iv p0, iv p1, iv p2, iv (own_n jj), rv b3, rv b31, iv (own_len (own_g4 jj t1 t2 t3 t4)), rv x52, rv sa52, .unset, .unset, .unset]) rfl ?_
    refine XS.aload X55.here hx rfl (hb hby at_166) rfl rfl ?_
    exact kt
  obtain ⟨_, T57, Lc57, X57, hQ57, st57⟩ := own_cV X55 hx hZ (y := Y27) hown (own_w hw 173 rfl) (own_w hw 59 rfl) (own_w hw 61 rfl) (own_w hw 60 rfl) (own_w hw 62 rfl) (own_w hw 13 rfl) (by decide) (W := 0) (rm13s l Z a0 hw [] sa52 ya52 ka52 (own_sub [t0, t1, t2, t3, t4] 0 jj) cs T52.heap n0 (Nat.le_trans Z0 K52.1) Fv52 Es52 hD52 (by rw [own_sublen (by show 0 + jj ≤ 5; omega)]; omega) (O0.keep K52 all0) S_cs hcs) (by decide) (by decide) Es52 (g := (mkF m 168 #[iv p0, iv p1, iv p2, iv (own_n jj), rv b3, rv b31, iv (own_len (own_g4 jj t1 t2 t3 t4)), rv x52, rv sa52, .unset, .unset, .unset] [(.ref sa52)])) rfl hml.symm (argsL := []) (rest := []) (lenOf pd27 rfl) rfl (Nat.le_of_eq rfl) (hb hby at_168) rfl hh55 (by decide) (by decide)
  obtain ⟨rfl, N57q, hh57⟩ := hQ57
  have N57 := Fr.app N55 N57q
  have pre59 : ∀ t, Sx p e below T57 (mkF m 172 #[iv p0, iv p1, iv p2, iv (own_n jj), rv b3, rv b31, iv (own_len (own_g4 jj t1 t2 t3 t4)), rv x52, rv sa52, .unset, .unset, .unset] [(.int (own_n jj)), (.int (own_len (own_sub [t0, t1, t2, t3, t4] 0 jj)))]) t → Sx p e below s₁ g₀ t := by
    intro t kt
    refine pre56 _ ?_
    refine st57.trans ?_
    show Sx p e below T57 (mkF m 171 #[iv p0, iv p1, iv p2, iv (own_n jj), rv b3, rv b31, iv (own_len (own_g4 jj t1 t2 t3 t4)), rv x52, rv sa52, .unset, .unset, .unset] [(.int (own_len (own_sub [t0, t1, t2, t3, t4] 0 jj)))]) _
    refine XS.iloadN X57.here hx rfl (hb hby at_171) rfl ?_
    exact kt
  have hc172_58 : (own_len (own_sub [t0, t1, t2, t3, t4] 0 jj)) = (own_n jj) := (congrArg own_n (own_sublen (by show 0 + jj ≤ 5; omega)))
  have pre60 : ∀ t, Sx p e below T57 (mkF m 178 #[iv p0, iv p1, iv p2, iv (own_n jj), rv b3, rv b31, iv (own_len (own_g4 jj t1 t2 t3 t4)), rv x52, rv sa52, .unset, .unset, .unset] [(.int (0 : Int32)), (.ref sa52)]) t → Sx p e below s₁ g₀ t := by
    intro t kt
    refine pre59 _ ?_
    refine XS.icmpNo X57.here hx rfl (hb hby at_172) rfl (teq hc172_58).2 ?_
    refine XS.aload X57.here hx rfl (hb hby at_175) rfl rfl ?_
    refine XS.iconst X57.here hx rfl (hb hby at_177) ?_
    exact kt
  obtain ⟨_, T61, Lc61, X61, hQ61, st61⟩ := own_cV X57 hx hZ (y := Y30) hown (own_w hw 174 rfl) (own_w hw 175 rfl) (own_w hw 177 rfl) (own_w hw 176 rfl) (own_w hw 178 rfl) (own_w hw 13 rfl) (by decide) (W := 0) (rm36s l Z a0 hw [] sa52 ya52 ka52 (own_sub [t0, t1, t2, t3, t4] 0 jj) 0 t0 cs fm T52.heap n0 (Nat.le_trans Z0 K52.1) Fv52 Es52 hD52 (by rw [own_sublen (by show 0 + jj ≤ 5; omega)]; omega) (own_subget rfl (by omega)) hch_t0 (by rw [own_sublen (by show 0 + jj ≤ 5; omega)]; omega) (O0.keep K52 all0) S_cs hcs S_fm hr_fm S_ad S_hi S_lo) (by decide) (by decide) Es52 (g := (mkF m 178 #[iv p0, iv p1, iv p2, iv (own_n jj), rv b3, rv b31, iv (own_len (own_g4 jj t1 t2 t3 t4)), rv x52, rv sa52, .unset, .unset, .unset] [(.int (0 : Int32)), (.ref sa52)])) rfl hml.symm (argsL := [(.int (0 : Int32))]) (rest := []) (lenOf pd53 rfl) rfl (Nat.le_of_eq rfl) (hb hby at_178) rfl hh57 (by decide) (by decide)
  obtain ⟨rfl, N61q, hh61⟩ := hQ61
  have N61 := Fr.app N57 N61q
  obtain ⟨cl62, Ar62, q62, S62, M62, H62, G62⟩ := id ((f47.keep Kc48 (ninS (Exa.ne (f50.keep Kc52) ((A45.keep Kc48).keep Kc52) (by decide)) nin0)).keep Kc52 nin0)
  have hin62 : ¬ ((0 : Int32) < 0 ∨ cl62.slots.size ≤ ((0 : Int32)).toNatClampNeg) := inb_of S62 ⟨by decide, by decide⟩
  have hat62 : cl62.slots[((0 : Int32)).toNatClampNeg]? = some (.int t0) := H62.at hin62 rfl
  have pre63 : ∀ t, Sx p e below T61 (mkF m 190 #[iv p0, iv p1, iv p2, iv (own_n jj), rv b3, rv b31, iv (own_len (own_g4 jj t1 t2 t3 t4)), rv x52, rv sa52, .unset, .unset, .unset] [(.int (2 : Int32)), (.int (own_n jj))]) t → Sx p e below s₁ g₀ t := by
    intro t kt
    refine pre60 _ ?_
    refine st61.trans ?_
    show Sx p e below T61 (mkF m 181 #[iv p0, iv p1, iv p2, iv (own_n jj), rv b3, rv b31, iv (own_len (own_g4 jj t1 t2 t3 t4)), rv x52, rv sa52, .unset, .unset, .unset] [(.int t0)]) _
    refine XS.aload X61.here hx rfl (hb hby at_181) rfl rfl ?_
    refine XS.iconst X61.here hx rfl (hb hby at_183) ?_
    refine X61.caload hx (j := (0 : Int32)) (v := (.int t0)) (by rw [hh61]; exact Ar62.1) (State.isArrayOf_alike hZ.alike Ar62.2.1) Ar62.2.2 hin62 hat62 (g := (mkF m 184 #[iv p0, iv p1, iv p2, iv (own_n jj), rv b3, rv b31, iv (own_len (own_g4 jj t1 t2 t3 t4)), rv x52, rv sa52, .unset, .unset, .unset] [(.int (0 : Int32)), (.ref b3), (.int t0)])) rfl rfl (hb hby at_184) _ ?_
    show Sx p e below T61 (mkF m 185 #[iv p0, iv p1, iv p2, iv (own_n jj), rv b3, rv b31, iv (own_len (own_g4 jj t1 t2 t3 t4)), rv x52, rv sa52, .unset, .unset, .unset] [(.int t0), (.int t0)]) _
    refine XS.icmpNo X61.here hx rfl (hb hby at_185) rfl (teq rfl).2 ?_
    refine XS.iloadN X61.here hx rfl (hb hby at_188) rfl ?_
    refine XS.iconst X61.here hx rfl (hb hby at_189) ?_
    exact kt
  obtain ⟨T69, Ls69, X69, e69, N69, hj69, pre69⟩ : ∃ (T69 : State) (Ls69 : List Loc), Stand p l e room_1 s m #[(.int p0), (.int p1), (.int p2)] below meth c T69 Ls69 15 116 ∧ T69.heap = T52.heap ∧ Fr n0 Ls69 ∧ ((((own_n jj) < (2 : Int32))) ∨ ((¬ ((own_n jj) < (2 : Int32))))) ∧ ∀ t, Sx p e below T69 (mkF m 206 #[iv p0, iv p1, iv p2, iv (own_n jj), rv b3, rv b31, iv (own_len (own_g4 jj t1 t2 t3 t4)), rv x52, rv sa52, .unset, .unset, .unset] []) t → Steps p.tables e below (s₁.setTop g₀) t := by
    by_cases hc190 : (own_n jj) < (2 : Int32)
    · have pre64 : ∀ t, Sx p e below T61 (mkF m 206 #[iv p0, iv p1, iv p2, iv (own_n jj), rv b3, rv b31, iv (own_len (own_g4 jj t1 t2 t3 t4)), rv x52, rv sa52, .unset, .unset, .unset] []) t → Sx p e below s₁ g₀ t := by
        intro t kt
        refine pre63 _ ?_
        refine XS.icmpYes X61.here hx rfl (pc0 := 190) (pc' := 206) rfl (hb hby at_190) rfl (tlt hc190).1 (by decide) (by decide) ?_
        exact kt
      exact ⟨T61, _, X61, hh61, N61, Or.inl hc190, pre64⟩
    · have pre65 : ∀ t, Sx p e below T61 (mkF m 196 #[iv p0, iv p1, iv p2, iv (own_n jj), rv b3, rv b31, iv (own_len (own_g4 jj t1 t2 t3 t4)), rv x52, rv sa52, .unset, .unset, .unset] [(.int (1 : Int32)), (.ref sa52)]) t → Sx p e below s₁ g₀ t := by
        intro t kt
        refine pre63 _ ?_
        refine XS.icmpNo X61.here hx rfl (hb hby at_190) rfl (flt hc190).1 ?_
        refine XS.aload X61.here hx rfl (hb hby at_193) rfl rfl ?_
        refine XS.iconst X61.here hx rfl (hb hby at_195) ?_
        exact kt
      have hg1 : 2 ≤ jj := own_gen (b := 2) hc190 (by omega) (by omega)
      obtain ⟨_, T66, Lc66, X66, hQ66, st66⟩ := own_cV X61 hx hZ (y := Y30) hown (own_w hw 174 rfl) (own_w hw 175 rfl) (own_w hw 177 rfl) (own_w hw 176 rfl) (own_w hw 178 rfl) (own_w hw 13 rfl) (by decide) (W := 0) (rm36s l Z a0 hw [] sa52 ya52 ka52 (own_sub [t0, t1, t2, t3, t4] 0 jj) 1 t1 cs fm T52.heap n0 (Nat.le_trans Z0 K52.1) Fv52 Es52 hD52 (by rw [own_sublen (by show 0 + jj ≤ 5; omega)]; omega) (own_subget rfl (by omega)) hch_t1 (by rw [own_sublen (by show 0 + jj ≤ 5; omega)]; omega) (O0.keep K52 all0) S_cs hcs S_fm hr_fm S_ad S_hi S_lo) (by decide) (by decide) Es52 (g := (mkF m 196 #[iv p0, iv p1, iv p2, iv (own_n jj), rv b3, rv b31, iv (own_len (own_g4 jj t1 t2 t3 t4)), rv x52, rv sa52, .unset, .unset, .unset] [(.int (1 : Int32)), (.ref sa52)])) rfl hml.symm (argsL := [(.int (1 : Int32))]) (rest := []) (lenOf pd53 rfl) rfl (Nat.le_of_eq rfl) (hb hby at_196) rfl hh61 (by decide) (by decide)
      obtain ⟨rfl, N66q, hh66⟩ := hQ66
      have N66 := Fr.app N61 N66q
      obtain ⟨cl67, Ar67, q67, S67, M67, H67, G67⟩ := id ((f47.keep Kc48 (ninS (Exa.ne (f50.keep Kc52) ((A45.keep Kc48).keep Kc52) (by decide)) nin0)).keep Kc52 nin0)
      have hin67 : ¬ ((1 : Int32) < 0 ∨ cl67.slots.size ≤ ((1 : Int32)).toNatClampNeg) := inb_of S67 ⟨by decide, by decide⟩
      have hat67 : cl67.slots[((1 : Int32)).toNatClampNeg]? = some (.int t1) := H67.at hin67 rfl
      have pre68 : ∀ t, Sx p e below T66 (mkF m 206 #[iv p0, iv p1, iv p2, iv (own_n jj), rv b3, rv b31, iv (own_len (own_g4 jj t1 t2 t3 t4)), rv x52, rv sa52, .unset, .unset, .unset] []) t → Sx p e below s₁ g₀ t := by
        intro t kt
        refine pre65 _ ?_
        refine st66.trans ?_
        show Sx p e below T66 (mkF m 199 #[iv p0, iv p1, iv p2, iv (own_n jj), rv b3, rv b31, iv (own_len (own_g4 jj t1 t2 t3 t4)), rv x52, rv sa52, .unset, .unset, .unset] [(.int t1)]) _
        refine XS.aload X66.here hx rfl (hb hby at_199) rfl rfl ?_
        refine XS.iconst X66.here hx rfl (hb hby at_201) ?_
        refine X66.caload hx (j := (1 : Int32)) (v := (.int t1)) (by rw [hh66]; exact Ar67.1) (State.isArrayOf_alike hZ.alike Ar67.2.1) Ar67.2.2 hin67 hat67 (g := (mkF m 202 #[iv p0, iv p1, iv p2, iv (own_n jj), rv b3, rv b31, iv (own_len (own_g4 jj t1 t2 t3 t4)), rv x52, rv sa52, .unset, .unset, .unset] [(.int (1 : Int32)), (.ref b3), (.int t1)])) rfl rfl (hb hby at_202) _ ?_
        show Sx p e below T66 (mkF m 203 #[iv p0, iv p1, iv p2, iv (own_n jj), rv b3, rv b31, iv (own_len (own_g4 jj t1 t2 t3 t4)), rv x52, rv sa52, .unset, .unset, .unset] [(.int t1), (.int t1)]) _
        refine XS.icmpNo X66.here hx rfl (hb hby at_203) rfl (teq rfl).2 ?_
        exact kt
      exact ⟨T66, _, X66, hh66, N66, Or.inr (hc190), pre68⟩
  have pre70 : ∀ t, Sx p e below T69 (mkF m 208 #[iv p0, iv p1, iv p2, iv (own_n jj), rv b3, rv b31, iv (own_len (own_g4 jj t1 t2 t3 t4)), rv x52, rv sa52, .unset, .unset, .unset] [(.int (3 : Int32)), (.int (own_n jj))]) t → Sx p e below s₁ g₀ t := by
    intro t kt
    refine pre69 _ ?_
    refine XS.iloadN X69.here hx rfl (hb hby at_206) rfl ?_
    refine XS.iconst X69.here hx rfl (hb hby at_207) ?_
    exact kt
  obtain ⟨T76, Ls76, X76, e76, N76, hj76, pre76⟩ : ∃ (T76 : State) (Ls76 : List Loc), Stand p l e room_1 s m #[(.int p0), (.int p1), (.int p2)] below meth c T76 Ls76 15 116 ∧ T76.heap = T52.heap ∧ Fr n0 Ls76 ∧ ((((own_n jj) < (3 : Int32))) ∨ ((¬ ((own_n jj) < (3 : Int32))))) ∧ ∀ t, Sx p e below T76 (mkF m 224 #[iv p0, iv p1, iv p2, iv (own_n jj), rv b3, rv b31, iv (own_len (own_g4 jj t1 t2 t3 t4)), rv x52, rv sa52, .unset, .unset, .unset] []) t → Steps p.tables e below (s₁.setTop g₀) t := by
    by_cases hc208 : (own_n jj) < (3 : Int32)
    · have pre71 : ∀ t, Sx p e below T69 (mkF m 224 #[iv p0, iv p1, iv p2, iv (own_n jj), rv b3, rv b31, iv (own_len (own_g4 jj t1 t2 t3 t4)), rv x52, rv sa52, .unset, .unset, .unset] []) t → Sx p e below s₁ g₀ t := by
        intro t kt
        refine pre70 _ ?_
        refine XS.icmpYes X69.here hx rfl (pc0 := 208) (pc' := 224) rfl (hb hby at_208) rfl (tlt hc208).1 (by decide) (by decide) ?_
        exact kt
      exact ⟨T69, _, X69, e69, N69, Or.inl hc208, pre71⟩
    · have pre72 : ∀ t, Sx p e below T69 (mkF m 214 #[iv p0, iv p1, iv p2, iv (own_n jj), rv b3, rv b31, iv (own_len (own_g4 jj t1 t2 t3 t4)), rv x52, rv sa52, .unset, .unset, .unset] [(.int (2 : Int32)), (.ref sa52)]) t → Sx p e below s₁ g₀ t := by
        intro t kt
        refine pre70 _ ?_
        refine XS.icmpNo X69.here hx rfl (hb hby at_208) rfl (flt hc208).1 ?_
        refine XS.aload X69.here hx rfl (hb hby at_211) rfl rfl ?_
        refine XS.iconst X69.here hx rfl (hb hby at_213) ?_
        exact kt
      have hg2 : 3 ≤ jj := own_gen (b := 3) hc208 (by omega) (by omega)
      obtain ⟨_, T73, Lc73, X73, hQ73, st73⟩ := own_cV X69 hx hZ (y := Y30) hown (own_w hw 174 rfl) (own_w hw 175 rfl) (own_w hw 177 rfl) (own_w hw 176 rfl) (own_w hw 178 rfl) (own_w hw 13 rfl) (by decide) (W := 0) (rm36s l Z a0 hw [] sa52 ya52 ka52 (own_sub [t0, t1, t2, t3, t4] 0 jj) 2 t2 cs fm T52.heap n0 (Nat.le_trans Z0 K52.1) Fv52 Es52 hD52 (by rw [own_sublen (by show 0 + jj ≤ 5; omega)]; omega) (own_subget rfl (by omega)) hch_t2 (by rw [own_sublen (by show 0 + jj ≤ 5; omega)]; omega) (O0.keep K52 all0) S_cs hcs S_fm hr_fm S_ad S_hi S_lo) (by decide) (by decide) Es52 (g := (mkF m 214 #[iv p0, iv p1, iv p2, iv (own_n jj), rv b3, rv b31, iv (own_len (own_g4 jj t1 t2 t3 t4)), rv x52, rv sa52, .unset, .unset, .unset] [(.int (2 : Int32)), (.ref sa52)])) rfl hml.symm (argsL := [(.int (2 : Int32))]) (rest := []) (lenOf pd53 rfl) rfl (Nat.le_of_eq rfl) (hb hby at_214) rfl e69 (by decide) (by decide)
      obtain ⟨rfl, N73q, hh73⟩ := hQ73
      have N73 := Fr.app N69 N73q
      obtain ⟨cl74, Ar74, q74, S74, M74, H74, G74⟩ := id ((f47.keep Kc48 (ninS (Exa.ne (f50.keep Kc52) ((A45.keep Kc48).keep Kc52) (by decide)) nin0)).keep Kc52 nin0)
      have hin74 : ¬ ((2 : Int32) < 0 ∨ cl74.slots.size ≤ ((2 : Int32)).toNatClampNeg) := inb_of S74 ⟨by decide, by decide⟩
      have hat74 : cl74.slots[((2 : Int32)).toNatClampNeg]? = some (.int t2) := H74.at hin74 rfl
      have pre75 : ∀ t, Sx p e below T73 (mkF m 224 #[iv p0, iv p1, iv p2, iv (own_n jj), rv b3, rv b31, iv (own_len (own_g4 jj t1 t2 t3 t4)), rv x52, rv sa52, .unset, .unset, .unset] []) t → Sx p e below s₁ g₀ t := by
        intro t kt
        refine pre72 _ ?_
        refine st73.trans ?_
        show Sx p e below T73 (mkF m 217 #[iv p0, iv p1, iv p2, iv (own_n jj), rv b3, rv b31, iv (own_len (own_g4 jj t1 t2 t3 t4)), rv x52, rv sa52, .unset, .unset, .unset] [(.int t2)]) _
        refine XS.aload X73.here hx rfl (hb hby at_217) rfl rfl ?_
        refine XS.iconst X73.here hx rfl (hb hby at_219) ?_
        refine X73.caload hx (j := (2 : Int32)) (v := (.int t2)) (by rw [hh73]; exact Ar74.1) (State.isArrayOf_alike hZ.alike Ar74.2.1) Ar74.2.2 hin74 hat74 (g := (mkF m 220 #[iv p0, iv p1, iv p2, iv (own_n jj), rv b3, rv b31, iv (own_len (own_g4 jj t1 t2 t3 t4)), rv x52, rv sa52, .unset, .unset, .unset] [(.int (2 : Int32)), (.ref b3), (.int t2)])) rfl rfl (hb hby at_220) _ ?_
        show Sx p e below T73 (mkF m 221 #[iv p0, iv p1, iv p2, iv (own_n jj), rv b3, rv b31, iv (own_len (own_g4 jj t1 t2 t3 t4)), rv x52, rv sa52, .unset, .unset, .unset] [(.int t2), (.int t2)]) _
        refine XS.icmpNo X73.here hx rfl (hb hby at_221) rfl (teq rfl).2 ?_
        exact kt
      exact ⟨T73, _, X73, hh73, N73, Or.inr (hc208), pre75⟩
  have pre77 : ∀ t, Sx p e below T76 (mkF m 233 #[iv p0, iv p1, iv p2, iv (own_n jj), rv b3, rv b31, iv (own_len (own_g4 jj t1 t2 t3 t4)), rv x52, rv sa52, iv (1 : Int32), .unset, .unset] [(.ref x52)]) t → Sx p e below s₁ g₀ t := by
    intro t kt
    refine pre76 _ ?_
    refine XS.iconst X76.here hx rfl (hb hby at_224) ?_
    refine XS.goto X76.here hx rfl (pc0 := 225) (pc' := 229) rfl (hb hby at_225) (by decide) (by decide) ?_
    refine XS.istore X76.here hx rfl (hb hby at_229) rfl (l' := #[iv p0, iv p1, iv p2, iv (own_n jj), rv b3, rv b31, iv (own_len (own_g4 jj t1 t2 t3 t4)), rv x52, rv sa52, iv (1 : Int32), .unset, .unset]) rfl ?_
    refine XS.aload X76.here hx rfl (hb hby at_231) rfl rfl ?_
    exact kt
  obtain ⟨_, T78, Lc78, X78, hQ78, st78⟩ := own_cV X76 hx hZ (y := Y56) hown (own_w hw 188 rfl) (own_w hw 189 rfl) (own_w hw 191 rfl) (own_w hw 190 rfl) (own_w hw 192 rfl) (own_w hw 41 rfl) (by decide) (W := 0) (rm40 l Z a0 hw [] x52 yb52 kb52 (own_g4 jj t1 t2 t3 t4) T52.heap n0 (Nat.le_trans Z0 K52.1) Fb52 Ex52 Vq52 Eb52 (Nat.le_trans (own_gl4 jj t1 t2 t3 t4) (by decide))) (by decide) (by decide) Ex52 (g := (mkF m 233 #[iv p0, iv p1, iv p2, iv (own_n jj), rv b3, rv b31, iv (own_len (own_g4 jj t1 t2 t3 t4)), rv x52, rv sa52, iv (1 : Int32), .unset, .unset] [(.ref x52)])) rfl hml.symm (argsL := []) (rest := []) (lenOf pd54 rfl) rfl (Nat.le_of_eq rfl) (hb hby at_233) rfl e76 (by decide) (by decide)
  obtain ⟨y78, ky78, rfl, N78q, Kc78, hy78, Vy78, Ey78⟩ := hQ78
  have N78 := Fr.app N76 N78q
  have K78 : Keep h0 T78.heap [] := K52.trans Kc78 all0
  have g_y78 : n0 ≤ y78 := Nat.le_trans (Nat.le_trans Z0 K52.1) hy78
  have sz_y78 : h0.size ≤ y78 := Nat.le_trans K52.1 hy78
  obtain ⟨cl79, Ar79, -, S79, M79, -, -⟩ := id Vy78
  have pre80 : ∀ t, Sx p e below T78 (mkF m 253 #[iv p0, iv p1, iv p2, iv (own_n jj), rv b3, rv b31, iv (own_len (own_g4 jj t1 t2 t3 t4)), rv x52, rv sa52, iv (1 : Int32), rv y78, .unset] [(.int (0 : Int32)), (.int (own_len (own_g4 jj t1 t2 t3 t4))), (.ref b31), (.ref y78)]) t → Sx p e below s₁ g₀ t := by
    intro t kt
    refine pre77 _ ?_
    refine st78.trans ?_
    show Sx p e below T78 (mkF m 236 #[iv p0, iv p1, iv p2, iv (own_n jj), rv b3, rv b31, iv (own_len (own_g4 jj t1 t2 t3 t4)), rv x52, rv sa52, iv (1 : Int32), .unset, .unset] [(.ref y78)]) _
    refine XS.astore X78.here hx rfl (hb hby at_236) rfl rfl (l' := #[iv p0, iv p1, iv p2, iv (own_n jj), rv b3, rv b31, iv (own_len (own_g4 jj t1 t2 t3 t4)), rv x52, rv sa52, iv (1 : Int32), rv y78, .unset]) rfl ?_
    refine XS.aload X78.here hx rfl (hb hby at_238) rfl rfl ?_
    refine X78.arraylength hx Ar79.1 (State.isArrayOf_alike hZ.alike Ar79.2.1) (g := (mkF m 240 #[iv p0, iv p1, iv p2, iv (own_n jj), rv b3, rv b31, iv (own_len (own_g4 jj t1 t2 t3 t4)), rv x52, rv sa52, iv (1 : Int32), rv y78, .unset] [(.ref y78)])) rfl rfl (hb hby at_240) _ ?_
    rw [len_of S79 M79]
    show Sx p e below T78 (mkF m 241 #[iv p0, iv p1, iv p2, iv (own_n jj), rv b3, rv b31, iv (own_len (own_g4 jj t1 t2 t3 t4)), rv x52, rv sa52, iv (1 : Int32), rv y78, .unset] [(.int (own_len (own_g4 jj t1 t2 t3 t4)))]) _
    refine XS.iload X78.here hx rfl (hb hby at_241) rfl ?_
    refine XS.icmpNo X78.here hx rfl (hb hby at_243) rfl (teq rfl).2 ?_
    refine XS.aload X78.here hx rfl (hb hby at_246) rfl rfl ?_
    refine XS.aload X78.here hx rfl (hb hby at_248) rfl rfl ?_
    refine XS.iload X78.here hx rfl (hb hby at_250) rfl ?_
    refine XS.iconst X78.here hx rfl (hb hby at_252) ?_
    exact kt
  have f81 := (((f47.keep Kc48 (ninS (Exa.ne ((f50.keep Kc52).keep Kc78) (((A45.keep Kc48).keep Kc52).keep Kc78) (by decide)) nin0)).keep Kc52 nin0).keep Kc78 nin0)
  obtain ⟨_, T82, Lc82, X82, hQ82, st82⟩ := own_cS X78 hx hZ (y := Y60) hown (own_w hw 198 rfl) (own_w hw 199 rfl) (own_w hw 4 rfl) (own_w hw 200 rfl) (by decide) (W := 0) (rm42 l Z a0 hw [] y78 b31 ky78 k31 (own_g4 jj t1 t2 t3 t4) 0 T78.heap n0 (Nat.le_trans Z0 K78.1) Vy78 (f54.keep Kc78 nin0) (by decide) (own_gl4 jj t1 t2 t3 t4)) (by decide) (by decide) (g := (mkF m 253 #[iv p0, iv p1, iv p2, iv (own_n jj), rv b3, rv b31, iv (own_len (own_g4 jj t1 t2 t3 t4)), rv x52, rv sa52, iv (1 : Int32), rv y78, .unset] [(.int (0 : Int32)), (.int (own_len (own_g4 jj t1 t2 t3 t4))), (.ref b31), (.ref y78)])) rfl hml.symm (argsL := [(.ref y78), (.ref b31), (.int (own_len (own_g4 jj t1 t2 t3 t4))), (.int (0 : Int32))]) (rest := []) (lenOf pd55 rfl) rfl (Nat.le_of_eq rfl) (hb hby at_253) rfl rfl (by decide) (by decide)
  obtain ⟨rfl, N82q, hh82⟩ := hQ82
  have N82 := Fr.app N78 N82q
  have pre83 : ∀ t, Sx p e below T82 (mkF m 266 #[iv p0, iv p1, iv p2, iv (own_n jj), rv b3, rv b31, iv (own_len (own_g4 jj t1 t2 t3 t4)), rv x52, rv sa52, iv (1 : Int32), rv y78, .unset] [(.int (1 : Int32)), (.int (own_len (own_g4 jj t1 t2 t3 t4))), (.ref b31), (.ref y78)]) t → Sx p e below s₁ g₀ t := by
    intro t kt
    refine pre80 _ ?_
    refine st82 _ ?_
    show Sx p e below T82 (mkF m 256 #[iv p0, iv p1, iv p2, iv (own_n jj), rv b3, rv b31, iv (own_len (own_g4 jj t1 t2 t3 t4)), rv x52, rv sa52, iv (1 : Int32), rv y78, .unset] [(.int (1 : Int32))]) _
    refine XS.ifNo X82.here hx rfl (hb hby at_256) rfl ((if0 _ _).trans (feq (by decide)).1) ?_
    refine XS.aload X82.here hx rfl (hb hby at_259) rfl rfl ?_
    refine XS.aload X82.here hx rfl (hb hby at_261) rfl rfl ?_
    refine XS.iload X82.here hx rfl (hb hby at_263) rfl ?_
    refine XS.iconst X82.here hx rfl (hb hby at_265) ?_
    exact kt
  obtain ⟨_, T84, Lc84, X84, hQ84, st84⟩ := own_cS X82 hx hZ (y := Y60) hown (own_w hw 198 rfl) (own_w hw 199 rfl) (own_w hw 4 rfl) (own_w hw 200 rfl) (by decide) (W := 0) (rm42 l Z a0 hw [] y78 b31 ky78 k31 (own_g4 jj t1 t2 t3 t4) 1 T78.heap n0 (Nat.le_trans Z0 K78.1) Vy78 (f54.keep Kc78 nin0) (by decide) (own_gl4 jj t1 t2 t3 t4)) (by decide) (by decide) (g := (mkF m 266 #[iv p0, iv p1, iv p2, iv (own_n jj), rv b3, rv b31, iv (own_len (own_g4 jj t1 t2 t3 t4)), rv x52, rv sa52, iv (1 : Int32), rv y78, .unset] [(.int (1 : Int32)), (.int (own_len (own_g4 jj t1 t2 t3 t4))), (.ref b31), (.ref y78)])) rfl hml.symm (argsL := [(.ref y78), (.ref b31), (.int (own_len (own_g4 jj t1 t2 t3 t4))), (.int (1 : Int32))]) (rest := []) (lenOf pd55 rfl) rfl (Nat.le_of_eq rfl) (hb hby at_266) rfl hh82 (by decide) (by decide)
  obtain ⟨rfl, N84q, hh84⟩ := hQ84
  have N84 := Fr.app N82 N84q
  have pre85 : ∀ t, Sx p e below T84 (mkF m 279 #[iv p0, iv p1, iv p2, iv (own_n jj), rv b3, rv b31, iv (own_len (own_g4 jj t1 t2 t3 t4)), rv x52, rv sa52, iv (1 : Int32), rv y78, .unset] [(.int (2 : Int32)), (.int (own_len (own_g4 jj t1 t2 t3 t4))), (.ref b31), (.ref y78)]) t → Sx p e below s₁ g₀ t := by
    intro t kt
    refine pre83 _ ?_
    refine st84 _ ?_
    show Sx p e below T84 (mkF m 269 #[iv p0, iv p1, iv p2, iv (own_n jj), rv b3, rv b31, iv (own_len (own_g4 jj t1 t2 t3 t4)), rv x52, rv sa52, iv (1 : Int32), rv y78, .unset] [(.int (1 : Int32))]) _
    refine XS.ifNo X84.here hx rfl (hb hby at_269) rfl ((if0 _ _).trans (feq (by decide)).1) ?_
    refine XS.aload X84.here hx rfl (hb hby at_272) rfl rfl ?_
    refine XS.aload X84.here hx rfl (hb hby at_274) rfl rfl ?_
    refine XS.iload X84.here hx rfl (hb hby at_276) rfl ?_
    refine XS.iconst X84.here hx rfl (hb hby at_278) ?_
    exact kt
  obtain ⟨_, T86, Lc86, X86, hQ86, st86⟩ := own_cS X84 hx hZ (y := Y60) hown (own_w hw 198 rfl) (own_w hw 199 rfl) (own_w hw 4 rfl) (own_w hw 200 rfl) (by decide) (W := 0) (rm42 l Z a0 hw [] y78 b31 ky78 k31 (own_g4 jj t1 t2 t3 t4) 2 T78.heap n0 (Nat.le_trans Z0 K78.1) Vy78 (f54.keep Kc78 nin0) (by decide) (own_gl4 jj t1 t2 t3 t4)) (by decide) (by decide) (g := (mkF m 279 #[iv p0, iv p1, iv p2, iv (own_n jj), rv b3, rv b31, iv (own_len (own_g4 jj t1 t2 t3 t4)), rv x52, rv sa52, iv (1 : Int32), rv y78, .unset] [(.int (2 : Int32)), (.int (own_len (own_g4 jj t1 t2 t3 t4))), (.ref b31), (.ref y78)])) rfl hml.symm (argsL := [(.ref y78), (.ref b31), (.int (own_len (own_g4 jj t1 t2 t3 t4))), (.int (2 : Int32))]) (rest := []) (lenOf pd55 rfl) rfl (Nat.le_of_eq rfl) (hb hby at_279) rfl hh84 (by decide) (by decide)
  obtain ⟨rfl, N86q, hh86⟩ := hQ86
  have N86 := Fr.app N84 N86q
  have pre87 : ∀ t, Sx p e below T86 (mkF m 292 #[iv p0, iv p1, iv p2, iv (own_n jj), rv b3, rv b31, iv (own_len (own_g4 jj t1 t2 t3 t4)), rv x52, rv sa52, iv (1 : Int32), rv y78, .unset] [(.int (3 : Int32)), (.int (own_len (own_g4 jj t1 t2 t3 t4))), (.ref b31), (.ref y78)]) t → Sx p e below s₁ g₀ t := by
    intro t kt
    refine pre85 _ ?_
    refine st86 _ ?_
    show Sx p e below T86 (mkF m 282 #[iv p0, iv p1, iv p2, iv (own_n jj), rv b3, rv b31, iv (own_len (own_g4 jj t1 t2 t3 t4)), rv x52, rv sa52, iv (1 : Int32), rv y78, .unset] [(.int (1 : Int32))]) _
    refine XS.ifNo X86.here hx rfl (hb hby at_282) rfl ((if0 _ _).trans (feq (by decide)).1) ?_
    refine XS.aload X86.here hx rfl (hb hby at_285) rfl rfl ?_
    refine XS.aload X86.here hx rfl (hb hby at_287) rfl rfl ?_
    refine XS.iload X86.here hx rfl (hb hby at_289) rfl ?_
    refine XS.iconst X86.here hx rfl (hb hby at_291) ?_
    exact kt
  obtain ⟨_, T88, Lc88, X88, hQ88, st88⟩ := own_cS X86 hx hZ (y := Y60) hown (own_w hw 198 rfl) (own_w hw 199 rfl) (own_w hw 4 rfl) (own_w hw 200 rfl) (by decide) (W := 0) (rm42 l Z a0 hw [] y78 b31 ky78 k31 (own_g4 jj t1 t2 t3 t4) 3 T78.heap n0 (Nat.le_trans Z0 K78.1) Vy78 (f54.keep Kc78 nin0) (by decide) (own_gl4 jj t1 t2 t3 t4)) (by decide) (by decide) (g := (mkF m 292 #[iv p0, iv p1, iv p2, iv (own_n jj), rv b3, rv b31, iv (own_len (own_g4 jj t1 t2 t3 t4)), rv x52, rv sa52, iv (1 : Int32), rv y78, .unset] [(.int (3 : Int32)), (.int (own_len (own_g4 jj t1 t2 t3 t4))), (.ref b31), (.ref y78)])) rfl hml.symm (argsL := [(.ref y78), (.ref b31), (.int (own_len (own_g4 jj t1 t2 t3 t4))), (.int (3 : Int32))]) (rest := []) (lenOf pd55 rfl) rfl (Nat.le_of_eq rfl) (hb hby at_292) rfl hh86 (by decide) (by decide)
  obtain ⟨rfl, N88q, hh88⟩ := hQ88
  have N88 := Fr.app N86 N88q
  have pre89 : ∀ t, Sx p e below T88 (mkF m 305 #[iv p0, iv p1, iv p2, iv (own_n jj), rv b3, rv b31, iv (own_len (own_g4 jj t1 t2 t3 t4)), rv x52, rv sa52, iv (1 : Int32), rv y78, .unset] [(.int (4 : Int32)), (.int (own_len (own_g4 jj t1 t2 t3 t4))), (.ref b31), (.ref y78)]) t → Sx p e below s₁ g₀ t := by
    intro t kt
    refine pre87 _ ?_
    refine st88 _ ?_
    show Sx p e below T88 (mkF m 295 #[iv p0, iv p1, iv p2, iv (own_n jj), rv b3, rv b31, iv (own_len (own_g4 jj t1 t2 t3 t4)), rv x52, rv sa52, iv (1 : Int32), rv y78, .unset] [(.int (1 : Int32))]) _
    refine XS.ifNo X88.here hx rfl (hb hby at_295) rfl ((if0 _ _).trans (feq (by decide)).1) ?_
    refine XS.aload X88.here hx rfl (hb hby at_298) rfl rfl ?_
    refine XS.aload X88.here hx rfl (hb hby at_300) rfl rfl ?_
    refine XS.iload X88.here hx rfl (hb hby at_302) rfl ?_
    refine XS.iconst X88.here hx rfl (hb hby at_304) ?_
    exact kt
  obtain ⟨_, T90, Lc90, X90, hQ90, st90⟩ := own_cS X88 hx hZ (y := Y60) hown (own_w hw 198 rfl) (own_w hw 199 rfl) (own_w hw 4 rfl) (own_w hw 200 rfl) (by decide) (W := 0) (rm42 l Z a0 hw [] y78 b31 ky78 k31 (own_g4 jj t1 t2 t3 t4) 4 T78.heap n0 (Nat.le_trans Z0 K78.1) Vy78 (f54.keep Kc78 nin0) (by decide) (own_gl4 jj t1 t2 t3 t4)) (by decide) (by decide) (g := (mkF m 305 #[iv p0, iv p1, iv p2, iv (own_n jj), rv b3, rv b31, iv (own_len (own_g4 jj t1 t2 t3 t4)), rv x52, rv sa52, iv (1 : Int32), rv y78, .unset] [(.int (4 : Int32)), (.int (own_len (own_g4 jj t1 t2 t3 t4))), (.ref b31), (.ref y78)])) rfl hml.symm (argsL := [(.ref y78), (.ref b31), (.int (own_len (own_g4 jj t1 t2 t3 t4))), (.int (4 : Int32))]) (rest := []) (lenOf pd55 rfl) rfl (Nat.le_of_eq rfl) (hb hby at_305) rfl hh88 (by decide) (by decide)
  obtain ⟨rfl, N90q, hh90⟩ := hQ90
  have N90 := Fr.app N88 N90q
  have pre91 : ∀ t, Sx p e below T90 (mkF m 318 #[iv p0, iv p1, iv p2, iv (own_n jj), rv b3, rv b31, iv (own_len (own_g4 jj t1 t2 t3 t4)), rv x52, rv sa52, iv (1 : Int32), rv y78, .unset] [(.int (5 : Int32)), (.int (own_len (own_g4 jj t1 t2 t3 t4))), (.ref b31), (.ref y78)]) t → Sx p e below s₁ g₀ t := by
    intro t kt
    refine pre89 _ ?_
    refine st90 _ ?_
    show Sx p e below T90 (mkF m 308 #[iv p0, iv p1, iv p2, iv (own_n jj), rv b3, rv b31, iv (own_len (own_g4 jj t1 t2 t3 t4)), rv x52, rv sa52, iv (1 : Int32), rv y78, .unset] [(.int (1 : Int32))]) _
    refine XS.ifNo X90.here hx rfl (hb hby at_308) rfl ((if0 _ _).trans (feq (by decide)).1) ?_
    refine XS.aload X90.here hx rfl (hb hby at_311) rfl rfl ?_
    refine XS.aload X90.here hx rfl (hb hby at_313) rfl rfl ?_
    refine XS.iload X90.here hx rfl (hb hby at_315) rfl ?_
    refine XS.iconst X90.here hx rfl (hb hby at_317) ?_
    exact kt
  obtain ⟨_, T92, Lc92, X92, hQ92, st92⟩ := own_cS X90 hx hZ (y := Y60) hown (own_w hw 198 rfl) (own_w hw 199 rfl) (own_w hw 4 rfl) (own_w hw 200 rfl) (by decide) (W := 0) (rm42 l Z a0 hw [] y78 b31 ky78 k31 (own_g4 jj t1 t2 t3 t4) 5 T78.heap n0 (Nat.le_trans Z0 K78.1) Vy78 (f54.keep Kc78 nin0) (by decide) (own_gl4 jj t1 t2 t3 t4)) (by decide) (by decide) (g := (mkF m 318 #[iv p0, iv p1, iv p2, iv (own_n jj), rv b3, rv b31, iv (own_len (own_g4 jj t1 t2 t3 t4)), rv x52, rv sa52, iv (1 : Int32), rv y78, .unset] [(.int (5 : Int32)), (.int (own_len (own_g4 jj t1 t2 t3 t4))), (.ref b31), (.ref y78)])) rfl hml.symm (argsL := [(.ref y78), (.ref b31), (.int (own_len (own_g4 jj t1 t2 t3 t4))), (.int (5 : Int32))]) (rest := []) (lenOf pd55 rfl) rfl (Nat.le_of_eq rfl) (hb hby at_318) rfl hh90 (by decide) (by decide)
  obtain ⟨rfl, N92q, hh92⟩ := hQ92
  have N92 := Fr.app N90 N92q
  have pre93 : ∀ t, Sx p e below T92 (mkF m 332 #[iv p0, iv p1, iv p2, iv (own_n jj), rv b3, rv b31, iv (own_len (own_g4 jj t1 t2 t3 t4)), rv x52, rv sa52, iv (1 : Int32), rv y78, .unset] [(.int (6 : Int32)), (.int (own_len (own_g4 jj t1 t2 t3 t4))), (.ref b31), (.ref y78)]) t → Sx p e below s₁ g₀ t := by
    intro t kt
    refine pre91 _ ?_
    refine st92 _ ?_
    show Sx p e below T92 (mkF m 321 #[iv p0, iv p1, iv p2, iv (own_n jj), rv b3, rv b31, iv (own_len (own_g4 jj t1 t2 t3 t4)), rv x52, rv sa52, iv (1 : Int32), rv y78, .unset] [(.int (1 : Int32))]) _
    refine XS.ifNo X92.here hx rfl (hb hby at_321) rfl ((if0 _ _).trans (feq (by decide)).1) ?_
    refine XS.aload X92.here hx rfl (hb hby at_324) rfl rfl ?_
    refine XS.aload X92.here hx rfl (hb hby at_326) rfl rfl ?_
    refine XS.iload X92.here hx rfl (hb hby at_328) rfl ?_
    refine XS.bipush X92.here hx rfl (hb hby at_330) ?_
    exact kt
  obtain ⟨_, T94, Lc94, X94, hQ94, st94⟩ := own_cS X92 hx hZ (y := Y60) hown (own_w hw 198 rfl) (own_w hw 199 rfl) (own_w hw 4 rfl) (own_w hw 200 rfl) (by decide) (W := 0) (rm42 l Z a0 hw [] y78 b31 ky78 k31 (own_g4 jj t1 t2 t3 t4) 6 T78.heap n0 (Nat.le_trans Z0 K78.1) Vy78 (f54.keep Kc78 nin0) (by decide) (own_gl4 jj t1 t2 t3 t4)) (by decide) (by decide) (g := (mkF m 332 #[iv p0, iv p1, iv p2, iv (own_n jj), rv b3, rv b31, iv (own_len (own_g4 jj t1 t2 t3 t4)), rv x52, rv sa52, iv (1 : Int32), rv y78, .unset] [(.int (6 : Int32)), (.int (own_len (own_g4 jj t1 t2 t3 t4))), (.ref b31), (.ref y78)])) rfl hml.symm (argsL := [(.ref y78), (.ref b31), (.int (own_len (own_g4 jj t1 t2 t3 t4))), (.int (6 : Int32))]) (rest := []) (lenOf pd55 rfl) rfl (Nat.le_of_eq rfl) (hb hby at_332) rfl hh92 (by decide) (by decide)
  obtain ⟨rfl, N94q, hh94⟩ := hQ94
  have N94 := Fr.app N92 N94q
  have pre95 : ∀ t, Sx p e below T94 (mkF m 346 #[iv p0, iv p1, iv p2, iv (own_n jj), rv b3, rv b31, iv (own_len (own_g4 jj t1 t2 t3 t4)), rv x52, rv sa52, iv (1 : Int32), rv y78, .unset] [(.int (7 : Int32)), (.int (own_len (own_g4 jj t1 t2 t3 t4))), (.ref b31), (.ref y78)]) t → Sx p e below s₁ g₀ t := by
    intro t kt
    refine pre93 _ ?_
    refine st94 _ ?_
    show Sx p e below T94 (mkF m 335 #[iv p0, iv p1, iv p2, iv (own_n jj), rv b3, rv b31, iv (own_len (own_g4 jj t1 t2 t3 t4)), rv x52, rv sa52, iv (1 : Int32), rv y78, .unset] [(.int (1 : Int32))]) _
    refine XS.ifNo X94.here hx rfl (hb hby at_335) rfl ((if0 _ _).trans (feq (by decide)).1) ?_
    refine XS.aload X94.here hx rfl (hb hby at_338) rfl rfl ?_
    refine XS.aload X94.here hx rfl (hb hby at_340) rfl rfl ?_
    refine XS.iload X94.here hx rfl (hb hby at_342) rfl ?_
    refine XS.bipush X94.here hx rfl (hb hby at_344) ?_
    exact kt
  obtain ⟨_, T96, Lc96, X96, hQ96, st96⟩ := own_cS X94 hx hZ (y := Y60) hown (own_w hw 198 rfl) (own_w hw 199 rfl) (own_w hw 4 rfl) (own_w hw 200 rfl) (by decide) (W := 0) (rm42 l Z a0 hw [] y78 b31 ky78 k31 (own_g4 jj t1 t2 t3 t4) 7 T78.heap n0 (Nat.le_trans Z0 K78.1) Vy78 (f54.keep Kc78 nin0) (by decide) (own_gl4 jj t1 t2 t3 t4)) (by decide) (by decide) (g := (mkF m 346 #[iv p0, iv p1, iv p2, iv (own_n jj), rv b3, rv b31, iv (own_len (own_g4 jj t1 t2 t3 t4)), rv x52, rv sa52, iv (1 : Int32), rv y78, .unset] [(.int (7 : Int32)), (.int (own_len (own_g4 jj t1 t2 t3 t4))), (.ref b31), (.ref y78)])) rfl hml.symm (argsL := [(.ref y78), (.ref b31), (.int (own_len (own_g4 jj t1 t2 t3 t4))), (.int (7 : Int32))]) (rest := []) (lenOf pd55 rfl) rfl (Nat.le_of_eq rfl) (hb hby at_346) rfl hh94 (by decide) (by decide)
  obtain ⟨rfl, N96q, hh96⟩ := hQ96
  have N96 := Fr.app N94 N96q
  have pre97 : ∀ t, Sx p e below T96 (mkF m 360 #[iv p0, iv p1, iv p2, iv (own_n jj), rv b3, rv b31, iv (own_len (own_g4 jj t1 t2 t3 t4)), rv x52, rv sa52, iv (1 : Int32), rv y78, .unset] [(.int (8 : Int32)), (.int (own_len (own_g4 jj t1 t2 t3 t4))), (.ref b31), (.ref y78)]) t → Sx p e below s₁ g₀ t := by
    intro t kt
    refine pre95 _ ?_
    refine st96 _ ?_
    show Sx p e below T96 (mkF m 349 #[iv p0, iv p1, iv p2, iv (own_n jj), rv b3, rv b31, iv (own_len (own_g4 jj t1 t2 t3 t4)), rv x52, rv sa52, iv (1 : Int32), rv y78, .unset] [(.int (1 : Int32))]) _
    refine XS.ifNo X96.here hx rfl (hb hby at_349) rfl ((if0 _ _).trans (feq (by decide)).1) ?_
    refine XS.aload X96.here hx rfl (hb hby at_352) rfl rfl ?_
    refine XS.aload X96.here hx rfl (hb hby at_354) rfl rfl ?_
    refine XS.iload X96.here hx rfl (hb hby at_356) rfl ?_
    refine XS.bipush X96.here hx rfl (hb hby at_358) ?_
    exact kt
  obtain ⟨_, T98, Lc98, X98, hQ98, st98⟩ := own_cS X96 hx hZ (y := Y60) hown (own_w hw 198 rfl) (own_w hw 199 rfl) (own_w hw 4 rfl) (own_w hw 200 rfl) (by decide) (W := 0) (rm42 l Z a0 hw [] y78 b31 ky78 k31 (own_g4 jj t1 t2 t3 t4) 8 T78.heap n0 (Nat.le_trans Z0 K78.1) Vy78 (f54.keep Kc78 nin0) (by decide) (own_gl4 jj t1 t2 t3 t4)) (by decide) (by decide) (g := (mkF m 360 #[iv p0, iv p1, iv p2, iv (own_n jj), rv b3, rv b31, iv (own_len (own_g4 jj t1 t2 t3 t4)), rv x52, rv sa52, iv (1 : Int32), rv y78, .unset] [(.int (8 : Int32)), (.int (own_len (own_g4 jj t1 t2 t3 t4))), (.ref b31), (.ref y78)])) rfl hml.symm (argsL := [(.ref y78), (.ref b31), (.int (own_len (own_g4 jj t1 t2 t3 t4))), (.int (8 : Int32))]) (rest := []) (lenOf pd55 rfl) rfl (Nat.le_of_eq rfl) (hb hby at_360) rfl hh96 (by decide) (by decide)
  obtain ⟨rfl, N98q, hh98⟩ := hQ98
  have N98 := Fr.app N96 N98q
  have pre99 : ∀ t, Sx p e below T98 (mkF m 374 #[iv p0, iv p1, iv p2, iv (own_n jj), rv b3, rv b31, iv (own_len (own_g4 jj t1 t2 t3 t4)), rv x52, rv sa52, iv (1 : Int32), rv y78, .unset] [(.int (9 : Int32)), (.int (own_len (own_g4 jj t1 t2 t3 t4))), (.ref b31), (.ref y78)]) t → Sx p e below s₁ g₀ t := by
    intro t kt
    refine pre97 _ ?_
    refine st98 _ ?_
    show Sx p e below T98 (mkF m 363 #[iv p0, iv p1, iv p2, iv (own_n jj), rv b3, rv b31, iv (own_len (own_g4 jj t1 t2 t3 t4)), rv x52, rv sa52, iv (1 : Int32), rv y78, .unset] [(.int (1 : Int32))]) _
    refine XS.ifNo X98.here hx rfl (hb hby at_363) rfl ((if0 _ _).trans (feq (by decide)).1) ?_
    refine XS.aload X98.here hx rfl (hb hby at_366) rfl rfl ?_
    refine XS.aload X98.here hx rfl (hb hby at_368) rfl rfl ?_
    refine XS.iload X98.here hx rfl (hb hby at_370) rfl ?_
    refine XS.bipush X98.here hx rfl (hb hby at_372) ?_
    exact kt
  obtain ⟨_, T100, Lc100, X100, hQ100, st100⟩ := own_cS X98 hx hZ (y := Y60) hown (own_w hw 198 rfl) (own_w hw 199 rfl) (own_w hw 4 rfl) (own_w hw 200 rfl) (by decide) (W := 0) (rm42 l Z a0 hw [] y78 b31 ky78 k31 (own_g4 jj t1 t2 t3 t4) 9 T78.heap n0 (Nat.le_trans Z0 K78.1) Vy78 (f54.keep Kc78 nin0) (by decide) (own_gl4 jj t1 t2 t3 t4)) (by decide) (by decide) (g := (mkF m 374 #[iv p0, iv p1, iv p2, iv (own_n jj), rv b3, rv b31, iv (own_len (own_g4 jj t1 t2 t3 t4)), rv x52, rv sa52, iv (1 : Int32), rv y78, .unset] [(.int (9 : Int32)), (.int (own_len (own_g4 jj t1 t2 t3 t4))), (.ref b31), (.ref y78)])) rfl hml.symm (argsL := [(.ref y78), (.ref b31), (.int (own_len (own_g4 jj t1 t2 t3 t4))), (.int (9 : Int32))]) (rest := []) (lenOf pd55 rfl) rfl (Nat.le_of_eq rfl) (hb hby at_374) rfl hh98 (by decide) (by decide)
  obtain ⟨rfl, N100q, hh100⟩ := hQ100
  have N100 := Fr.app N98 N100q
  have pre101 : ∀ t, Sx p e below T100 (mkF m 388 #[iv p0, iv p1, iv p2, iv (own_n jj), rv b3, rv b31, iv (own_len (own_g4 jj t1 t2 t3 t4)), rv x52, rv sa52, iv (1 : Int32), rv y78, .unset] [(.int (10 : Int32)), (.int (own_len (own_g4 jj t1 t2 t3 t4))), (.ref b31), (.ref y78)]) t → Sx p e below s₁ g₀ t := by
    intro t kt
    refine pre99 _ ?_
    refine st100 _ ?_
    show Sx p e below T100 (mkF m 377 #[iv p0, iv p1, iv p2, iv (own_n jj), rv b3, rv b31, iv (own_len (own_g4 jj t1 t2 t3 t4)), rv x52, rv sa52, iv (1 : Int32), rv y78, .unset] [(.int (1 : Int32))]) _
    refine XS.ifNo X100.here hx rfl (hb hby at_377) rfl ((if0 _ _).trans (feq (by decide)).1) ?_
    refine XS.aload X100.here hx rfl (hb hby at_380) rfl rfl ?_
    refine XS.aload X100.here hx rfl (hb hby at_382) rfl rfl ?_
    refine XS.iload X100.here hx rfl (hb hby at_384) rfl ?_
    refine XS.bipush X100.here hx rfl (hb hby at_386) ?_
    exact kt
  obtain ⟨_, T102, Lc102, X102, hQ102, st102⟩ := own_cS X100 hx hZ (y := Y60) hown (own_w hw 198 rfl) (own_w hw 199 rfl) (own_w hw 4 rfl) (own_w hw 200 rfl) (by decide) (W := 0) (rm42 l Z a0 hw [] y78 b31 ky78 k31 (own_g4 jj t1 t2 t3 t4) 10 T78.heap n0 (Nat.le_trans Z0 K78.1) Vy78 (f54.keep Kc78 nin0) (by decide) (own_gl4 jj t1 t2 t3 t4)) (by decide) (by decide) (g := (mkF m 388 #[iv p0, iv p1, iv p2, iv (own_n jj), rv b3, rv b31, iv (own_len (own_g4 jj t1 t2 t3 t4)), rv x52, rv sa52, iv (1 : Int32), rv y78, .unset] [(.int (10 : Int32)), (.int (own_len (own_g4 jj t1 t2 t3 t4))), (.ref b31), (.ref y78)])) rfl hml.symm (argsL := [(.ref y78), (.ref b31), (.int (own_len (own_g4 jj t1 t2 t3 t4))), (.int (10 : Int32))]) (rest := []) (lenOf pd55 rfl) rfl (Nat.le_of_eq rfl) (hb hby at_388) rfl hh100 (by decide) (by decide)
  obtain ⟨rfl, N102q, hh102⟩ := hQ102
  have N102 := Fr.app N100 N102q
  have pre103 : ∀ t, Sx p e below T102 (mkF m 402 #[iv p0, iv p1, iv p2, iv (own_n jj), rv b3, rv b31, iv (own_len (own_g4 jj t1 t2 t3 t4)), rv x52, rv sa52, iv (1 : Int32), rv y78, .unset] [(.int (11 : Int32)), (.int (own_len (own_g4 jj t1 t2 t3 t4))), (.ref b31), (.ref y78)]) t → Sx p e below s₁ g₀ t := by
    intro t kt
    refine pre101 _ ?_
    refine st102 _ ?_
    show Sx p e below T102 (mkF m 391 #[iv p0, iv p1, iv p2, iv (own_n jj), rv b3, rv b31, iv (own_len (own_g4 jj t1 t2 t3 t4)), rv x52, rv sa52, iv (1 : Int32), rv y78, .unset] [(.int (1 : Int32))]) _
    refine XS.ifNo X102.here hx rfl (hb hby at_391) rfl ((if0 _ _).trans (feq (by decide)).1) ?_
    refine XS.aload X102.here hx rfl (hb hby at_394) rfl rfl ?_
    refine XS.aload X102.here hx rfl (hb hby at_396) rfl rfl ?_
    refine XS.iload X102.here hx rfl (hb hby at_398) rfl ?_
    refine XS.bipush X102.here hx rfl (hb hby at_400) ?_
    exact kt
  obtain ⟨_, T104, Lc104, X104, hQ104, st104⟩ := own_cS X102 hx hZ (y := Y60) hown (own_w hw 198 rfl) (own_w hw 199 rfl) (own_w hw 4 rfl) (own_w hw 200 rfl) (by decide) (W := 0) (rm42 l Z a0 hw [] y78 b31 ky78 k31 (own_g4 jj t1 t2 t3 t4) 11 T78.heap n0 (Nat.le_trans Z0 K78.1) Vy78 (f54.keep Kc78 nin0) (by decide) (own_gl4 jj t1 t2 t3 t4)) (by decide) (by decide) (g := (mkF m 402 #[iv p0, iv p1, iv p2, iv (own_n jj), rv b3, rv b31, iv (own_len (own_g4 jj t1 t2 t3 t4)), rv x52, rv sa52, iv (1 : Int32), rv y78, .unset] [(.int (11 : Int32)), (.int (own_len (own_g4 jj t1 t2 t3 t4))), (.ref b31), (.ref y78)])) rfl hml.symm (argsL := [(.ref y78), (.ref b31), (.int (own_len (own_g4 jj t1 t2 t3 t4))), (.int (11 : Int32))]) (rest := []) (lenOf pd55 rfl) rfl (Nat.le_of_eq rfl) (hb hby at_402) rfl hh102 (by decide) (by decide)
  obtain ⟨rfl, N104q, hh104⟩ := hQ104
  have N104 := Fr.app N102 N104q
  have pre105 : ∀ t, Sx p e below T104 (mkF m 430 #[iv p0, iv p1, iv p2, iv (own_n jj), rv b3, rv b31, iv (own_len (own_g4 jj t1 t2 t3 t4)), rv x52, rv sa52, iv (1 : Int32), rv y78, iv (1 : Int32)] [(.int (1 : Int32))]) t → Sx p e below s₁ g₀ t := by
    intro t kt
    refine pre103 _ ?_
    refine st104 _ ?_
    show Sx p e below T104 (mkF m 405 #[iv p0, iv p1, iv p2, iv (own_n jj), rv b3, rv b31, iv (own_len (own_g4 jj t1 t2 t3 t4)), rv x52, rv sa52, iv (1 : Int32), rv y78, .unset] [(.int (1 : Int32))]) _
    refine XS.ifNo X104.here hx rfl (hb hby at_405) rfl ((if0 _ _).trans (feq (by decide)).1) ?_
    refine XS.iconst X104.here hx rfl (hb hby at_408) ?_
    refine XS.goto X104.here hx rfl (pc0 := 409) (pc' := 413) rfl (hb hby at_409) (by decide) (by decide) ?_
    refine XS.istore X104.here hx rfl (hb hby at_413) rfl (l' := #[iv p0, iv p1, iv p2, iv (own_n jj), rv b3, rv b31, iv (own_len (own_g4 jj t1 t2 t3 t4)), rv x52, rv sa52, iv (1 : Int32), rv y78, iv (1 : Int32)]) rfl ?_
    refine XS.iload X104.here hx rfl (hb hby at_415) rfl ?_
    refine XS.ifNo X104.here hx rfl (hb hby at_417) rfl ((if0 _ _).trans (feq (by decide)).1) ?_
    refine XS.iload X104.here hx rfl (hb hby at_420) rfl ?_
    refine XS.ifNo X104.here hx rfl (hb hby at_422) rfl ((if0 _ _).trans (feq (by decide)).1) ?_
    refine XS.iconst X104.here hx rfl (hb hby at_425) ?_
    refine XS.goto X104.here hx rfl (pc0 := 426) (pc' := 430) rfl (hb hby at_426) (by decide) (by decide) ?_
    exact kt
  obtain ⟨fs, hr, hrun, hended, hW, hsame⟩ := X104.leave (v := some (.int (1 : Int32))) (fun h => by rw [Bd.returns] at h; cases h)
  refine ⟨_, _, _, pre105 _ ?_, hrun, hended, ?_, ⟨_, rfl⟩, hW, hsame.mono (by decide) (by decide)⟩
  · show Steps p.tables e below (T104.setTop (mkF m 430 #[iv p0, iv p1, iv p2, iv (own_n jj), rv b3, rv b31, iv (own_len (own_g4 jj t1 t2 t3 t4)), rv x52, rv sa52, iv (1 : Int32), rv y78, iv (1 : Int32)] [(.int (1 : Int32))])) _
    exact retN X104 hx (t := .boolean) Bd.returns (by simp) (hb hby at_430) hr
  · show Q0 Z p0 p1 p2 cs fm u8 h0 n0 _ T104.heap _
    rw [hh104]
    exact ⟨rfl, N104⟩
theorem comes_1 {Post : Tables → Env → Array Value → State → Outcome → State → Prop} (hpost : ∀ tb e args s v u, (limb_1_1.after args s (.returned v) u = true ∧ limb_1_2.after args s (.returned v) u = true ∧ True) → FrameEnd s (.returned v) u (Jvm.fieldLocs frame_1_writes args s ++ Jvm.arrayLocs frame_1_arrays args s ++ Jvm.staticLocs frame_1_statics s) 40 256 → Post tb e args s (.returned v) u) :
    ArmFor flags0 classFile x code maxLocals ret World_1 tables_1 room_1 Calls_1 rest_1 Pre_1 Post := by
  intro l hfl _ _ p e ha hc hk s m args below hf hA hF happ hP
  obtain ⟨hcalls, hrest, hpre⟩ := hP
  obtain ⟨-, -, -, hnamed, -, -, -, hat⟩ := (Spec.applies_iff hf).mp happ
  obtain ⟨hg, hn⟩ := and_e (Cond.before_iff.mp (show (Jvm.Cond.and given_1 narrow_1).before args s = true from hpre))
  obtain ⟨gg1, gg2⟩ := and_e hg
  obtain ⟨gg3, gg4⟩ := and_e gg2
  obtain ⟨gg5, gg6⟩ := and_e gg4
  obtain ⟨w0, w1, w2, rfl⟩ : ∃ w0 w1 w2 : Value, args = #[w0, w1, w2] := by
    have hs : args.size = 3 := by simpa [Cond.value, given_1] using gg1
    obtain ⟨L⟩ := args
    match L, hs with
    | [w0, w1, w2], _ => exact ⟨w0, w1, w2, rfl⟩
  have hw := fun d (hd : d ∈ tables_1) => atoms_spec (ws := Jvm.Cond.code x code maxLocals ret :: tables_1) hat d (List.mem_cons_of_mem _ hd)
  have hfit : Fit s := fun {y c} hc i hi => by
    obtain ⟨ha, rfl⟩ := Array.getElem?_eq_some_iff.mp hc
    have q := List.all_eq_true.mp ((Array.all_eq_true_iff_forall_mem.mp hF) _ (Array.getElem_mem ha)) i (List.mem_range.mpr hi)
    simpa [Array.getElem?_eq_getElem hi] using q
  obtain ⟨hsets, hown0⟩ := atoms_of _ (rest_1_c_eq ▸ (show rest_1_c.before _ s = true from hrest))
  have hr0 := Cond.before_iff.mp hown0
  obtain ⟨i0, ei0⟩ := is_v gg3
  obtain rfl : w0 = (.int i0) := Option.some.inj ei0
  obtain ⟨i1, ei1⟩ := is_v gg5
  obtain rfl : w1 = (.int i1) := Option.some.inj ei1
  obtain ⟨i2, ei2⟩ := is_v gg6
  obtain rfl : w2 = (.int i2) := Option.some.inj ei2
  have rc0 := Cond.before_iff.mp (hsets _ (List.mem_of_getElem? (i := 1) rfl))
  obtain ⟨cs, ecs⟩ := is_v rc0
  have Scs := Sta.start ecs (Or.inl (hsets _ (List.mem_of_getElem? (i := 0) rfl)))
  have rc1 := not_v (Cond.before_iff.mp (hsets _ (List.mem_of_getElem? (i := 2) rfl)))
  have hcs : ¬ (cs = (0 : Int32)) := fun q => by
    have e : (Jvm.Cond.eq (Jvm.Term.static "java/lang/String" "COMPACT_STRINGS" "Z") (Jvm.Term.int (0 : Int32))).value #[.int i0, .int i1, .int i2] s none s [] = some (decide (cs = (0 : Int32))) := by simp [Cond.value, ecs, Term.int_eval]
    rw [e] at rc1
    simp [q] at rc1
  obtain ⟨fm, efm, hr_fm⟩ := isR_v (Cond.before_iff.mp (hsets _ (List.mem_of_getElem? (i := 8) rfl)))
  have Sfm := Sta.start efm (Or.inl (hsets _ (List.mem_of_getElem? (i := 7) rfl)))
  obtain ⟨u8, eu8⟩ := exa_v (Cond.before_iff.mp (hsets _ (List.mem_of_getElem? (i := 14) rfl)))
  obtain ⟨v8, ev8⟩ := exa_v (Cond.before_iff.mp (hsets _ (List.mem_of_getElem? (i := 17) rfl)))
  obtain rfl := own_sr eu8 ev8 (Cond.before_iff.mp (hsets _ (List.mem_of_getElem? (i := 13) rfl)))
  have Su8 := Sta.start eu8 (Or.inl (hsets _ (List.mem_of_getElem? (i := 10) rfl)))
  have Sin := Sta.start ev8 (Or.inl (hsets _ (List.mem_of_getElem? (i := 12) rfl)))
  have Sad := Sta.start (own_si (Cond.before_iff.mp (hsets _ (List.mem_of_getElem? (i := 21) rfl)))) (Or.inl (hsets _ (List.mem_of_getElem? (i := 20) rfl)))
  have Shi := Sta.start (own_si (Cond.before_iff.mp (hsets _ (List.mem_of_getElem? (i := 24) rfl)))) (Or.inl (hsets _ (List.mem_of_getElem? (i := 23) rfl)))
  have Slo := Sta.start (own_si (Cond.before_iff.mp (hsets _ (List.mem_of_getElem? (i := 27) rfl)))) (Or.inl (hsets _ (List.mem_of_getElem? (i := 26) rfl)))
  obtain ⟨n, o, h1, h2, h3, _, L, rfl, ⟨rfl, N⟩, hq⟩ := rm0 l s _ hw tables_1 i0 i1 i2 cs fm v8 s.heap s.heap.size (Nat.le_refl _) (Old.start s) Scs hcs Sfm hr_fm Sad Shi Slo Su8 Sin p e ha hc hk s m _ below hf ((Spec.applies_iff_loose hf).mp happ).1 ⟨rfl, State.Warmed39.refl s, rfl⟩ trivial
  refine ⟨n, _, h1, h2, h3, hpost _ _ _ _ _ _ ⟨Cond.after_iff.mpr rfl, Cond.after_iff.mpr (eq_i res_at (Term.int_eval (1)) rfl), trivial⟩ ⟨hq.1, hq.2.1, (hq.2.2.sift fun y hy => Or.inr (N y hy)).mono (by decide) (by decide)⟩⟩
theorem main_1_1 : Claimed_1_1 := comes_1 fun _ _ _ _ _ _ h hF => ⟨h.1, hF⟩
theorem main_1_2 : Claimed_1_2 := comes_1 fun _ _ _ _ _ _ h hF => ⟨h.2.1, hF⟩
end Jvm.Pilot.@@N@@
namespace Jvm.Pilot.@@N@@
open Jvm Jvm.ClassFile Sem Op Lib Jvm.Free Jvm.Stand Jvm.Pilot.@@N@@.Jvm.D
/-! MADE BY PROGRAM (witnessworld.py) out of the Statement's table words and the real class files: 30 classes; the members and pool entries that the words name. The judged class is class 1, her method 1. -/
namespace start1
open Jvm.ClassFile
def u (s : String) : CpInfo := .utf8 (stringToUtf16 s)
/-- a pool by its gaps: so many unusable entries, then the entry; so many at the end -/
def gap : Nat → List CpInfo → List CpInfo
  | 0, r => r
  | n + 1, r => .unusable :: gap n r
def poolList (es : List (Nat × CpInfo)) (last : Nat) : List CpInfo := es.foldr (fun e r => gap e.1 (e.2 :: r)) (gap last [])
def pool (es : List (Nat × CpInfo)) (last : Nat) : Array CpInfo := ⟨poolList es last⟩
def fileOf (pool : Array CpInfo) (this : Nat) (attrs : Array Attribute := #[]) (ms : Array MethodInfo := #[]) (fl : Nat := 33) (sup : Nat := 0) (ifs : Array Nat := #[]) (fds : Array FieldInfo := #[]) : ClassFile where
  minorVersion := 0
  majorVersion := 65
  constantPool := pool
  accessFlags := fl
  thisClass := this
  superClass := sup
  interfaces := ifs
  fields := fds
  methods := ms
  attributes := attrs
def plain (name : String) (sup : Option ClassId) : Class where
  name := name
  kind := .ordinary
  loader := none
  accessFlags := 33
  super := sup
  interfaces := #[]
  cf := none
  fields := #[]
  methods := #[]
  instanceTypes := #[]
  staticTypes := #[]
  resolved := #[]
  callSites := []
  init := .initialized
  statics := none
  mirror := none

def pool0 : Array CpInfo := pool [(5, u "<init>"), (0, u "()V"), (1, .class_ 10), (1, u "java/lang/Object"), (85, u "clone"), (0, u "()Ljava/lang/Object;")] 26

def k0c0 : Code := { maxStack := 0, maxLocals := 1, code := object_method_1_code, exceptionTable := #[], attributes := #[] }
def k0m0 : Method := { name := "<init>", desc := "()V", sig := { parameters := [], returnType := none }, accessFlags := 1, code := some k0c0 }
def k0m1 : Method := { name := "clone", desc := "()Ljava/lang/Object;", sig := { parameters := [], returnType := some (.object "java/lang/Object") }, accessFlags := 260, code := none }
/-- java/lang/Object -/
def k0 : Class := { plain "java/lang/Object" none with
  accessFlags := 33
  interfaces := #[]
  cf := some (fileOf pool0 8 #[] #[{ accessFlags := 1, nameIndex := 5, descriptorIndex := 6, attributes := #[] }, { accessFlags := 260, nameIndex := 96, descriptorIndex := 97, attributes := #[] }] 33 0 #[] #[])
  fields := #[]
  methods := #[k0m0, k0m1]
  instanceTypes := #[]
  staticTypes := #[]
  resolved := Array.replicate 124 none
  statics := none }

def pool1 : Array CpInfo := pool [(2, .class_ 4), (1, u "java/lang/Object"), (0, u "<init>"), (0, u "()V"), (0, .integer 65535), (0, .methodref 9 10), (0, .class_ 11), (0, .nameAndType 12 13), (0, u "com/example/treewarden/treewarden/session/CredentialParsePinLaw"), (0, u "pick"), (0, u "(CII)C"), (0, .methodref 9 15), (0, .nameAndType 16 17), (0, u "put"), (0, u "([BI[CII)I"), (0, .class_ 19), (0, u "java/lang/String"), (0, .methodref 18 21), (0, .nameAndType 5 22), (0, u "([C)V"), (0, .methodref 24 25), (0, .class_ 26), (0, .nameAndType 27 28), (0, u "com/example/treewarden/treewarden/session/Credential"), (0, u "parse"), (0, u "(Ljava/lang/String;)Lcom/example/treewarden/treewarden/session/Credential;"), (0, .methodref 24 30), (0, .nameAndType 31 32), (0, u "scheme"), (0, u "()Ljava/lang/String;"), (0, .methodref 18 34), (0, .nameAndType 35 36), (0, u "length"), (0, u "()I"), (0, .methodref 18 38), (0, .nameAndType 39 40), (0, u "charAt"), (0, u "(I)C"), (0, .methodref 24 42), (0, .nameAndType 43 44), (0, u "secret"), (0, u "()[B"), (0, .methodref 9 46), (0, .nameAndType 47 48), (0, u "eqAt"), (0, u "([B[BII)Z"), (0, .integer 55296), (0, .integer 57343), (2, u "law"), (0, u "(III)Z")] 7

def k1m0 : Method := { name := "<init>", desc := "()V", sig := { parameters := [], returnType := none }, accessFlags := 1, code := none }
def k1c1 : Code := { maxStack := 5, maxLocals := 12, code := code, exceptionTable := #[], attributes := #[] }
def k1m1 : Method := { name := "law", desc := "(III)Z", sig := { parameters := [.int, .int, .int], returnType := some .boolean }, accessFlags := 9, code := some k1c1 }
def k1c2 : Code := { maxStack := 2, maxLocals := 3, code := method_3_code, exceptionTable := #[], attributes := #[] }
def k1m2 : Method := { name := "pick", desc := "(CII)C", sig := { parameters := [.char, .int, .int], returnType := some .char }, accessFlags := 10, code := some k1c2 }
def k1c3 : Code := { maxStack := 5, maxLocals := 6, code := method_4_code, exceptionTable := #[], attributes := #[] }
def k1m3 : Method := { name := "put", desc := "([BI[CII)I", sig := { parameters := [(.array .byte), .int, (.array .char), .int, .int], returnType := some .int }, accessFlags := 10, code := some k1c3 }
def k1c4 : Code := { maxStack := 3, maxLocals := 4, code := method_5_code, exceptionTable := #[], attributes := #[] }
def k1m4 : Method := { name := "eqAt", desc := "([B[BII)Z", sig := { parameters := [(.array .byte), (.array .byte), .int, .int], returnType := some .boolean }, accessFlags := 10, code := some k1c4 }
/-- com/example/treewarden/treewarden/session/CredentialParsePinLaw -/
def k1 : Class := { plain "com/example/treewarden/treewarden/session/CredentialParsePinLaw" (some 0) with
  accessFlags := 49
  interfaces := #[]
  cf := some (fileOf pool1 9 #[] #[{ accessFlags := 1, nameIndex := 5, descriptorIndex := 6, attributes := #[] }, { accessFlags := 9, nameIndex := 53, descriptorIndex := 54, attributes := #[] }, { accessFlags := 10, nameIndex := 12, descriptorIndex := 13, attributes := #[] }, { accessFlags := 10, nameIndex := 16, descriptorIndex := 17, attributes := #[] }, { accessFlags := 10, nameIndex := 47, descriptorIndex := 48, attributes := #[] }] 49 2 #[] #[])
  fields := #[]
  methods := #[k1m0, k1m1, k1m2, k1m3, k1m4]
  instanceTypes := #[]
  staticTypes := #[]
  resolved := Array.replicate 62 none
  statics := none }

def pool2 : Array CpInfo := pool [(1, .class_ 2), (0, u "java/io/Serializable"), (0, .class_ 4), (0, u "java/lang/Object")] 2

/-- java/io/Serializable -/
def k2 : Class := { plain "java/io/Serializable" (some 0) with
  accessFlags := 1537
  interfaces := #[]
  cf := some (fileOf pool2 1 #[] #[] 1537 3 #[] #[])
  fields := #[]
  methods := #[]
  instanceTypes := #[]
  staticTypes := #[]
  resolved := Array.replicate 7 none
  statics := none }

def pool3 : Array CpInfo := pool [(1, .class_ 2), (0, u "java/lang/Comparable"), (0, .class_ 4), (0, u "java/lang/Object")] 7

/-- java/lang/Comparable -/
def k3 : Class := { plain "java/lang/Comparable" (some 0) with
  accessFlags := 1537
  interfaces := #[]
  cf := some (fileOf pool3 1 #[] #[] 1537 3 #[] #[])
  fields := #[]
  methods := #[]
  instanceTypes := #[]
  staticTypes := #[]
  resolved := Array.replicate 12 none
  statics := none }

def pool4 : Array CpInfo := pool [(2, .class_ 4), (1, u "java/lang/CharSequence"), (42, .class_ 48), (0, u "java/lang/CharSequence$1CodePointIterator"), (10, .class_ 60), (0, u "java/lang/CharSequence$1CharIterator"), (5, .class_ 67), (0, u "java/lang/Object")] 63

/-- java/lang/CharSequence -/
def k4 : Class := { plain "java/lang/CharSequence" (some 0) with
  accessFlags := 1537
  interfaces := #[]
  cf := some (fileOf pool4 2 #[.nestMembers #[47, 59]] #[] 1537 66 #[] #[])
  fields := #[]
  methods := #[]
  instanceTypes := #[]
  staticTypes := #[]
  resolved := Array.replicate 131 none
  statics := none }

def pool5 : Array CpInfo := pool [(1, .class_ 2), (0, u "java/lang/constant/Constable"), (0, .class_ 4), (0, u "java/lang/Object")] 6

/-- java/lang/constant/Constable -/
def k5 : Class := { plain "java/lang/constant/Constable" (some 0) with
  accessFlags := 1537
  interfaces := #[]
  cf := some (fileOf pool5 1 #[] #[] 1537 3 #[] #[])
  fields := #[]
  methods := #[]
  instanceTypes := #[]
  staticTypes := #[]
  resolved := Array.replicate 11 none
  statics := none }

def pool6 : Array CpInfo := pool [(1, .class_ 2), (0, u "java/lang/constant/ConstantDesc"), (0, .class_ 4), (0, u "java/lang/Object")] 32

/-- java/lang/constant/ConstantDesc -/
def k6 : Class := { plain "java/lang/constant/ConstantDesc" (some 0) with
  accessFlags := 1537
  interfaces := #[]
  cf := some (fileOf pool6 1 #[] #[] 1537 3 #[] #[])
  fields := #[]
  methods := #[]
  instanceTypes := #[]
  staticTypes := #[]
  resolved := Array.replicate 37 none
  statics := none }

def pool7 : Array CpInfo := pool [(1, .methodref 2 3), (0, .class_ 4), (0, .nameAndType 5 6), (0, u "java/lang/Object"), (0, u "<init>"), (0, u "()V"), (2, .fieldref 10 11), (0, .class_ 12), (0, .nameAndType 13 14), (0, u "java/lang/String"), (0, u "value"), (0, u "[B"), (0, .fieldref 10 16), (0, .nameAndType 17 18), (0, u "coder"), (0, u "B"), (2, u "hash"), (0, u "I"), (2, u "hashIsZero"), (0, u "Z"), (0, .methodref 10 28), (0, .nameAndType 5 29), (0, u "([CIILjava/lang/Void;)V"), (6, u "checkBoundsOffCount"), (0, u "(III)I"), (0, .fieldref 10 39), (0, .nameAndType 40 26), (0, u "COMPACT_STRINGS"), (1, .class_ 44), (1, u "java/lang/StringUTF16"), (0, u "compress"), (1, .methodref 42 48), (0, .nameAndType 49 50), (0, u "coderFromArrayLen"), (0, u "([BI)B"), (4, .class_ 57), (1, u "java/util/Arrays"), (2, .methodref 42 61), (0, .nameAndType 62 63), (0, u "newBytesFor"), (0, u "(I)[B"), (22, .fieldref 87 88), (0, .class_ 89), (0, .nameAndType 90 91), (0, u "sun/nio/cs/UTF_8"), (0, u "INSTANCE"), (0, u "Lsun/nio/cs/UTF_8;"), (1, .class_ 95), (1, u "java/lang/StringCoding"), (6, .methodref 55 103), (0, .nameAndType 104 105), (0, u "copyOf"), (0, u "([BI)[B"), (1, .class_ 109), (1, u "java/lang/StringLatin1"), (18, .methodref 93 129), (0, .nameAndType 130 131), (0, u "hasNegatives"), (0, u "([BII)Z"), (10, u "()Z"), (34, .methodref 42 178), (0, .nameAndType 45 179), (0, u "([CII)[B"), (31, u "([BB)V"), (40, .methodref 10 253), (0, .nameAndType 254 255), (0, u "encodeUTF8"), (0, u "(B[BZ)[B"), (23, .methodref 280 281), (0, .class_ 14), (0, .nameAndType 282 283), (0, u "clone"), (0, u "()Ljava/lang/Object;"), (33, u "encode"), (16, u "()I"), (0, .methodref 10 336), (0, .nameAndType 17 337), (0, u "()B"), (22, .methodref 42 361), (0, .nameAndType 362 363), (0, u "getChar"), (0, u "([BI)C"), (1, .class_ 367), (1, u "java/lang/Character"), (1, u "(C)Z"), (21, u "(II)V"), (12, .methodref 365 405), (0, .nameAndType 406 369), (0, u "isSurrogate"), (20, u "(I)C"), (45, .methodref 10 474), (0, .nameAndType 475 476), (0, u "encodeUTF8_UTF16"), (0, u "([BZ)[B"), (15, .methodref 10 493), (0, .nameAndType 494 142), (0, u "isLatin1"), (0, .methodref 107 496), (0, .nameAndType 497 363), (0, u "charAt"), (0, .methodref 42 496), (2, u "checkIndex"), (3, .methodref 10 506), (0, .nameAndType 507 334), (0, u "length"), (5, u "checkFromToIndex"), (7, .methodref 10 522), (0, .nameAndType 523 524), (0, u "checkBoundsBeginEnd"), (0, u "(III)V"), (7, u "getBytes"), (2, .methodref 10 536), (0, .nameAndType 317 537), (0, u "(Ljava/nio/charset/Charset;B[B)[B"), (37, .class_ 576), (0, u "java/lang/CharSequence"), (22, u "CASE_INSENSITIVE_ORDER"), (0, u "Ljava/util/Comparator;"), (32, .methodref 10 634), (0, .nameAndType 635 636), (0, u "indexOf"), (0, u "(II)I"), (0, .methodref 107 638), (0, .nameAndType 635 639), (0, u "([BIII)I"), (0, .methodref 42 638), (40, .methodref 10 682), (0, .nameAndType 683 684), (0, u "substring"), (0, u "(II)Ljava/lang/String;"), (0, .methodref 107 686), (0, .nameAndType 687 688), (0, u "newString"), (0, u "([BII)Ljava/lang/String;"), (0, .methodref 42 686), (75, u "(I)I"), (126, u "(I)Ljava/lang/String;"), (117, u "([C)V"), (42, .fieldref 1054 1055), (0, .class_ 1056), (0, .nameAndType 1057 1058), (0, u "jdk/internal/util/Preconditions"), (0, u "SIOOBE_FORMATTER"), (0, u "Ljava/util/function/BiFunction;"), (0, .methodref 1054 1060), (0, .nameAndType 501 1061), (0, u "(IILjava/util/function/BiFunction;)I"), (0, .methodref 1054 1063), (0, .nameAndType 513 1064), (0, u "(IIILjava/util/function/BiFunction;)I"), (0, .methodref 1054 1066), (0, .nameAndType 1067 1064), (0, u "checkFromIndexSize"), (33, u "serialPersistentFields"), (0, u "[Ljava/io/ObjectStreamField;"), (0, .class_ 1104), (0, u "java/lang/String$CaseInsensitiveComparator"), (1, .class_ 1107), (0, u "java/io/Serializable"), (0, .class_ 1109), (0, u "java/lang/Comparable"), (0, .class_ 1111), (0, u "java/lang/constant/Constable"), (0, .class_ 1113), (0, u "java/lang/constant/ConstantDesc"), (2, u "serialVersionUID"), (0, u "J"), (3, u "REPL"), (0, u "C"), (2, u "LATIN1"), (1, u "UTF16"), (117, u "(Ljava/nio/charset/Charset;)[B")] 205

def k7m0 : Method := { name := "<init>", desc := "()V", sig := { parameters := [], returnType := none }, accessFlags := 1, code := none }
def k7c1 : Code := { maxStack := 5, maxLocals := 2, code := jdk_42_method_3_code, exceptionTable := #[], attributes := #[] }
def k7m1 : Method := { name := "<init>", desc := "([C)V", sig := { parameters := [(.array .char)], returnType := none }, accessFlags := 1, code := some k7c1 }
def k7c2 : Code := { maxStack := 4, maxLocals := 3, code := jdk_42_method_18_code, exceptionTable := #[], attributes := #[] }
def k7m2 : Method := { name := "encode", desc := "(Ljava/nio/charset/Charset;B[B)[B", sig := { parameters := [(.object "java/nio/charset/Charset"), .byte, (.array .byte)], returnType := some (.array .byte) }, accessFlags := 10, code := some k7c2 }
def k7c3 : Code := { maxStack := 5, maxLocals := 9, code := jdk_42_method_46_code, exceptionTable := #[], attributes := #[] }
def k7m3 : Method := { name := "encodeUTF8", desc := "(B[BZ)[B", sig := { parameters := [.byte, (.array .byte), .boolean], returnType := some (.array .byte) }, accessFlags := 10, code := some k7c3 }
def k7c4 : Code := { maxStack := 5, maxLocals := 9, code := jdk_42_method_47_code, exceptionTable := #[], attributes := #[] }
def k7m4 : Method := { name := "encodeUTF8_UTF16", desc := "([BZ)[B", sig := { parameters := [(.array .byte), .boolean], returnType := some (.array .byte) }, accessFlags := 10, code := some k7c4 }
def k7c5 : Code := { maxStack := 2, maxLocals := 1, code := jdk_42_method_54_code, exceptionTable := #[], attributes := #[] }
def k7m5 : Method := { name := "length", desc := "()I", sig := { parameters := [], returnType := some .int }, accessFlags := 1, code := some k7c5 }
def k7c6 : Code := { maxStack := 2, maxLocals := 2, code := jdk_42_method_56_code, exceptionTable := #[], attributes := #[] }
def k7m6 : Method := { name := "charAt", desc := "(I)C", sig := { parameters := [.int], returnType := some .char }, accessFlags := 1, code := some k7c6 }
def k7c7 : Code := { maxStack := 3, maxLocals := 2, code := jdk_42_method_64_code, exceptionTable := #[], attributes := #[] }
def k7m7 : Method := { name := "getBytes", desc := "(Ljava/nio/charset/Charset;)[B", sig := { parameters := [(.object "java/nio/charset/Charset")], returnType := some (.array .byte) }, accessFlags := 1, code := some k7c7 }
def k7c8 : Code := { maxStack := 3, maxLocals := 2, code := jdk_42_method_79_code, exceptionTable := #[], attributes := #[] }
def k7m8 : Method := { name := "indexOf", desc := "(I)I", sig := { parameters := [.int], returnType := some .int }, accessFlags := 1, code := some k7c8 }
def k7c9 : Code := { maxStack := 4, maxLocals := 3, code := jdk_42_method_80_code, exceptionTable := #[], attributes := #[] }
def k7m9 : Method := { name := "indexOf", desc := "(II)I", sig := { parameters := [.int, .int], returnType := some .int }, accessFlags := 1, code := some k7c9 }
def k7c10 : Code := { maxStack := 3, maxLocals := 2, code := jdk_42_method_91_code, exceptionTable := #[], attributes := #[] }
def k7m10 : Method := { name := "substring", desc := "(I)Ljava/lang/String;", sig := { parameters := [.int], returnType := some (.object "java/lang/String") }, accessFlags := 1, code := some k7c10 }
def k7c11 : Code := { maxStack := 3, maxLocals := 5, code := jdk_42_method_92_code, exceptionTable := #[], attributes := #[] }
def k7m11 : Method := { name := "substring", desc := "(II)Ljava/lang/String;", sig := { parameters := [.int, .int], returnType := some (.object "java/lang/String") }, accessFlags := 1, code := some k7c11 }
def k7c12 : Code := { maxStack := 4, maxLocals := 6, code := jdk_42_method_149_code, exceptionTable := #[], attributes := #[] }
def k7m12 : Method := { name := "<init>", desc := "([CIILjava/lang/Void;)V", sig := { parameters := [(.array .char), .int, .int, (.object "java/lang/Void")], returnType := none }, accessFlags := 2, code := some k7c12 }
def k7c13 : Code := { maxStack := 2, maxLocals := 3, code := jdk_42_method_151_code, exceptionTable := #[], attributes := #[] }
def k7m13 : Method := { name := "<init>", desc := "([BB)V", sig := { parameters := [(.array .byte), .byte], returnType := none }, accessFlags := 0, code := some k7c13 }
def k7c14 : Code := { maxStack := 1, maxLocals := 1, code := jdk_42_method_152_code, exceptionTable := #[], attributes := #[] }
def k7m14 : Method := { name := "coder", desc := "()B", sig := { parameters := [], returnType := some .byte }, accessFlags := 0, code := some k7c14 }
def k7c15 : Code := { maxStack := 1, maxLocals := 1, code := jdk_42_method_154_code, exceptionTable := #[], attributes := #[] }
def k7m15 : Method := { name := "isLatin1", desc := "()Z", sig := { parameters := [], returnType := some .boolean }, accessFlags := 0, code := some k7c15 }
def k7c16 : Code := { maxStack := 3, maxLocals := 2, code := jdk_42_method_155_code, exceptionTable := #[], attributes := #[] }
def k7m16 : Method := { name := "checkIndex", desc := "(II)V", sig := { parameters := [.int, .int], returnType := none }, accessFlags := 8, code := some k7c16 }
def k7c17 : Code := { maxStack := 4, maxLocals := 3, code := jdk_42_method_157_code, exceptionTable := #[], attributes := #[] }
def k7m17 : Method := { name := "checkBoundsOffCount", desc := "(III)I", sig := { parameters := [.int, .int, .int], returnType := some .int }, accessFlags := 8, code := some k7c17 }
def k7c18 : Code := { maxStack := 4, maxLocals := 3, code := jdk_42_method_158_code, exceptionTable := #[], attributes := #[] }
def k7m18 : Method := { name := "checkBoundsBeginEnd", desc := "(III)V", sig := { parameters := [.int, .int, .int], returnType := none }, accessFlags := 8, code := some k7c18 }
/-- java/lang/String -/
def k7 : Class := { plain "java/lang/String" (some 0) with
  accessFlags := 49
  interfaces := #[2, 3, 4, 5, 6]
  cf := some (fileOf pool7 10 #[.nestMembers #[1103]] #[{ accessFlags := 1, nameIndex := 5, descriptorIndex := 6, attributes := #[] }, { accessFlags := 1, nameIndex := 5, descriptorIndex := 1010, attributes := #[] }, { accessFlags := 10, nameIndex := 317, descriptorIndex := 537, attributes := #[] }, { accessFlags := 10, nameIndex := 254, descriptorIndex := 255, attributes := #[] }, { accessFlags := 10, nameIndex := 475, descriptorIndex := 476, attributes := #[] }, { accessFlags := 1, nameIndex := 507, descriptorIndex := 334, attributes := #[] }, { accessFlags := 1, nameIndex := 497, descriptorIndex := 427, attributes := #[] }, { accessFlags := 1, nameIndex := 532, descriptorIndex := 1245, attributes := #[] }, { accessFlags := 1, nameIndex := 635, descriptorIndex := 765, attributes := #[] }, { accessFlags := 1, nameIndex := 635, descriptorIndex := 636, attributes := #[] }, { accessFlags := 1, nameIndex := 683, descriptorIndex := 892, attributes := #[] }, { accessFlags := 1, nameIndex := 683, descriptorIndex := 684, attributes := #[] }, { accessFlags := 2, nameIndex := 5, descriptorIndex := 29, attributes := #[] }, { accessFlags := 0, nameIndex := 5, descriptorIndex := 211, attributes := #[] }, { accessFlags := 0, nameIndex := 17, descriptorIndex := 337, attributes := #[] }, { accessFlags := 0, nameIndex := 494, descriptorIndex := 142, attributes := #[] }, { accessFlags := 8, nameIndex := 501, descriptorIndex := 391, attributes := #[] }, { accessFlags := 8, nameIndex := 36, descriptorIndex := 37, attributes := #[] }, { accessFlags := 8, nameIndex := 523, descriptorIndex := 524, attributes := #[] }] 49 2 #[1106, 1108, 575, 1110, 1112] #[{ accessFlags := 18, nameIndex := 13, descriptorIndex := 14, attributes := #[] }, { accessFlags := 18, nameIndex := 17, descriptorIndex := 18, attributes := #[] }, { accessFlags := 2, nameIndex := 21, descriptorIndex := 22, attributes := #[] }, { accessFlags := 2, nameIndex := 25, descriptorIndex := 26, attributes := #[] }, { accessFlags := 26, nameIndex := 1116, descriptorIndex := 1117, attributes := #[] }, { accessFlags := 24, nameIndex := 40, descriptorIndex := 26, attributes := #[] }, { accessFlags := 26, nameIndex := 1101, descriptorIndex := 1102, attributes := #[] }, { accessFlags := 26, nameIndex := 1121, descriptorIndex := 1122, attributes := #[] }, { accessFlags := 25, nameIndex := 599, descriptorIndex := 600, attributes := #[] }, { accessFlags := 24, nameIndex := 1125, descriptorIndex := 18, attributes := #[] }, { accessFlags := 24, nameIndex := 1127, descriptorIndex := 18, attributes := #[] }])
  fields := #[{ name := "value", type := (.array .byte), accessFlags := 18, slot := 0, constantValue := 0 }, { name := "coder", type := .byte, accessFlags := 18, slot := 1, constantValue := 0 }, { name := "hash", type := .int, accessFlags := 2, slot := 2, constantValue := 0 }, { name := "hashIsZero", type := .boolean, accessFlags := 2, slot := 3, constantValue := 0 }, { name := "serialVersionUID", type := .long, accessFlags := 26, slot := 0, constantValue := 0 }, { name := "COMPACT_STRINGS", type := .boolean, accessFlags := 24, slot := 1, constantValue := 0 }, { name := "serialPersistentFields", type := (.array (.object "java/io/ObjectStreamField")), accessFlags := 26, slot := 2, constantValue := 0 }, { name := "REPL", type := .char, accessFlags := 26, slot := 3, constantValue := 0 }, { name := "CASE_INSENSITIVE_ORDER", type := (.object "java/util/Comparator"), accessFlags := 25, slot := 4, constantValue := 0 }, { name := "LATIN1", type := .byte, accessFlags := 24, slot := 5, constantValue := 0 }, { name := "UTF16", type := .byte, accessFlags := 24, slot := 6, constantValue := 0 }]
  methods := #[k7m0, k7m1, k7m2, k7m3, k7m4, k7m5, k7m6, k7m7, k7m8, k7m9, k7m10, k7m11, k7m12, k7m13, k7m14, k7m15, k7m16, k7m17, k7m18]
  instanceTypes := #[(.array .byte), .byte, .int, .boolean]
  staticTypes := #[.long, .boolean, (.array (.object "java/io/ObjectStreamField")), .char, (.object "java/util/Comparator"), .byte, .byte]
  resolved := Array.replicate 1451 none
  statics := some 0 }

def pool8 : Array CpInfo := pool [(3, .class_ 4), (0, u "java/lang/String"), (1, .class_ 8), (1, u "java/lang/Object"), (0, u "<init>"), (0, u "()V"), (0, .methodref 12 13), (0, .class_ 14), (0, .nameAndType 15 16), (0, u "java/lang/StringUTF16"), (0, u "newBytesLength"), (0, u "(I)I"), (3, .integer 1073741823), (23, .fieldref 12 45), (0, .nameAndType 46 47), (0, u "$assertionsDisabled"), (0, u "Z"), (0, .methodref 12 49), (0, .nameAndType 50 51), (0, u "length"), (0, u "([B)I"), (7, .fieldref 12 60), (0, .nameAndType 61 62), (0, u "HI_BYTE_SHIFT"), (0, u "I"), (0, .fieldref 12 64), (0, .nameAndType 65 62), (0, u "LO_BYTE_SHIFT"), (1, .methodref 12 68), (0, .nameAndType 69 70), (0, u "checkIndex"), (0, u "(I[B)V"), (0, .methodref 12 72), (0, .nameAndType 73 74), (0, u "getChar"), (0, u "([BI)C"), (21, .methodref 12 97), (0, .nameAndType 98 99), (0, u "checkBoundsBeginEnd"), (0, u "(II[B)V"), (7, .methodref 12 108), (0, .nameAndType 109 110), (0, u "newBytesFor"), (0, u "(I)[B"), (0, .methodref 12 112), (0, .nameAndType 113 114), (0, u "putChar"), (0, u "([BII)V"), (0, .methodref 12 116), (0, .nameAndType 117 118), (0, u "compress"), (0, u "([CI[BII)I"), (0, .methodref 12 120), (0, .nameAndType 121 122), (0, u "toBytes"), (0, u "([CII)[B"), (0, .methodref 12 124), (0, .nameAndType 117 125), (0, u "([BI[BII)I"), (0, .methodref 127 128), (0, .class_ 129), (0, .nameAndType 130 131), (0, u "java/util/Arrays"), (0, u "copyOfRange"), (0, u "([BII)[B"), (41, .methodref 12 174), (0, .nameAndType 175 99), (0, u "checkBoundsOffCount"), (7, .methodref 184 185), (0, .class_ 186), (0, .nameAndType 187 188), (0, u "java/lang/Math"), (0, u "min"), (0, u "(II)I"), (35, .methodref 184 225), (0, .nameAndType 226 188), (0, u "max"), (0, .integer 65536), (0, .methodref 12 229), (0, .nameAndType 230 231), (0, u "indexOfChar"), (0, u "([BIII)I"), (9, .methodref 3 242), (0, .nameAndType 98 243), (0, u "(III)V"), (0, .methodref 12 245), (0, .nameAndType 246 231), (0, u "indexOfCharUnsafe"), (4, .fieldref 3 252), (0, .nameAndType 253 47), (0, u "COMPACT_STRINGS"), (3, .methodref 12 258), (0, .nameAndType 117 131), (0, .methodref 12 260), (0, .nameAndType 261 262), (0, u "coderFromArrayLen"), (0, u "([BI)B"), (0, .methodref 3 264), (0, .nameAndType 9 265), (0, u "([BB)V"), (2, u "indexOf"), (12, u "(III)I"), (45, u "newString"), (0, u "([BII)Ljava/lang/String;"), (40, .class_ 371), (1, u "java/lang/StringUTF16$LinesSpliterator"), (20, u "charAt"), (21, .methodref 3 415), (0, .nameAndType 69 416), (0, u "(II)V"), (2, .methodref 3 420), (0, .nameAndType 175 281), (9, u "MAX_LENGTH"), (196, .class_ 628), (0, u "java/lang/StringUTF16$CodePointsSpliterator"), (0, .class_ 630), (0, u "java/lang/StringUTF16$CharsSpliterator")] 4

def k8m0 : Method := { name := "<init>", desc := "()V", sig := { parameters := [], returnType := none }, accessFlags := 0, code := none }
def k8c1 : Code := { maxStack := 1, maxLocals := 1, code := jdk_52_method_2_code, exceptionTable := #[], attributes := #[] }
def k8m1 : Method := { name := "newBytesFor", desc := "(I)[B", sig := { parameters := [.int], returnType := some (.array .byte) }, accessFlags := 9, code := some k8c1 }
def k8c2 : Code := { maxStack := 4, maxLocals := 1, code := jdk_52_method_3_code, exceptionTable := #[], attributes := #[] }
def k8m2 : Method := { name := "newBytesLength", desc := "(I)I", sig := { parameters := [.int], returnType := some .int }, accessFlags := 9, code := some k8c2 }
def k8c3 : Code := { maxStack := 4, maxLocals := 3, code := jdk_52_method_4_code, exceptionTable := #[], attributes := #[] }
def k8m3 : Method := { name := "putChar", desc := "([BII)V", sig := { parameters := [(.array .byte), .int, .int], returnType := none }, accessFlags := 8, code := some k8c3 }
def k8c4 : Code := { maxStack := 3, maxLocals := 2, code := jdk_52_method_5_code, exceptionTable := #[], attributes := #[] }
def k8m4 : Method := { name := "getChar", desc := "([BI)C", sig := { parameters := [(.array .byte), .int], returnType := some .char }, accessFlags := 8, code := some k8c4 }
def k8c5 : Code := { maxStack := 2, maxLocals := 1, code := jdk_52_method_6_code, exceptionTable := #[], attributes := #[] }
def k8m5 : Method := { name := "length", desc := "([B)I", sig := { parameters := [(.array .byte)], returnType := some .int }, accessFlags := 9, code := some k8c5 }
def k8c6 : Code := { maxStack := 4, maxLocals := 5, code := jdk_52_method_14_code, exceptionTable := #[], attributes := #[] }
def k8m6 : Method := { name := "toBytes", desc := "([CII)[B", sig := { parameters := [(.array .char), .int, .int], returnType := some (.array .byte) }, accessFlags := 9, code := some k8c6 }
def k8c7 : Code := { maxStack := 2, maxLocals := 2, code := jdk_52_method_15_code, exceptionTable := #[], attributes := #[] }
def k8m7 : Method := { name := "coderFromArrayLen", desc := "([BI)B", sig := { parameters := [(.array .byte), .int], returnType := some .byte }, accessFlags := 8, code := some k8c7 }
def k8c8 : Code := { maxStack := 5, maxLocals := 6, code := jdk_52_method_16_code, exceptionTable := #[], attributes := #[] }
def k8m8 : Method := { name := "compress", desc := "([CII)[B", sig := { parameters := [(.array .char), .int, .int], returnType := some (.array .byte) }, accessFlags := 9, code := some k8c8 }
def k8c9 : Code := { maxStack := 5, maxLocals := 6, code := jdk_52_method_17_code, exceptionTable := #[], attributes := #[] }
def k8m9 : Method := { name := "compress", desc := "([BII)[B", sig := { parameters := [(.array .byte), .int, .int], returnType := some (.array .byte) }, accessFlags := 9, code := some k8c9 }
def k8c10 : Code := { maxStack := 3, maxLocals := 7, code := jdk_52_method_21_code, exceptionTable := #[], attributes := #[] }
def k8m10 : Method := { name := "compress", desc := "([CI[BII)I", sig := { parameters := [(.array .char), .int, (.array .byte), .int, .int], returnType := some .int }, accessFlags := 9, code := some k8c10 }
def k8c11 : Code := { maxStack := 3, maxLocals := 7, code := jdk_52_method_22_code, exceptionTable := #[], attributes := #[] }
def k8m11 : Method := { name := "compress", desc := "([BI[BII)I", sig := { parameters := [(.array .byte), .int, (.array .byte), .int, .int], returnType := some .int }, accessFlags := 9, code := some k8c11 }
def k8c12 : Code := { maxStack := 4, maxLocals := 4, code := jdk_52_method_40_code, exceptionTable := #[], attributes := #[] }
def k8m12 : Method := { name := "indexOf", desc := "([BIII)I", sig := { parameters := [(.array .byte), .int, .int, .int], returnType := some .int }, accessFlags := 9, code := some k8c12 }
def k8c13 : Code := { maxStack := 4, maxLocals := 4, code := jdk_52_method_47_code, exceptionTable := #[], attributes := #[] }
def k8m13 : Method := { name := "indexOfChar", desc := "([BIII)I", sig := { parameters := [(.array .byte), .int, .int, .int], returnType := some .int }, accessFlags := 10, code := some k8c13 }
def k8c14 : Code := { maxStack := 2, maxLocals := 5, code := jdk_52_method_48_code, exceptionTable := #[], attributes := #[] }
def k8m14 : Method := { name := "indexOfCharUnsafe", desc := "([BIII)I", sig := { parameters := [(.array .byte), .int, .int, .int], returnType := some .int }, accessFlags := 10, code := some k8c14 }
def k8c15 : Code := { maxStack := 6, maxLocals := 5, code := jdk_52_method_69_code, exceptionTable := #[], attributes := #[] }
def k8m15 : Method := { name := "newString", desc := "([BII)Ljava/lang/String;", sig := { parameters := [(.array .byte), .int, .int], returnType := some (.object "java/lang/String") }, accessFlags := 9, code := some k8c15 }
def k8c16 : Code := { maxStack := 2, maxLocals := 2, code := jdk_52_method_83_code, exceptionTable := #[], attributes := #[] }
def k8m16 : Method := { name := "charAt", desc := "([BI)C", sig := { parameters := [(.array .byte), .int], returnType := some .char }, accessFlags := 9, code := some k8c16 }
def k8c17 : Code := { maxStack := 2, maxLocals := 2, code := jdk_52_method_91_code, exceptionTable := #[], attributes := #[] }
def k8m17 : Method := { name := "checkIndex", desc := "(I[B)V", sig := { parameters := [.int, (.array .byte)], returnType := none }, accessFlags := 9, code := some k8c17 }
def k8c18 : Code := { maxStack := 3, maxLocals := 3, code := jdk_52_method_93_code, exceptionTable := #[], attributes := #[] }
def k8m18 : Method := { name := "checkBoundsBeginEnd", desc := "(II[B)V", sig := { parameters := [.int, .int, (.array .byte)], returnType := none }, accessFlags := 9, code := some k8c18 }
def k8c19 : Code := { maxStack := 3, maxLocals := 3, code := jdk_52_method_94_code, exceptionTable := #[], attributes := #[] }
def k8m19 : Method := { name := "checkBoundsOffCount", desc := "(II[B)V", sig := { parameters := [.int, .int, (.array .byte)], returnType := none }, accessFlags := 9, code := some k8c19 }
/-- java/lang/StringUTF16 -/
def k8 : Class := { plain "java/lang/StringUTF16" (some 0) with
  accessFlags := 48
  interfaces := #[]
  cf := some (fileOf pool8 12 #[.nestMembers #[627, 629, 369]] #[{ accessFlags := 0, nameIndex := 9, descriptorIndex := 10, attributes := #[] }, { accessFlags := 9, nameIndex := 109, descriptorIndex := 110, attributes := #[] }, { accessFlags := 9, nameIndex := 15, descriptorIndex := 16, attributes := #[] }, { accessFlags := 8, nameIndex := 113, descriptorIndex := 114, attributes := #[] }, { accessFlags := 8, nameIndex := 73, descriptorIndex := 74, attributes := #[] }, { accessFlags := 9, nameIndex := 50, descriptorIndex := 51, attributes := #[] }, { accessFlags := 9, nameIndex := 121, descriptorIndex := 122, attributes := #[] }, { accessFlags := 8, nameIndex := 261, descriptorIndex := 262, attributes := #[] }, { accessFlags := 9, nameIndex := 117, descriptorIndex := 122, attributes := #[] }, { accessFlags := 9, nameIndex := 117, descriptorIndex := 131, attributes := #[] }, { accessFlags := 9, nameIndex := 117, descriptorIndex := 118, attributes := #[] }, { accessFlags := 9, nameIndex := 117, descriptorIndex := 125, attributes := #[] }, { accessFlags := 9, nameIndex := 268, descriptorIndex := 231, attributes := #[] }, { accessFlags := 10, nameIndex := 230, descriptorIndex := 231, attributes := #[] }, { accessFlags := 10, nameIndex := 246, descriptorIndex := 231, attributes := #[] }, { accessFlags := 9, nameIndex := 327, descriptorIndex := 328, attributes := #[] }, { accessFlags := 9, nameIndex := 392, descriptorIndex := 74, attributes := #[] }, { accessFlags := 9, nameIndex := 69, descriptorIndex := 70, attributes := #[] }, { accessFlags := 9, nameIndex := 98, descriptorIndex := 99, attributes := #[] }, { accessFlags := 9, nameIndex := 175, descriptorIndex := 99, attributes := #[] }] 48 6 #[] #[{ accessFlags := 26, nameIndex := 61, descriptorIndex := 62, attributes := #[] }, { accessFlags := 26, nameIndex := 65, descriptorIndex := 62, attributes := #[] }, { accessFlags := 24, nameIndex := 430, descriptorIndex := 62, attributes := #[] }, { accessFlags := 4120, nameIndex := 46, descriptorIndex := 47, attributes := #[] }])
  fields := #[{ name := "HI_BYTE_SHIFT", type := .int, accessFlags := 26, slot := 0, constantValue := 0 }, { name := "LO_BYTE_SHIFT", type := .int, accessFlags := 26, slot := 1, constantValue := 0 }, { name := "MAX_LENGTH", type := .int, accessFlags := 24, slot := 2, constantValue := 0 }, { name := "$assertionsDisabled", type := .boolean, accessFlags := 4120, slot := 3, constantValue := 0 }]
  methods := #[k8m0, k8m1, k8m2, k8m3, k8m4, k8m5, k8m6, k8m7, k8m8, k8m9, k8m10, k8m11, k8m12, k8m13, k8m14, k8m15, k8m16, k8m17, k8m18, k8m19]
  instanceTypes := #[]
  staticTypes := #[.int, .int, .int, .boolean]
  resolved := Array.replicate 635 none
  statics := some 1 }

def pool9 : Array CpInfo := pool [(1, .methodref 2 3), (0, .class_ 4), (0, .nameAndType 5 6), (0, u "java/lang/Object"), (0, u "<init>"), (0, u "()V"), (0, .fieldref 8 9), (0, .class_ 10), (0, .nameAndType 11 12), (0, u "com/example/treewarden/treewarden/session/Credential"), (0, u "scheme"), (0, u "Ljava/lang/String;"), (0, .fieldref 8 14), (0, .nameAndType 15 16), (0, u "secret"), (0, u "[B"), (0, .methodref 18 19), (0, .class_ 20), (0, .nameAndType 21 22), (0, u "java/lang/String"), (0, u "indexOf"), (0, u "(I)I"), (0, .methodref 18 24), (0, .nameAndType 25 26), (0, u "length"), (0, u "()I"), (7, .methodref 18 35), (0, .nameAndType 36 37), (0, u "substring"), (0, u "(I)Ljava/lang/String;"), (0, .fieldref 39 40), (0, .class_ 41), (0, .nameAndType 42 43), (0, u "java/nio/charset/StandardCharsets"), (0, u "UTF_8"), (0, u "Ljava/nio/charset/Charset;"), (0, .methodref 18 45), (0, .nameAndType 46 47), (0, u "getBytes"), (0, u "(Ljava/nio/charset/Charset;)[B"), (0, .methodref 18 49), (0, .nameAndType 36 50), (0, u "(II)Ljava/lang/String;"), (0, .methodref 8 52), (0, .nameAndType 5 53), (0, u "(Ljava/lang/String;[B)V"), (0, .methodref 55 56), (0, .class_ 57), (0, .nameAndType 58 59), (0, u "java/util/Arrays"), (0, u "copyOf"), (0, u "([BI)[B"), (6, u "parse"), (0, u "(Ljava/lang/String;)Lcom/example/treewarden/treewarden/session/Credential;"), (1, u "()Ljava/lang/String;"), (0, u "()[B")] 18

def k9c0 : Code := { maxStack := 2, maxLocals := 3, code := prog_9_method_1_code, exceptionTable := #[], attributes := #[] }
def k9m0 : Method := { name := "<init>", desc := "(Ljava/lang/String;[B)V", sig := { parameters := [(.object "java/lang/String"), (.array .byte)], returnType := none }, accessFlags := 2, code := some k9c0 }
def k9c1 : Code := { maxStack := 5, maxLocals := 3, code := prog_9_method_2_code, exceptionTable := #[], attributes := #[] }
def k9m1 : Method := { name := "parse", desc := "(Ljava/lang/String;)Lcom/example/treewarden/treewarden/session/Credential;", sig := { parameters := [(.object "java/lang/String")], returnType := some (.object "com/example/treewarden/treewarden/session/Credential") }, accessFlags := 9, code := some k9c1 }
def k9c2 : Code := { maxStack := 1, maxLocals := 1, code := prog_9_method_3_code, exceptionTable := #[], attributes := #[] }
def k9m2 : Method := { name := "scheme", desc := "()Ljava/lang/String;", sig := { parameters := [], returnType := some (.object "java/lang/String") }, accessFlags := 1, code := some k9c2 }
def k9c3 : Code := { maxStack := 2, maxLocals := 1, code := prog_9_method_4_code, exceptionTable := #[], attributes := #[] }
def k9m3 : Method := { name := "secret", desc := "()[B", sig := { parameters := [], returnType := some (.array .byte) }, accessFlags := 1, code := some k9c3 }
/-- com/example/treewarden/treewarden/session/Credential -/
def k9 : Class := { plain "com/example/treewarden/treewarden/session/Credential" (some 0) with
  accessFlags := 49
  interfaces := #[]
  cf := some (fileOf pool9 8 #[] #[{ accessFlags := 2, nameIndex := 5, descriptorIndex := 53, attributes := #[] }, { accessFlags := 9, nameIndex := 66, descriptorIndex := 67, attributes := #[] }, { accessFlags := 1, nameIndex := 11, descriptorIndex := 69, attributes := #[] }, { accessFlags := 1, nameIndex := 15, descriptorIndex := 70, attributes := #[] }] 49 2 #[] #[{ accessFlags := 18, nameIndex := 11, descriptorIndex := 12, attributes := #[] }, { accessFlags := 18, nameIndex := 15, descriptorIndex := 16, attributes := #[] }])
  fields := #[{ name := "scheme", type := (.object "java/lang/String"), accessFlags := 18, slot := 0, constantValue := 0 }, { name := "secret", type := (.array .byte), accessFlags := 18, slot := 1, constantValue := 0 }]
  methods := #[k9m0, k9m1, k9m2, k9m3]
  instanceTypes := #[(.object "java/lang/String"), (.array .byte)]
  staticTypes := #[]
  resolved := Array.replicate 89 none
  statics := none }

def pool10 : Array CpInfo := pool [(1, .class_ 2), (0, u "java/lang/String"), (1, .class_ 6), (1, u "java/lang/Object"), (0, u "<init>"), (0, u "()V"), (0, .methodref 1 10), (0, .nameAndType 11 12), (0, u "checkIndex"), (0, u "(II)V"), (1, .class_ 16), (1, u "java/lang/StringLatin1"), (21, .methodref 39 40), (0, .class_ 41), (0, .nameAndType 42 43), (0, u "java/lang/Math"), (0, u "min"), (0, u "(II)I"), (9, u "([BI)C"), (34, .methodref 14 89), (0, .nameAndType 90 91), (0, u "canEncode"), (0, u "(I)Z"), (0, .methodref 39 93), (0, .nameAndType 94 43), (0, u "max"), (0, .methodref 14 96), (0, .nameAndType 97 98), (0, u "indexOfChar"), (0, u "([BIII)I"), (2, u "indexOf"), (10, .methodref 1 113), (0, .nameAndType 7 114), (0, u "([BB)V"), (6, u "$assertionsDisabled"), (0, u "Z"), (8, .class_ 133), (1, u "java/util/Arrays"), (62, u "newString"), (0, u "([BII)Ljava/lang/String;"), (23, .class_ 223), (1, u "java/lang/StringLatin1$LinesSpliterator"), (8, .methodref 131 233), (0, .nameAndType 234 235), (0, u "copyOfRange"), (0, u "([BII)[B"), (16, u "charAt"), (137, .class_ 391), (0, u "java/lang/StringLatin1$CharsSpliterator")] 3

def k10m0 : Method := { name := "<init>", desc := "()V", sig := { parameters := [], returnType := none }, accessFlags := 0, code := none }
def k10c1 : Code := { maxStack := 2, maxLocals := 2, code := jdk_43_method_2_code, exceptionTable := #[], attributes := #[] }
def k10m1 : Method := { name := "charAt", desc := "([BI)C", sig := { parameters := [(.array .byte), .int], returnType := some .char }, accessFlags := 9, code := some k10c1 }
def k10c2 : Code := { maxStack := 2, maxLocals := 1, code := jdk_43_method_4_code, exceptionTable := #[], attributes := #[] }
def k10m2 : Method := { name := "canEncode", desc := "(I)Z", sig := { parameters := [.int], returnType := some .boolean }, accessFlags := 9, code := some k10c2 }
def k10c3 : Code := { maxStack := 4, maxLocals := 4, code := jdk_43_method_22_code, exceptionTable := #[], attributes := #[] }
def k10m3 : Method := { name := "indexOf", desc := "([BIII)I", sig := { parameters := [(.array .byte), .int, .int, .int], returnType := some .int }, accessFlags := 9, code := some k10c3 }
def k10c4 : Code := { maxStack := 2, maxLocals := 6, code := jdk_43_method_23_code, exceptionTable := #[], attributes := #[] }
def k10m4 : Method := { name := "indexOfChar", desc := "([BIII)I", sig := { parameters := [(.array .byte), .int, .int, .int], returnType := some .int }, accessFlags := 10, code := some k10c4 }
def k10c5 : Code := { maxStack := 6, maxLocals := 3, code := jdk_43_method_47_code, exceptionTable := #[], attributes := #[] }
def k10m5 : Method := { name := "newString", desc := "([BII)Ljava/lang/String;", sig := { parameters := [(.array .byte), .int, .int], returnType := some (.object "java/lang/String") }, accessFlags := 9, code := some k10c5 }
/-- java/lang/StringLatin1 -/
def k10 : Class := { plain "java/lang/StringLatin1" (some 0) with
  accessFlags := 48
  interfaces := #[]
  cf := some (fileOf pool10 14 #[.nestMembers #[390, 221]] #[{ accessFlags := 0, nameIndex := 7, descriptorIndex := 8, attributes := #[] }, { accessFlags := 9, nameIndex := 252, descriptorIndex := 53, attributes := #[] }, { accessFlags := 9, nameIndex := 90, descriptorIndex := 91, attributes := #[] }, { accessFlags := 9, nameIndex := 101, descriptorIndex := 98, attributes := #[] }, { accessFlags := 10, nameIndex := 97, descriptorIndex := 98, attributes := #[] }, { accessFlags := 9, nameIndex := 196, descriptorIndex := 197, attributes := #[] }] 48 4 #[] #[{ accessFlags := 4120, nameIndex := 121, descriptorIndex := 122, attributes := #[] }])
  fields := #[{ name := "$assertionsDisabled", type := .boolean, accessFlags := 4120, slot := 0, constantValue := 0 }]
  methods := #[k10m0, k10m1, k10m2, k10m3, k10m4, k10m5]
  instanceTypes := #[]
  staticTypes := #[.boolean]
  resolved := Array.replicate 395 none
  statics := none }

def pool11 : Array CpInfo := pool [(1, .class_ 2), (0, u "java/lang/Math"), (1, .class_ 6), (1, u "java/lang/Object"), (0, u "<init>"), (0, u "()V"), (89, .class_ 100), (1, u "java/lang/Math$RandomNumberGeneratorHolder"), (71, u "negativeZeroFloatBits"), (0, u "J"), (2, u "negativeZeroDoubleBits"), (21, u "max"), (2, u "min"), (43, u "$assertionsDisabled"), (0, u "Z"), (88, u "(II)I"), (2, u "twoToTheDoubleScaleDown"), (0, u "D"), (4, u "twoToTheDoubleScaleUp"), (9, u "E"), (3, u "PI"), (2, u "TAU"), (2, u "DEGREES_TO_RADIANS"), (0, u "RADIANS_TO_DEGREES")] 94

def k11m0 : Method := { name := "<init>", desc := "()V", sig := { parameters := [], returnType := none }, accessFlags := 2, code := none }
def k11c1 : Code := { maxStack := 2, maxLocals := 2, code := jdk_29_method_65_code, exceptionTable := #[], attributes := #[] }
def k11m1 : Method := { name := "max", desc := "(II)I", sig := { parameters := [.int, .int], returnType := some .int }, accessFlags := 9, code := some k11c1 }
def k11c2 : Code := { maxStack := 2, maxLocals := 2, code := jdk_29_method_69_code, exceptionTable := #[], attributes := #[] }
def k11m2 : Method := { name := "min", desc := "(II)I", sig := { parameters := [.int, .int], returnType := some .int }, accessFlags := 9, code := some k11c2 }
/-- java/lang/Math -/
def k11 : Class := { plain "java/lang/Math" (some 0) with
  accessFlags := 49
  interfaces := #[]
  cf := some (fileOf pool11 1 #[.nestMembers #[98]] #[{ accessFlags := 2, nameIndex := 7, descriptorIndex := 8, attributes := #[] }, { accessFlags := 9, nameIndex := 198, descriptorIndex := 335, attributes := #[] }, { accessFlags := 9, nameIndex := 201, descriptorIndex := 335, attributes := #[] }] 49 4 #[] #[{ accessFlags := 25, nameIndex := 354, descriptorIndex := 339, attributes := #[] }, { accessFlags := 25, nameIndex := 358, descriptorIndex := 339, attributes := #[] }, { accessFlags := 25, nameIndex := 361, descriptorIndex := 339, attributes := #[] }, { accessFlags := 26, nameIndex := 364, descriptorIndex := 339, attributes := #[] }, { accessFlags := 26, nameIndex := 365, descriptorIndex := 339, attributes := #[] }, { accessFlags := 26, nameIndex := 172, descriptorIndex := 173, attributes := #[] }, { accessFlags := 26, nameIndex := 176, descriptorIndex := 173, attributes := #[] }, { accessFlags := 8, nameIndex := 344, descriptorIndex := 339, attributes := #[] }, { accessFlags := 8, nameIndex := 338, descriptorIndex := 339, attributes := #[] }, { accessFlags := 4120, nameIndex := 245, descriptorIndex := 246, attributes := #[] }])
  fields := #[{ name := "E", type := .double, accessFlags := 25, slot := 0, constantValue := 0 }, { name := "PI", type := .double, accessFlags := 25, slot := 1, constantValue := 0 }, { name := "TAU", type := .double, accessFlags := 25, slot := 2, constantValue := 0 }, { name := "DEGREES_TO_RADIANS", type := .double, accessFlags := 26, slot := 3, constantValue := 0 }, { name := "RADIANS_TO_DEGREES", type := .double, accessFlags := 26, slot := 4, constantValue := 0 }, { name := "negativeZeroFloatBits", type := .long, accessFlags := 26, slot := 5, constantValue := 0 }, { name := "negativeZeroDoubleBits", type := .long, accessFlags := 26, slot := 6, constantValue := 0 }, { name := "twoToTheDoubleScaleUp", type := .double, accessFlags := 8, slot := 7, constantValue := 0 }, { name := "twoToTheDoubleScaleDown", type := .double, accessFlags := 8, slot := 8, constantValue := 0 }, { name := "$assertionsDisabled", type := .boolean, accessFlags := 4120, slot := 9, constantValue := 0 }]
  methods := #[k11m0, k11m1, k11m2]
  instanceTypes := #[]
  staticTypes := #[.double, .double, .double, .double, .double, .long, .long, .double, .double, .boolean]
  resolved := Array.replicate 460 none
  statics := none }

def pool12 : Array CpInfo := pool [(2, .class_ 4), (1, u "java/lang/Object"), (0, u "<init>"), (0, u "()V"), (17, .class_ 26), (1, u "jdk/internal/util/Preconditions"), (6, u "checkIndex"), (13, u "checkFromToIndex"), (1, u "checkFromIndexSize"), (5, .class_ 56), (0, u "jdk/internal/util/Preconditions$4"), (57, .class_ 115), (0, u "jdk/internal/util/Preconditions$1"), (7, u "SIOOBE_FORMATTER"), (0, u "Ljava/util/function/BiFunction;"), (0, .class_ 126), (0, u "jdk/internal/util/Preconditions$2"), (3, u "AIOOBE_FORMATTER"), (0, .class_ 132), (0, u "jdk/internal/util/Preconditions$3"), (3, u "IOOBE_FORMATTER"), (41, u "(IILjava/util/function/BiFunction;)I"), (4, u "(IIILjava/util/function/BiFunction;)I")] 10

def k12m0 : Method := { name := "<init>", desc := "()V", sig := { parameters := [], returnType := none }, accessFlags := 1, code := none }
def k12c1 : Code := { maxStack := 3, maxLocals := 3, code := jdk_41_method_11_code, exceptionTable := #[], attributes := #[] }
def k12m1 : Method := { name := "checkIndex", desc := "(IILjava/util/function/BiFunction;)I", sig := { parameters := [.int, .int, (.object "java/util/function/BiFunction")], returnType := some .int }, accessFlags := 9, code := some k12c1 }
def k12c2 : Code := { maxStack := 4, maxLocals := 4, code := jdk_41_method_12_code, exceptionTable := #[], attributes := #[] }
def k12m2 : Method := { name := "checkFromToIndex", desc := "(IIILjava/util/function/BiFunction;)I", sig := { parameters := [.int, .int, .int, (.object "java/util/function/BiFunction")], returnType := some .int }, accessFlags := 9, code := some k12c2 }
def k12c3 : Code := { maxStack := 4, maxLocals := 4, code := jdk_41_method_13_code, exceptionTable := #[], attributes := #[] }
def k12m3 : Method := { name := "checkFromIndexSize", desc := "(IIILjava/util/function/BiFunction;)I", sig := { parameters := [.int, .int, .int, (.object "java/util/function/BiFunction")], returnType := some .int }, accessFlags := 9, code := some k12c3 }
/-- jdk/internal/util/Preconditions -/
def k12 : Class := { plain "jdk/internal/util/Preconditions" (some 0) with
  accessFlags := 33
  interfaces := #[]
  cf := some (fileOf pool12 24 #[.nestMembers #[55, 131, 125, 114]] #[{ accessFlags := 1, nameIndex := 5, descriptorIndex := 6, attributes := #[] }, { accessFlags := 9, nameIndex := 33, descriptorIndex := 178, attributes := #[] }, { accessFlags := 9, nameIndex := 47, descriptorIndex := 183, attributes := #[] }, { accessFlags := 9, nameIndex := 49, descriptorIndex := 183, attributes := #[] }] 33 2 #[] #[{ accessFlags := 25, nameIndex := 123, descriptorIndex := 124, attributes := #[] }, { accessFlags := 25, nameIndex := 130, descriptorIndex := 124, attributes := #[] }, { accessFlags := 25, nameIndex := 136, descriptorIndex := 124, attributes := #[] }])
  fields := #[{ name := "SIOOBE_FORMATTER", type := (.object "java/util/function/BiFunction"), accessFlags := 25, slot := 0, constantValue := 0 }, { name := "AIOOBE_FORMATTER", type := (.object "java/util/function/BiFunction"), accessFlags := 25, slot := 1, constantValue := 0 }, { name := "IOOBE_FORMATTER", type := (.object "java/util/function/BiFunction"), accessFlags := 25, slot := 2, constantValue := 0 }]
  methods := #[k12m0, k12m1, k12m2, k12m3]
  instanceTypes := #[]
  staticTypes := #[(.object "java/util/function/BiFunction"), (.object "java/util/function/BiFunction"), (.object "java/util/function/BiFunction")]
  resolved := Array.replicate 194 none
  statics := some 2 }

def pool13 : Array CpInfo := pool [(2, .class_ 4), (1, u "java/lang/Object"), (0, u "<init>"), (0, u "()V"), (7, .class_ 16), (1, u "java/util/Arrays"), (57, .class_ 76), (1, u "java/util/Arrays$NaturalOrder"), (32, u "()Ljava/lang/Object;"), (3, .class_ 115), (1, u "java/util/Arrays$LegacyMergeSort"), (1, u "Z"), (10, .nameAndType 129 109), (0, u "clone"), (9, u "copyOfRange"), (10, .methodref 151 152), (0, .class_ 153), (0, .nameAndType 154 155), (0, u "java/lang/System"), (0, u "arraycopy"), (0, u "(Ljava/lang/Object;ILjava/lang/Object;II)V"), (146, u "copyOf"), (1, .methodref 305 306), (0, .class_ 307), (0, .nameAndType 308 309), (0, u "java/lang/Math"), (0, u "min"), (0, u "(II)I"), (0, .methodref 311 128), (0, .class_ 312), (0, u "[B"), (26, .methodref 14 340), (0, .nameAndType 341 342), (0, u "copyOfRangeByte"), (0, u "([BII)[B"), (0, .methodref 14 344), (0, .nameAndType 345 346), (0, u "checkLength"), (0, u "(II)V"), (28, .class_ 376), (0, u "java/util/Arrays$ArrayList"), (68, u "$assertionsDisabled"), (269, u "MIN_ARRAY_SORT_GRAN"), (0, u "I"), (2, u "INSERTIONSORT_THRESHOLD"), (149, u "([BI)[B"), (105, .class_ 976), (0, u "java/util/Arrays$ArrayItr")] 52

def k13m0 : Method := { name := "<init>", desc := "()V", sig := { parameters := [], returnType := none }, accessFlags := 2, code := none }
def k13c1 : Code := { maxStack := 6, maxLocals := 3, code := jdk_65_method_121_code, exceptionTable := #[], attributes := #[] }
def k13m1 : Method := { name := "copyOf", desc := "([BI)[B", sig := { parameters := [(.array .byte), .int], returnType := some (.array .byte) }, accessFlags := 9, code := some k13c1 }
def k13c2 : Code := { maxStack := 4, maxLocals := 2, code := jdk_65_method_131_code, exceptionTable := #[], attributes := #[] }
def k13m2 : Method := { name := "checkLength", desc := "(II)V", sig := { parameters := [.int, .int], returnType := none }, accessFlags := 10, code := some k13c2 }
def k13c3 : Code := { maxStack := 3, maxLocals := 3, code := jdk_65_method_132_code, exceptionTable := #[], attributes := #[] }
def k13m3 : Method := { name := "copyOfRange", desc := "([BII)[B", sig := { parameters := [(.array .byte), .int, .int], returnType := some (.array .byte) }, accessFlags := 9, code := some k13c3 }
def k13c4 : Code := { maxStack := 6, maxLocals := 5, code := jdk_65_method_133_code, exceptionTable := #[], attributes := #[] }
def k13m4 : Method := { name := "copyOfRangeByte", desc := "([BII)[B", sig := { parameters := [(.array .byte), .int, .int], returnType := some (.array .byte) }, accessFlags := 10, code := some k13c4 }
/-- java/util/Arrays -/
def k13 : Class := { plain "java/util/Arrays" (some 0) with
  accessFlags := 49
  interfaces := #[]
  cf := some (fileOf pool13 14 #[.nestMembers #[975, 375, 113, 74]] #[{ accessFlags := 2, nameIndex := 5, descriptorIndex := 6, attributes := #[] }, { accessFlags := 9, nameIndex := 302, descriptorIndex := 869, attributes := #[] }, { accessFlags := 10, nameIndex := 345, descriptorIndex := 346, attributes := #[] }, { accessFlags := 9, nameIndex := 139, descriptorIndex := 342, attributes := #[] }, { accessFlags := 10, nameIndex := 341, descriptorIndex := 342, attributes := #[] }] 49 2 #[] #[{ accessFlags := 26, nameIndex := 715, descriptorIndex := 716, attributes := #[] }, { accessFlags := 26, nameIndex := 719, descriptorIndex := 716, attributes := #[] }, { accessFlags := 4120, nameIndex := 445, descriptorIndex := 117, attributes := #[] }])
  fields := #[{ name := "MIN_ARRAY_SORT_GRAN", type := .int, accessFlags := 26, slot := 0, constantValue := 0 }, { name := "INSERTIONSORT_THRESHOLD", type := .int, accessFlags := 26, slot := 1, constantValue := 0 }, { name := "$assertionsDisabled", type := .boolean, accessFlags := 4120, slot := 2, constantValue := 0 }]
  methods := #[k13m0, k13m1, k13m2, k13m3, k13m4]
  instanceTypes := #[]
  staticTypes := #[.int, .int, .boolean]
  resolved := Array.replicate 1029 none
  statics := none }

def pool14 : Array CpInfo := pool [(2, .class_ 4), (1, u "java/lang/Object"), (0, u "<init>"), (0, u "()V"), (1, .class_ 10), (1, u "java/lang/System"), (0, u "allowSecurityManager"), (0, u "I"), (16, u "cons"), (0, u "Ljava/io/Console;"), (77, .class_ 110), (1, u "java/lang/System$CallersHolder"), (43, u "initialErrStream"), (0, u "Ljava/io/PrintStream;"), (19, u "security"), (0, u "Ljava/lang/SecurityManager;"), (31, .class_ 209), (0, u "java/lang/System$1"), (7, u "props"), (0, u "Ljava/util/Properties;"), (2, u "lineSeparator"), (0, u "Ljava/lang/String;"), (96, .class_ 321), (1, u "java/lang/System$LoggerFinder"), (5, .class_ 328), (0, u "java/lang/System$Logger"), (67, u "err"), (2, u "out"), (91, u "notSupportedJnuEncoding"), (15, u "in"), (17, u "initialIn"), (0, u "Ljava/io/InputStream;"), (35, u "bootLayer"), (0, u "Ljava/lang/ModuleLayer;"), (99, .class_ 664), (0, u "java/lang/System$2"), (9, u "NEVER"), (2, u "MAYBE"), (49, u "arraycopy"), (0, u "(Ljava/lang/Object;ILjava/lang/Object;II)V"), (72, .class_ 802), (0, u "java/lang/System$Logger$Level")] 31

def k14m0 : Method := { name := "<init>", desc := "()V", sig := { parameters := [], returnType := none }, accessFlags := 2, code := none }
def k14m1 : Method := { name := "arraycopy", desc := "(Ljava/lang/Object;ILjava/lang/Object;II)V", sig := { parameters := [(.object "java/lang/Object"), .int, (.object "java/lang/Object"), .int, .int], returnType := none }, accessFlags := 265, code := none }
/-- java/lang/System -/
def k14 : Class := { plain "java/lang/System" (some 0) with
  accessFlags := 49
  interfaces := #[]
  cf := some (fileOf pool14 8 #[.nestMembers #[319, 327, 801, 108, 663, 208]] #[{ accessFlags := 2, nameIndex := 5, descriptorIndex := 6, attributes := #[] }, { accessFlags := 265, nameIndex := 727, descriptorIndex := 728, attributes := #[] }] 49 2 #[] #[{ accessFlags := 25, nameIndex := 507, descriptorIndex := 526, attributes := #[] }, { accessFlags := 25, nameIndex := 399, descriptorIndex := 155, attributes := #[] }, { accessFlags := 25, nameIndex := 396, descriptorIndex := 155, attributes := #[] }, { accessFlags := 10, nameIndex := 525, descriptorIndex := 526, attributes := #[] }, { accessFlags := 26, nameIndex := 674, descriptorIndex := 12, attributes := #[] }, { accessFlags := 26, nameIndex := 677, descriptorIndex := 12, attributes := #[] }, { accessFlags := 10, nameIndex := 11, descriptorIndex := 12, attributes := #[] }, { accessFlags := 74, nameIndex := 175, descriptorIndex := 176, attributes := #[] }, { accessFlags := 10, nameIndex := 491, descriptorIndex := 222, attributes := #[] }, { accessFlags := 74, nameIndex := 29, descriptorIndex := 30, attributes := #[] }, { accessFlags := 74, nameIndex := 154, descriptorIndex := 155, attributes := #[] }, { accessFlags := 10, nameIndex := 217, descriptorIndex := 218, attributes := #[] }, { accessFlags := 10, nameIndex := 221, descriptorIndex := 222, attributes := #[] }, { accessFlags := 8, nameIndex := 562, descriptorIndex := 563, attributes := #[] }])
  fields := #[{ name := "in", type := (.object "java/io/InputStream"), accessFlags := 25, slot := 0, constantValue := 0 }, { name := "out", type := (.object "java/io/PrintStream"), accessFlags := 25, slot := 1, constantValue := 0 }, { name := "err", type := (.object "java/io/PrintStream"), accessFlags := 25, slot := 2, constantValue := 0 }, { name := "initialIn", type := (.object "java/io/InputStream"), accessFlags := 10, slot := 3, constantValue := 0 }, { name := "NEVER", type := .int, accessFlags := 26, slot := 4, constantValue := 0 }, { name := "MAYBE", type := .int, accessFlags := 26, slot := 5, constantValue := 0 }, { name := "allowSecurityManager", type := .int, accessFlags := 10, slot := 6, constantValue := 0 }, { name := "security", type := (.object "java/lang/SecurityManager"), accessFlags := 74, slot := 7, constantValue := 0 }, { name := "notSupportedJnuEncoding", type := (.object "java/lang/String"), accessFlags := 10, slot := 8, constantValue := 0 }, { name := "cons", type := (.object "java/io/Console"), accessFlags := 74, slot := 9, constantValue := 0 }, { name := "initialErrStream", type := (.object "java/io/PrintStream"), accessFlags := 74, slot := 10, constantValue := 0 }, { name := "props", type := (.object "java/util/Properties"), accessFlags := 10, slot := 11, constantValue := 0 }, { name := "lineSeparator", type := (.object "java/lang/String"), accessFlags := 10, slot := 12, constantValue := 0 }, { name := "bootLayer", type := (.object "java/lang/ModuleLayer"), accessFlags := 8, slot := 13, constantValue := 0 }]
  methods := #[k14m0, k14m1]
  instanceTypes := #[]
  staticTypes := #[(.object "java/io/InputStream"), (.object "java/io/PrintStream"), (.object "java/io/PrintStream"), (.object "java/io/InputStream"), .int, .int, .int, (.object "java/lang/SecurityManager"), (.object "java/lang/String"), (.object "java/io/Console"), (.object "java/io/PrintStream"), (.object "java/util/Properties"), (.object "java/lang/String"), (.object "java/lang/ModuleLayer")]
  resolved := Array.replicate 834 none
  statics := none }

def pool15 : Array CpInfo := pool [(2, .class_ 4), (1, u "java/lang/Object"), (0, u "<init>"), (0, u "()V"), (14, .class_ 23), (1, u "java/nio/charset/StandardCharsets"), (0, u "US_ASCII"), (0, u "Ljava/nio/charset/Charset;"), (7, u "ISO_8859_1"), (7, u "UTF_8"), (5, u "UTF_16BE"), (5, u "UTF_16LE"), (5, u "UTF_16")] 8

def k15m0 : Method := { name := "<init>", desc := "()V", sig := { parameters := [], returnType := none }, accessFlags := 2, code := none }
/-- java/nio/charset/StandardCharsets -/
def k15 : Class := { plain "java/nio/charset/StandardCharsets" (some 0) with
  accessFlags := 49
  interfaces := #[]
  cf := some (fileOf pool15 21 #[] #[{ accessFlags := 2, nameIndex := 5, descriptorIndex := 6, attributes := #[] }] 49 2 #[] #[{ accessFlags := 25, nameIndex := 24, descriptorIndex := 25, attributes := #[] }, { accessFlags := 25, nameIndex := 33, descriptorIndex := 25, attributes := #[] }, { accessFlags := 25, nameIndex := 41, descriptorIndex := 25, attributes := #[] }, { accessFlags := 25, nameIndex := 47, descriptorIndex := 25, attributes := #[] }, { accessFlags := 25, nameIndex := 53, descriptorIndex := 25, attributes := #[] }, { accessFlags := 25, nameIndex := 59, descriptorIndex := 25, attributes := #[] }])
  fields := #[{ name := "US_ASCII", type := (.object "java/nio/charset/Charset"), accessFlags := 25, slot := 0, constantValue := 0 }, { name := "ISO_8859_1", type := (.object "java/nio/charset/Charset"), accessFlags := 25, slot := 1, constantValue := 0 }, { name := "UTF_8", type := (.object "java/nio/charset/Charset"), accessFlags := 25, slot := 2, constantValue := 0 }, { name := "UTF_16BE", type := (.object "java/nio/charset/Charset"), accessFlags := 25, slot := 3, constantValue := 0 }, { name := "UTF_16LE", type := (.object "java/nio/charset/Charset"), accessFlags := 25, slot := 4, constantValue := 0 }, { name := "UTF_16", type := (.object "java/nio/charset/Charset"), accessFlags := 25, slot := 5, constantValue := 0 }]
  methods := #[k15m0]
  instanceTypes := #[]
  staticTypes := #[(.object "java/nio/charset/Charset"), (.object "java/nio/charset/Charset"), (.object "java/nio/charset/Charset"), (.object "java/nio/charset/Charset"), (.object "java/nio/charset/Charset"), (.object "java/nio/charset/Charset")]
  resolved := Array.replicate 68 none
  statics := some 3 }

def pool16 : Array CpInfo := pool [(18, .class_ 20), (1, u "java/nio/charset/Charset"), (0, u "cache1"), (0, u "[Ljava/lang/Object;"), (2, u "cache2"), (0, .class_ 27), (0, u "java/lang/Object"), (0, .class_ 29), (0, u "java/nio/charset/Charset$1"), (4, .class_ 36), (1, u "java/nio/charset/Charset$ThreadTrackHolder"), (21, .class_ 59), (0, u "java/nio/charset/Charset$2"), (11, .class_ 73), (1, u "java/nio/charset/Charset$ExtendedProviderHolder"), (22, u "standardProvider"), (0, u "Ljava/nio/charset/spi/CharsetProvider;"), (29, u "name"), (7, .class_ 136), (0, u "java/nio/charset/Charset$3"), (5, u "defaultCharset"), (0, u "Ljava/nio/charset/Charset;"), (14, u "zeroAliases"), (0, u "[Ljava/lang/String;"), (29, u "Ljava/lang/String;"), (2, u "aliases"), (2, u "aliasSet"), (0, u "Ljava/util/Set;"), (82, .class_ 280), (0, u "java/lang/Comparable"), (84, .class_ 366), (0, u "java/nio/charset/Charset$ExtendedProviderHolder$1")] 3

/-- java/nio/charset/Charset -/
def k16 : Class := { plain "java/nio/charset/Charset" (some 0) with
  accessFlags := 1057
  interfaces := #[3]
  cf := some (fileOf pool16 18 #[.nestMembers #[71, 365, 34, 135, 58, 28]] #[] 1057 26 #[279] #[{ accessFlags := 26, nameIndex := 96, descriptorIndex := 97, attributes := #[] }, { accessFlags := 26, nameIndex := 158, descriptorIndex := 159, attributes := #[] }, { accessFlags := 74, nameIndex := 21, descriptorIndex := 22, attributes := #[] }, { accessFlags := 74, nameIndex := 25, descriptorIndex := 22, attributes := #[] }, { accessFlags := 10, nameIndex := 142, descriptorIndex := 143, attributes := #[] }, { accessFlags := 18, nameIndex := 127, descriptorIndex := 189, attributes := #[] }, { accessFlags := 18, nameIndex := 192, descriptorIndex := 159, attributes := #[] }, { accessFlags := 2, nameIndex := 195, descriptorIndex := 196, attributes := #[] }])
  fields := #[{ name := "standardProvider", type := (.object "java/nio/charset/spi/CharsetProvider"), accessFlags := 26, slot := 0, constantValue := 0 }, { name := "zeroAliases", type := (.array (.object "java/lang/String")), accessFlags := 26, slot := 1, constantValue := 0 }, { name := "cache1", type := (.array (.object "java/lang/Object")), accessFlags := 74, slot := 2, constantValue := 0 }, { name := "cache2", type := (.array (.object "java/lang/Object")), accessFlags := 74, slot := 3, constantValue := 0 }, { name := "defaultCharset", type := (.object "java/nio/charset/Charset"), accessFlags := 10, slot := 4, constantValue := 0 }, { name := "name", type := (.object "java/lang/String"), accessFlags := 18, slot := 0, constantValue := 0 }, { name := "aliases", type := (.array (.object "java/lang/String")), accessFlags := 18, slot := 1, constantValue := 0 }, { name := "aliasSet", type := (.object "java/util/Set"), accessFlags := 2, slot := 2, constantValue := 0 }]
  methods := #[]
  instanceTypes := #[(.object "java/lang/String"), (.array (.object "java/lang/String")), (.object "java/util/Set")]
  staticTypes := #[(.object "java/nio/charset/spi/CharsetProvider"), (.array (.object "java/lang/String")), (.array (.object "java/lang/Object")), (.array (.object "java/lang/Object")), (.object "java/nio/charset/Charset")]
  resolved := Array.replicate 370 none
  statics := none }

def pool17 : Array CpInfo := pool [(1, .class_ 2), (0, u "sun/nio/cs/HistoricallyNamedCharset"), (0, .class_ 4), (0, u "java/lang/Object")] 4

/-- sun/nio/cs/HistoricallyNamedCharset -/
def k17 : Class := { plain "sun/nio/cs/HistoricallyNamedCharset" (some 0) with
  accessFlags := 1537
  interfaces := #[]
  cf := some (fileOf pool17 1 #[] #[] 1537 3 #[] #[])
  fields := #[]
  methods := #[]
  instanceTypes := #[]
  staticTypes := #[]
  resolved := Array.replicate 9 none
  statics := none }

def pool18 : Array CpInfo := pool [(2, .class_ 4), (1, u "java/nio/charset/Charset"), (130, .class_ 136), (0, u "sun/nio/cs/Unicode"), (0, .class_ 138), (0, u "sun/nio/cs/HistoricallyNamedCharset")] 15

/-- sun/nio/cs/Unicode -/
def k18 : Class := { plain "sun/nio/cs/Unicode" (some 16) with
  accessFlags := 1056
  interfaces := #[17]
  cf := some (fileOf pool18 135 #[] #[] 1056 2 #[137] #[])
  fields := #[]
  methods := #[]
  instanceTypes := #[(.object "java/lang/String"), (.array (.object "java/lang/String")), (.object "java/util/Set")]
  staticTypes := #[]
  resolved := Array.replicate 154 none
  statics := none }

def pool19 : Array CpInfo := pool [(10, .class_ 12), (1, u "sun/nio/cs/Unicode"), (0, u "<init>"), (3, .class_ 18), (0, u "sun/nio/cs/UTF_8$Decoder"), (3, .class_ 23), (0, u "sun/nio/cs/UTF_8$Encoder"), (15, .class_ 40), (0, u "sun/nio/cs/UTF_8"), (2, u "()V"), (2, u "INSTANCE"), (0, u "Lsun/nio/cs/UTF_8;"), (8, u "JLA"), (0, u "Ljdk/internal/access/JavaLangAccess;")] 26

def k19m0 : Method := { name := "<init>", desc := "()V", sig := { parameters := [], returnType := none }, accessFlags := 1, code := none }
/-- sun/nio/cs/UTF_8 -/
def k19 : Class := { plain "sun/nio/cs/UTF_8" (some 18) with
  accessFlags := 49
  interfaces := #[]
  cf := some (fileOf pool19 39 #[.nestMembers #[22, 17]] #[{ accessFlags := 1, nameIndex := 13, descriptorIndex := 43, attributes := #[] }] 49 10 #[] #[{ accessFlags := 25, nameIndex := 46, descriptorIndex := 47, attributes := #[] }, { accessFlags := 26, nameIndex := 56, descriptorIndex := 57, attributes := #[] }])
  fields := #[{ name := "INSTANCE", type := (.object "sun/nio/cs/UTF_8"), accessFlags := 25, slot := 0, constantValue := 0 }, { name := "JLA", type := (.object "jdk/internal/access/JavaLangAccess"), accessFlags := 26, slot := 1, constantValue := 0 }]
  methods := #[k19m0]
  instanceTypes := #[(.object "java/lang/String"), (.array (.object "java/lang/String")), (.object "java/util/Set")]
  staticTypes := #[(.object "sun/nio/cs/UTF_8"), (.object "jdk/internal/access/JavaLangAccess")]
  resolved := Array.replicate 84 none
  statics := some 4 }

def pool20 : Array CpInfo := pool [(2, .class_ 4), (1, u "java/lang/Object"), (0, u "<init>"), (0, u "()V"), (0, .methodref 8 9), (0, .class_ 10), (0, .nameAndType 11 12), (0, u "java/lang/StringCoding"), (0, u "countPositives"), (0, u "([BII)I"), (11, u "hasNegatives"), (0, u "([BII)Z")] 23

def k20m0 : Method := { name := "<init>", desc := "()V", sig := { parameters := [], returnType := none }, accessFlags := 2, code := none }
def k20c1 : Code := { maxStack := 3, maxLocals := 3, code := jdk_123_method_2_code, exceptionTable := #[], attributes := #[] }
def k20m1 : Method := { name := "hasNegatives", desc := "([BII)Z", sig := { parameters := [(.array .byte), .int, .int], returnType := some .boolean }, accessFlags := 9, code := some k20c1 }
def k20c2 : Code := { maxStack := 2, maxLocals := 5, code := jdk_123_method_3_code, exceptionTable := #[], attributes := #[] }
def k20m2 : Method := { name := "countPositives", desc := "([BII)I", sig := { parameters := [(.array .byte), .int, .int], returnType := some .int }, accessFlags := 9, code := some k20c2 }
/-- java/lang/StringCoding -/
def k20 : Class := { plain "java/lang/StringCoding" (some 0) with
  accessFlags := 32
  interfaces := #[]
  cf := some (fileOf pool20 8 #[] #[{ accessFlags := 2, nameIndex := 5, descriptorIndex := 6, attributes := #[] }, { accessFlags := 9, nameIndex := 24, descriptorIndex := 25, attributes := #[] }, { accessFlags := 9, nameIndex := 11, descriptorIndex := 12, attributes := #[] }] 32 2 #[] #[])
  fields := #[]
  methods := #[k20m0, k20m1, k20m2]
  instanceTypes := #[]
  staticTypes := #[]
  resolved := Array.replicate 49 none
  statics := none }

def pool21 : Array CpInfo := pool [(1, .class_ 2), (0, u "java/lang/Cloneable"), (0, .class_ 4), (0, u "java/lang/Object")] 2

/-- java/lang/Cloneable -/
def k21 : Class := { plain "java/lang/Cloneable" (some 0) with
  accessFlags := 1537
  interfaces := #[]
  cf := some (fileOf pool21 1 #[] #[] 1537 3 #[] #[])
  fields := #[]
  methods := #[]
  instanceTypes := #[]
  staticTypes := #[]
  resolved := Array.replicate 7 none
  statics := none }

def pool22 : Array CpInfo := pool [(1, .class_ 2), (0, u "java/lang/Character"), (18, u "value"), (0, u "C"), (19, .class_ 44), (1, u "java/lang/Object"), (3, .class_ 50), (1, u "java/lang/Character$CharacterCache"), (24, .integer 55296), (1, .integer 57344), (3, u "(C)Z"), (202, u "$assertionsDisabled"), (0, u "Z"), (21, .class_ 309), (1, u "java/lang/Character$UnicodeBlock"), (73, u "TYPE"), (0, u "Ljava/lang/Class;"), (0, .class_ 386), (0, u "java/io/Serializable"), (0, .class_ 388), (0, u "java/lang/Comparable"), (0, .class_ 390), (0, u "java/lang/constant/Constable"), (0, u "MIN_RADIX"), (0, u "I"), (2, u "MAX_RADIX"), (1, u "MIN_VALUE"), (1, u "MAX_VALUE"), (3, u "UNASSIGNED"), (0, u "B"), (0, u "UPPERCASE_LETTER"), (1, u "LOWERCASE_LETTER"), (0, u "TITLECASE_LETTER"), (1, u "MODIFIER_LETTER"), (1, u "OTHER_LETTER"), (1, u "NON_SPACING_MARK"), (1, u "ENCLOSING_MARK"), (1, u "COMBINING_SPACING_MARK"), (1, u "DECIMAL_DIGIT_NUMBER"), (1, u "LETTER_NUMBER"), (1, u "OTHER_NUMBER"), (1, u "SPACE_SEPARATOR"), (1, u "LINE_SEPARATOR"), (1, u "PARAGRAPH_SEPARATOR"), (1, u "CONTROL"), (1, u "FORMAT"), (1, u "PRIVATE_USE"), (1, u "SURROGATE"), (1, u "DASH_PUNCTUATION"), (1, u "START_PUNCTUATION"), (1, u "END_PUNCTUATION"), (1, u "CONNECTOR_PUNCTUATION"), (1, u "OTHER_PUNCTUATION"), (1, u "MATH_SYMBOL"), (1, u "CURRENCY_SYMBOL"), (1, u "MODIFIER_SYMBOL"), (1, u "OTHER_SYMBOL"), (1, u "INITIAL_QUOTE_PUNCTUATION"), (1, u "FINAL_QUOTE_PUNCTUATION"), (1, u "ERROR"), (1, u "DIRECTIONALITY_UNDEFINED"), (0, u "DIRECTIONALITY_LEFT_TO_RIGHT"), (0, u "DIRECTIONALITY_RIGHT_TO_LEFT"), (0, u "DIRECTIONALITY_RIGHT_TO_LEFT_ARABIC"), (0, u "DIRECTIONALITY_EUROPEAN_NUMBER"), (0, u "DIRECTIONALITY_EUROPEAN_NUMBER_SEPARATOR"), (0, u "DIRECTIONALITY_EUROPEAN_NUMBER_TERMINATOR"), (0, u "DIRECTIONALITY_ARABIC_NUMBER"), (0, u "DIRECTIONALITY_COMMON_NUMBER_SEPARATOR"), (0, u "DIRECTIONALITY_NONSPACING_MARK"), (0, u "DIRECTIONALITY_BOUNDARY_NEUTRAL"), (0, u "DIRECTIONALITY_PARAGRAPH_SEPARATOR"), (0, u "DIRECTIONALITY_SEGMENT_SEPARATOR"), (0, u "DIRECTIONALITY_WHITESPACE"), (0, u "DIRECTIONALITY_OTHER_NEUTRALS"), (0, u "DIRECTIONALITY_LEFT_TO_RIGHT_EMBEDDING"), (0, u "DIRECTIONALITY_LEFT_TO_RIGHT_OVERRIDE"), (0, u "DIRECTIONALITY_RIGHT_TO_LEFT_EMBEDDING"), (0, u "DIRECTIONALITY_RIGHT_TO_LEFT_OVERRIDE"), (1, u "DIRECTIONALITY_POP_DIRECTIONAL_FORMAT"), (0, u "DIRECTIONALITY_LEFT_TO_RIGHT_ISOLATE"), (0, u "DIRECTIONALITY_RIGHT_TO_LEFT_ISOLATE"), (0, u "DIRECTIONALITY_FIRST_STRONG_ISOLATE"), (0, u "DIRECTIONALITY_POP_DIRECTIONAL_ISOLATE"), (0, u "MIN_HIGH_SURROGATE"), (0, u "MAX_HIGH_SURROGATE"), (1, u "MIN_LOW_SURROGATE"), (0, u "MAX_LOW_SURROGATE"), (1, u "MIN_SURROGATE"), (0, u "MAX_SURROGATE"), (0, u "MIN_SUPPLEMENTARY_CODE_POINT"), (0, u "MIN_CODE_POINT"), (0, u "MAX_CODE_POINT"), (1, u "serialVersionUID"), (0, u "J"), (2, u "SIZE"), (0, u "BYTES"), (24, u "isSurrogate"), (63, .class_ 596), (0, u "java/lang/Character$UnicodeScript"), (0, .class_ 598), (0, u "java/lang/Character$Subset")] 5

def k22c0 : Code := { maxStack := 2, maxLocals := 1, code := jdk_89_method_16_code, exceptionTable := #[], attributes := #[] }
def k22m0 : Method := { name := "isSurrogate", desc := "(C)Z", sig := { parameters := [.char], returnType := some .boolean }, accessFlags := 9, code := some k22c0 }
/-- java/lang/Character -/
def k22 : Class := { plain "java/lang/Character" (some 0) with
  accessFlags := 49
  interfaces := #[2, 3, 5]
  cf := some (fileOf pool22 1 #[.nestMembers #[48, 595, 307, 597]] #[{ accessFlags := 9, nameIndex := 531, descriptorIndex := 81, attributes := #[] }] 49 42 #[385, 387, 389] #[{ accessFlags := 25, nameIndex := 391, descriptorIndex := 392, attributes := #[] }, { accessFlags := 25, nameIndex := 395, descriptorIndex := 392, attributes := #[] }, { accessFlags := 25, nameIndex := 397, descriptorIndex := 22, attributes := #[] }, { accessFlags := 25, nameIndex := 399, descriptorIndex := 22, attributes := #[] }, { accessFlags := 25, nameIndex := 383, descriptorIndex := 384, attributes := #[] }, { accessFlags := 25, nameIndex := 403, descriptorIndex := 404, attributes := #[] }, { accessFlags := 25, nameIndex := 405, descriptorIndex := 404, attributes := #[] }, { accessFlags := 25, nameIndex := 407, descriptorIndex := 404, attributes := #[] }, { accessFlags := 25, nameIndex := 408, descriptorIndex := 404, attributes := #[] }, { accessFlags := 25, nameIndex := 410, descriptorIndex := 404, attributes := #[] }, { accessFlags := 25, nameIndex := 412, descriptorIndex := 404, attributes := #[] }, { accessFlags := 25, nameIndex := 414, descriptorIndex := 404, attributes := #[] }, { accessFlags := 25, nameIndex := 416, descriptorIndex := 404, attributes := #[] }, { accessFlags := 25, nameIndex := 418, descriptorIndex := 404, attributes := #[] }, { accessFlags := 25, nameIndex := 420, descriptorIndex := 404, attributes := #[] }, { accessFlags := 25, nameIndex := 422, descriptorIndex := 404, attributes := #[] }, { accessFlags := 25, nameIndex := 424, descriptorIndex := 404, attributes := #[] }, { accessFlags := 25, nameIndex := 426, descriptorIndex := 404, attributes := #[] }, { accessFlags := 25, nameIndex := 428, descriptorIndex := 404, attributes := #[] }, { accessFlags := 25, nameIndex := 430, descriptorIndex := 404, attributes := #[] }, { accessFlags := 25, nameIndex := 432, descriptorIndex := 404, attributes := #[] }, { accessFlags := 25, nameIndex := 434, descriptorIndex := 404, attributes := #[] }, { accessFlags := 25, nameIndex := 436, descriptorIndex := 404, attributes := #[] }, { accessFlags := 25, nameIndex := 438, descriptorIndex := 404, attributes := #[] }, { accessFlags := 25, nameIndex := 440, descriptorIndex := 404, attributes := #[] }, { accessFlags := 25, nameIndex := 442, descriptorIndex := 404, attributes := #[] }, { accessFlags := 25, nameIndex := 444, descriptorIndex := 404, attributes := #[] }, { accessFlags := 25, nameIndex := 446, descriptorIndex := 404, attributes := #[] }, { accessFlags := 25, nameIndex := 448, descriptorIndex := 404, attributes := #[] }, { accessFlags := 25, nameIndex := 450, descriptorIndex := 404, attributes := #[] }, { accessFlags := 25, nameIndex := 452, descriptorIndex := 404, attributes := #[] }, { accessFlags := 25, nameIndex := 454, descriptorIndex := 404, attributes := #[] }, { accessFlags := 25, nameIndex := 456, descriptorIndex := 404, attributes := #[] }, { accessFlags := 25, nameIndex := 458, descriptorIndex := 404, attributes := #[] }, { accessFlags := 25, nameIndex := 460, descriptorIndex := 404, attributes := #[] }, { accessFlags := 24, nameIndex := 462, descriptorIndex := 392, attributes := #[] }, { accessFlags := 25, nameIndex := 464, descriptorIndex := 404, attributes := #[] }, { accessFlags := 25, nameIndex := 465, descriptorIndex := 404, attributes := #[] }, { accessFlags := 25, nameIndex := 466, descriptorIndex := 404, attributes := #[] }, { accessFlags := 25, nameIndex := 467, descriptorIndex := 404, attributes := #[] }, { accessFlags := 25, nameIndex := 468, descriptorIndex := 404, attributes := #[] }, { accessFlags := 25, nameIndex := 469, descriptorIndex := 404, attributes := #[] }, { accessFlags := 25, nameIndex := 470, descriptorIndex := 404, attributes := #[] }, { accessFlags := 25, nameIndex := 471, descriptorIndex := 404, attributes := #[] }, { accessFlags := 25, nameIndex := 472, descriptorIndex := 404, attributes := #[] }, { accessFlags := 25, nameIndex := 473, descriptorIndex := 404, attributes := #[] }, { accessFlags := 25, nameIndex := 474, descriptorIndex := 404, attributes := #[] }, { accessFlags := 25, nameIndex := 475, descriptorIndex := 404, attributes := #[] }, { accessFlags := 25, nameIndex := 476, descriptorIndex := 404, attributes := #[] }, { accessFlags := 25, nameIndex := 477, descriptorIndex := 404, attributes := #[] }, { accessFlags := 25, nameIndex := 478, descriptorIndex := 404, attributes := #[] }, { accessFlags := 25, nameIndex := 479, descriptorIndex := 404, attributes := #[] }, { accessFlags := 25, nameIndex := 480, descriptorIndex := 404, attributes := #[] }, { accessFlags := 25, nameIndex := 481, descriptorIndex := 404, attributes := #[] }, { accessFlags := 25, nameIndex := 482, descriptorIndex := 404, attributes := #[] }, { accessFlags := 25, nameIndex := 484, descriptorIndex := 404, attributes := #[] }, { accessFlags := 25, nameIndex := 485, descriptorIndex := 404, attributes := #[] }, { accessFlags := 25, nameIndex := 486, descriptorIndex := 404, attributes := #[] }, { accessFlags := 25, nameIndex := 487, descriptorIndex := 404, attributes := #[] }, { accessFlags := 25, nameIndex := 488, descriptorIndex := 404, attributes := #[] }, { accessFlags := 25, nameIndex := 489, descriptorIndex := 22, attributes := #[] }, { accessFlags := 25, nameIndex := 490, descriptorIndex := 22, attributes := #[] }, { accessFlags := 25, nameIndex := 492, descriptorIndex := 22, attributes := #[] }, { accessFlags := 25, nameIndex := 493, descriptorIndex := 22, attributes := #[] }, { accessFlags := 25, nameIndex := 495, descriptorIndex := 22, attributes := #[] }, { accessFlags := 25, nameIndex := 496, descriptorIndex := 22, attributes := #[] }, { accessFlags := 25, nameIndex := 497, descriptorIndex := 392, attributes := #[] }, { accessFlags := 25, nameIndex := 498, descriptorIndex := 392, attributes := #[] }, { accessFlags := 25, nameIndex := 499, descriptorIndex := 392, attributes := #[] }, { accessFlags := 18, nameIndex := 21, descriptorIndex := 22, attributes := #[] }, { accessFlags := 26, nameIndex := 501, descriptorIndex := 502, attributes := #[] }, { accessFlags := 25, nameIndex := 505, descriptorIndex := 392, attributes := #[] }, { accessFlags := 25, nameIndex := 506, descriptorIndex := 392, attributes := #[] }, { accessFlags := 4120, nameIndex := 284, descriptorIndex := 285, attributes := #[] }])
  fields := #[{ name := "MIN_RADIX", type := .int, accessFlags := 25, slot := 0, constantValue := 0 }, { name := "MAX_RADIX", type := .int, accessFlags := 25, slot := 1, constantValue := 0 }, { name := "MIN_VALUE", type := .char, accessFlags := 25, slot := 2, constantValue := 0 }, { name := "MAX_VALUE", type := .char, accessFlags := 25, slot := 3, constantValue := 0 }, { name := "TYPE", type := (.object "java/lang/Class"), accessFlags := 25, slot := 4, constantValue := 0 }, { name := "UNASSIGNED", type := .byte, accessFlags := 25, slot := 5, constantValue := 0 }, { name := "UPPERCASE_LETTER", type := .byte, accessFlags := 25, slot := 6, constantValue := 0 }, { name := "LOWERCASE_LETTER", type := .byte, accessFlags := 25, slot := 7, constantValue := 0 }, { name := "TITLECASE_LETTER", type := .byte, accessFlags := 25, slot := 8, constantValue := 0 }, { name := "MODIFIER_LETTER", type := .byte, accessFlags := 25, slot := 9, constantValue := 0 }, { name := "OTHER_LETTER", type := .byte, accessFlags := 25, slot := 10, constantValue := 0 }, { name := "NON_SPACING_MARK", type := .byte, accessFlags := 25, slot := 11, constantValue := 0 }, { name := "ENCLOSING_MARK", type := .byte, accessFlags := 25, slot := 12, constantValue := 0 }, { name := "COMBINING_SPACING_MARK", type := .byte, accessFlags := 25, slot := 13, constantValue := 0 }, { name := "DECIMAL_DIGIT_NUMBER", type := .byte, accessFlags := 25, slot := 14, constantValue := 0 }, { name := "LETTER_NUMBER", type := .byte, accessFlags := 25, slot := 15, constantValue := 0 }, { name := "OTHER_NUMBER", type := .byte, accessFlags := 25, slot := 16, constantValue := 0 }, { name := "SPACE_SEPARATOR", type := .byte, accessFlags := 25, slot := 17, constantValue := 0 }, { name := "LINE_SEPARATOR", type := .byte, accessFlags := 25, slot := 18, constantValue := 0 }, { name := "PARAGRAPH_SEPARATOR", type := .byte, accessFlags := 25, slot := 19, constantValue := 0 }, { name := "CONTROL", type := .byte, accessFlags := 25, slot := 20, constantValue := 0 }, { name := "FORMAT", type := .byte, accessFlags := 25, slot := 21, constantValue := 0 }, { name := "PRIVATE_USE", type := .byte, accessFlags := 25, slot := 22, constantValue := 0 }, { name := "SURROGATE", type := .byte, accessFlags := 25, slot := 23, constantValue := 0 }, { name := "DASH_PUNCTUATION", type := .byte, accessFlags := 25, slot := 24, constantValue := 0 }, { name := "START_PUNCTUATION", type := .byte, accessFlags := 25, slot := 25, constantValue := 0 }, { name := "END_PUNCTUATION", type := .byte, accessFlags := 25, slot := 26, constantValue := 0 }, { name := "CONNECTOR_PUNCTUATION", type := .byte, accessFlags := 25, slot := 27, constantValue := 0 }, { name := "OTHER_PUNCTUATION", type := .byte, accessFlags := 25, slot := 28, constantValue := 0 }, { name := "MATH_SYMBOL", type := .byte, accessFlags := 25, slot := 29, constantValue := 0 }, { name := "CURRENCY_SYMBOL", type := .byte, accessFlags := 25, slot := 30, constantValue := 0 }, { name := "MODIFIER_SYMBOL", type := .byte, accessFlags := 25, slot := 31, constantValue := 0 }, { name := "OTHER_SYMBOL", type := .byte, accessFlags := 25, slot := 32, constantValue := 0 }, { name := "INITIAL_QUOTE_PUNCTUATION", type := .byte, accessFlags := 25, slot := 33, constantValue := 0 }, { name := "FINAL_QUOTE_PUNCTUATION", type := .byte, accessFlags := 25, slot := 34, constantValue := 0 }, { name := "ERROR", type := .int, accessFlags := 24, slot := 35, constantValue := 0 }, { name := "DIRECTIONALITY_UNDEFINED", type := .byte, accessFlags := 25, slot := 36, constantValue := 0 }, { name := "DIRECTIONALITY_LEFT_TO_RIGHT", type := .byte, accessFlags := 25, slot := 37, constantValue := 0 }, { name := "DIRECTIONALITY_RIGHT_TO_LEFT", type := .byte, accessFlags := 25, slot := 38, constantValue := 0 }, { name := "DIRECTIONALITY_RIGHT_TO_LEFT_ARABIC", type := .byte, accessFlags := 25, slot := 39, constantValue := 0 }, { name := "DIRECTIONALITY_EUROPEAN_NUMBER", type := .byte, accessFlags := 25, slot := 40, constantValue := 0 }, { name := "DIRECTIONALITY_EUROPEAN_NUMBER_SEPARATOR", type := .byte, accessFlags := 25, slot := 41, constantValue := 0 }, { name := "DIRECTIONALITY_EUROPEAN_NUMBER_TERMINATOR", type := .byte, accessFlags := 25, slot := 42, constantValue := 0 }, { name := "DIRECTIONALITY_ARABIC_NUMBER", type := .byte, accessFlags := 25, slot := 43, constantValue := 0 }, { name := "DIRECTIONALITY_COMMON_NUMBER_SEPARATOR", type := .byte, accessFlags := 25, slot := 44, constantValue := 0 }, { name := "DIRECTIONALITY_NONSPACING_MARK", type := .byte, accessFlags := 25, slot := 45, constantValue := 0 }, { name := "DIRECTIONALITY_BOUNDARY_NEUTRAL", type := .byte, accessFlags := 25, slot := 46, constantValue := 0 }, { name := "DIRECTIONALITY_PARAGRAPH_SEPARATOR", type := .byte, accessFlags := 25, slot := 47, constantValue := 0 }, { name := "DIRECTIONALITY_SEGMENT_SEPARATOR", type := .byte, accessFlags := 25, slot := 48, constantValue := 0 }, { name := "DIRECTIONALITY_WHITESPACE", type := .byte, accessFlags := 25, slot := 49, constantValue := 0 }, { name := "DIRECTIONALITY_OTHER_NEUTRALS", type := .byte, accessFlags := 25, slot := 50, constantValue := 0 }, { name := "DIRECTIONALITY_LEFT_TO_RIGHT_EMBEDDING", type := .byte, accessFlags := 25, slot := 51, constantValue := 0 }, { name := "DIRECTIONALITY_LEFT_TO_RIGHT_OVERRIDE", type := .byte, accessFlags := 25, slot := 52, constantValue := 0 }, { name := "DIRECTIONALITY_RIGHT_TO_LEFT_EMBEDDING", type := .byte, accessFlags := 25, slot := 53, constantValue := 0 }, { name := "DIRECTIONALITY_RIGHT_TO_LEFT_OVERRIDE", type := .byte, accessFlags := 25, slot := 54, constantValue := 0 }, { name := "DIRECTIONALITY_POP_DIRECTIONAL_FORMAT", type := .byte, accessFlags := 25, slot := 55, constantValue := 0 }, { name := "DIRECTIONALITY_LEFT_TO_RIGHT_ISOLATE", type := .byte, accessFlags := 25, slot := 56, constantValue := 0 }, { name := "DIRECTIONALITY_RIGHT_TO_LEFT_ISOLATE", type := .byte, accessFlags := 25, slot := 57, constantValue := 0 }, { name := "DIRECTIONALITY_FIRST_STRONG_ISOLATE", type := .byte, accessFlags := 25, slot := 58, constantValue := 0 }, { name := "DIRECTIONALITY_POP_DIRECTIONAL_ISOLATE", type := .byte, accessFlags := 25, slot := 59, constantValue := 0 }, { name := "MIN_HIGH_SURROGATE", type := .char, accessFlags := 25, slot := 60, constantValue := 0 }, { name := "MAX_HIGH_SURROGATE", type := .char, accessFlags := 25, slot := 61, constantValue := 0 }, { name := "MIN_LOW_SURROGATE", type := .char, accessFlags := 25, slot := 62, constantValue := 0 }, { name := "MAX_LOW_SURROGATE", type := .char, accessFlags := 25, slot := 63, constantValue := 0 }, { name := "MIN_SURROGATE", type := .char, accessFlags := 25, slot := 64, constantValue := 0 }, { name := "MAX_SURROGATE", type := .char, accessFlags := 25, slot := 65, constantValue := 0 }, { name := "MIN_SUPPLEMENTARY_CODE_POINT", type := .int, accessFlags := 25, slot := 66, constantValue := 0 }, { name := "MIN_CODE_POINT", type := .int, accessFlags := 25, slot := 67, constantValue := 0 }, { name := "MAX_CODE_POINT", type := .int, accessFlags := 25, slot := 68, constantValue := 0 }, { name := "value", type := .char, accessFlags := 18, slot := 0, constantValue := 0 }, { name := "serialVersionUID", type := .long, accessFlags := 26, slot := 69, constantValue := 0 }, { name := "SIZE", type := .int, accessFlags := 25, slot := 70, constantValue := 0 }, { name := "BYTES", type := .int, accessFlags := 25, slot := 71, constantValue := 0 }, { name := "$assertionsDisabled", type := .boolean, accessFlags := 4120, slot := 72, constantValue := 0 }]
  methods := #[k22m0]
  instanceTypes := #[.char]
  staticTypes := #[.int, .int, .char, .char, (.object "java/lang/Class"), .byte, .byte, .byte, .byte, .byte, .byte, .byte, .byte, .byte, .byte, .byte, .byte, .byte, .byte, .byte, .byte, .byte, .byte, .byte, .byte, .byte, .byte, .byte, .byte, .byte, .byte, .byte, .byte, .byte, .byte, .int, .byte, .byte, .byte, .byte, .byte, .byte, .byte, .byte, .byte, .byte, .byte, .byte, .byte, .byte, .byte, .byte, .byte, .byte, .byte, .byte, .byte, .byte, .byte, .byte, .char, .char, .char, .char, .char, .char, .int, .int, .int, .long, .int, .int, .boolean]
  resolved := Array.replicate 604 none
  statics := none }

def pool23 : Array CpInfo := pool [(9, u "<init>"), (6, .class_ 18), (1, u "java/lang/Object"), (0, u "()V"), (1, .class_ 23), (1, u "jdk/internal/util/ArraysSupport"), (0, u "LOG2_ARRAY_LONG_INDEX_SCALE"), (0, u "I"), (2, u "U"), (0, u "Ljdk/internal/misc/Unsafe;"), (8, u "BIG_ENDIAN"), (0, u "Z"), (8, u "LOG2_BYTE_BIT_SIZE"), (4, u "LOG2_ARRAY_INT_INDEX_SCALE"), (54, u "JLA"), (0, u "Ljdk/internal/access/JavaLangAccess;"), (11, u "LOG2_ARRAY_BOOLEAN_INDEX_SCALE"), (9, u "LOG2_ARRAY_BYTE_INDEX_SCALE"), (5, u "LOG2_ARRAY_CHAR_INDEX_SCALE"), (5, u "LOG2_ARRAY_SHORT_INDEX_SCALE"), (18, u "LOG2_ARRAY_FLOAT_INDEX_SCALE"), (24, u "LOG2_ARRAY_DOUBLE_INDEX_SCALE"), (89, u "T_BOOLEAN"), (2, u "T_CHAR"), (1, u "T_FLOAT"), (1, u "T_DOUBLE"), (1, u "T_BYTE"), (1, u "T_SHORT"), (1, u "T_INT"), (1, u "T_LONG"), (1, u "SOFT_MAX_ARRAY_LENGTH")] 83

def k23m0 : Method := { name := "<init>", desc := "()V", sig := { parameters := [], returnType := none }, accessFlags := 2, code := none }
/-- jdk/internal/util/ArraysSupport -/
def k23 : Class := { plain "jdk/internal/util/ArraysSupport" (some 0) with
  accessFlags := 33
  interfaces := #[]
  cf := some (fileOf pool23 21 #[] #[{ accessFlags := 2, nameIndex := 9, descriptorIndex := 19, attributes := #[] }] 33 16 #[] #[{ accessFlags := 24, nameIndex := 28, descriptorIndex := 29, attributes := #[] }, { accessFlags := 26, nameIndex := 38, descriptorIndex := 39, attributes := #[] }, { accessFlags := 25, nameIndex := 121, descriptorIndex := 25, attributes := #[] }, { accessFlags := 25, nameIndex := 131, descriptorIndex := 25, attributes := #[] }, { accessFlags := 25, nameIndex := 137, descriptorIndex := 25, attributes := #[] }, { accessFlags := 25, nameIndex := 143, descriptorIndex := 25, attributes := #[] }, { accessFlags := 25, nameIndex := 53, descriptorIndex := 25, attributes := #[] }, { accessFlags := 25, nameIndex := 24, descriptorIndex := 25, attributes := #[] }, { accessFlags := 25, nameIndex := 162, descriptorIndex := 25, attributes := #[] }, { accessFlags := 25, nameIndex := 187, descriptorIndex := 25, attributes := #[] }, { accessFlags := 26, nameIndex := 48, descriptorIndex := 25, attributes := #[] }, { accessFlags := 25, nameIndex := 277, descriptorIndex := 25, attributes := #[] }, { accessFlags := 25, nameIndex := 280, descriptorIndex := 25, attributes := #[] }, { accessFlags := 25, nameIndex := 282, descriptorIndex := 25, attributes := #[] }, { accessFlags := 25, nameIndex := 284, descriptorIndex := 25, attributes := #[] }, { accessFlags := 25, nameIndex := 286, descriptorIndex := 25, attributes := #[] }, { accessFlags := 25, nameIndex := 288, descriptorIndex := 25, attributes := #[] }, { accessFlags := 25, nameIndex := 290, descriptorIndex := 25, attributes := #[] }, { accessFlags := 25, nameIndex := 292, descriptorIndex := 25, attributes := #[] }, { accessFlags := 26, nameIndex := 108, descriptorIndex := 109, attributes := #[] }, { accessFlags := 25, nameIndex := 294, descriptorIndex := 25, attributes := #[] }])
  fields := #[{ name := "U", type := (.object "jdk/internal/misc/Unsafe"), accessFlags := 24, slot := 0, constantValue := 0 }, { name := "BIG_ENDIAN", type := .boolean, accessFlags := 26, slot := 1, constantValue := 0 }, { name := "LOG2_ARRAY_BOOLEAN_INDEX_SCALE", type := .int, accessFlags := 25, slot := 2, constantValue := 0 }, { name := "LOG2_ARRAY_BYTE_INDEX_SCALE", type := .int, accessFlags := 25, slot := 3, constantValue := 0 }, { name := "LOG2_ARRAY_CHAR_INDEX_SCALE", type := .int, accessFlags := 25, slot := 4, constantValue := 0 }, { name := "LOG2_ARRAY_SHORT_INDEX_SCALE", type := .int, accessFlags := 25, slot := 5, constantValue := 0 }, { name := "LOG2_ARRAY_INT_INDEX_SCALE", type := .int, accessFlags := 25, slot := 6, constantValue := 0 }, { name := "LOG2_ARRAY_LONG_INDEX_SCALE", type := .int, accessFlags := 25, slot := 7, constantValue := 0 }, { name := "LOG2_ARRAY_FLOAT_INDEX_SCALE", type := .int, accessFlags := 25, slot := 8, constantValue := 0 }, { name := "LOG2_ARRAY_DOUBLE_INDEX_SCALE", type := .int, accessFlags := 25, slot := 9, constantValue := 0 }, { name := "LOG2_BYTE_BIT_SIZE", type := .int, accessFlags := 26, slot := 10, constantValue := 0 }, { name := "T_BOOLEAN", type := .int, accessFlags := 25, slot := 11, constantValue := 0 }, { name := "T_CHAR", type := .int, accessFlags := 25, slot := 12, constantValue := 0 }, { name := "T_FLOAT", type := .int, accessFlags := 25, slot := 13, constantValue := 0 }, { name := "T_DOUBLE", type := .int, accessFlags := 25, slot := 14, constantValue := 0 }, { name := "T_BYTE", type := .int, accessFlags := 25, slot := 15, constantValue := 0 }, { name := "T_SHORT", type := .int, accessFlags := 25, slot := 16, constantValue := 0 }, { name := "T_INT", type := .int, accessFlags := 25, slot := 17, constantValue := 0 }, { name := "T_LONG", type := .int, accessFlags := 25, slot := 18, constantValue := 0 }, { name := "JLA", type := (.object "jdk/internal/access/JavaLangAccess"), accessFlags := 26, slot := 19, constantValue := 0 }, { name := "SOFT_MAX_ARRAY_LENGTH", type := .int, accessFlags := 25, slot := 20, constantValue := 0 }]
  methods := #[k23m0]
  instanceTypes := #[]
  staticTypes := #[(.object "jdk/internal/misc/Unsafe"), .boolean, .int, .int, .int, .int, .int, .int, .int, .int, .int, .int, .int, .int, .int, .int, .int, .int, .int, (.object "jdk/internal/access/JavaLangAccess"), .int]
  resolved := Array.replicate 378 none
  statics := none }

/-- the primitive byte -/
def k24 : Class := { plain "byte" none with kind := .primitive 'B', accessFlags := 0x411 }
/-- [B -/
def k25 : Class := { plain "[B" (some 0) with kind := .array 24 .byte, interfaces := #[21, 2], accessFlags := 1041 }

/-- the primitive char -/
def k26 : Class := { plain "char" none with kind := .primitive 'C', accessFlags := 0x411 }
/-- [C -/
def k27 : Class := { plain "[C" (some 0) with kind := .array 26 .char, interfaces := #[21, 2], accessFlags := 1041 }

/-- the primitive int -/
def k28 : Class := { plain "int" none with kind := .primitive 'I', accessFlags := 0x411 }
/-- [I -/
def k29 : Class := { plain "[I" (some 0) with kind := .array 28 .int, interfaces := #[21, 2], accessFlags := 1041 }

def heap : Heap := #[{ cls := 7, slots := #[.long 0, .int 1, .null, .int 0, .null, .int 0, .int 0], vm := .statics 7 },
  { cls := 8, slots := #[.int 0, .int 8, .int 0, .int 1], vm := .statics 8 },
  { cls := 12, slots := #[.null, .null, .null], vm := .statics 12 },
  { cls := 15, slots := #[.null, .null, .ref 5, .null, .null, .null], vm := .statics 15 },
  { cls := 19, slots := #[.ref 5, .null], vm := .statics 19 },
  { cls := 19, slots := #[.null, .null, .null], vm := .none }]
def classes : Array Class := #[k0, k1, k2, k3, k4, k5, k6, k7, k8, k9, k10, k11, k12, k13, k14, k15, k16, k17, k18, k19, k20, k21, k22, k23, k24, k25, k26, k27, k28, k29]
def interned : List (Array UInt16 × Addr) := []
def slotsUsed : Nat := 25
def theMethod : MethodId := ⟨1, 1⟩
def args0 : Array Value := #[.int 65, .int 66, .int 67]
def aboutOver (below : List Frame) : State where
  vm := { classes := classes, interned := interned.toArray }
  heap := heap
  slotsUsed := slotsUsed
  threads := #[{ frames := .invoking theMethod args0 :: below }]
def below0 : List Frame := [.native { method := ⟨0, 0⟩, args := #[] }]
def about1 : State := aboutOver below0
def p0 : Program := .bare "" "" ""
def e0 : Env := launch0.env 0 0 0
theorem w_frames : about1.frames = Frame.invoking theMethod args0 :: below0 := rfl
set_option maxRecDepth 65536 in
theorem w_args : argsFit about1.vm theMethod args0 = true := by decide +kernel
set_option maxRecDepth 65536 in
theorem w_heap : heapFits about1 = true := by decide +kernel
set_option maxRecDepth 65536 in
theorem w_runnable : about1.curStatus? = some .runnable := by decide +kernel
set_option maxRecDepth 65536 in
theorem w_alone : about1.alone = true := by decide +kernel
set_option maxRecDepth 65536 in
theorem w_named : about1.methodNamed? x = some theMethod := by decide +kernel
set_option maxRecDepth 65536 in
theorem w_hears : about1.hears theMethod below0 = true := by decide +kernel
set_option maxRecDepth 65536 in
theorem w_ripe : about1.ripe theMethod args0 below0 = true := by decide +kernel
theorem w_running : about1.status = .running := rfl
set_option maxRecDepth 65536 in
theorem w_room : about1.hasRoom e0.platform room_1 = true :=
  launch0.hasRoom_least _ room_1 (by decide +kernel) (by decide +kernel) (by decide +kernel) (by decide +kernel) (by decide +kernel) (by decide +kernel)
theorem allAtoms_all (ts : List Jvm.Cond) (a : Array Jvm.Value) (st : Jvm.State) : (allAtoms ts).before a st = ts.all (fun c => c.before a st) := by
  induction ts with
  | nil => rfl
  | cons c t ih =>
    show (Jvm.Cond.and c (allAtoms t)).before a st = _
    rw [Jvm.Cond.before_and, ih, List.all_cons]
def words1 : List Jvm.Cond := Jvm.Cond.code x code maxLocals ret :: tables_1
/-- a 'code' word, met by the world's own term for the bytes: nothing is compared byte by byte -/
theorem code_word {y : MethodName} {bytes : ByteArray} {mx : Nat} {rt : Option FieldType} {a : Array Value} {s : State} {m : MethodId} {meth : Method} {c : Code} (h1 : s.methodNamed? y = some m) (h2 : s.vm.method? m = some meth) (h3 : meth.code = some c) (h4 : c.code = bytes)
    (h5 : (c.maxLocals == mx && c.exceptionTable.isEmpty && decide (c.maxStack ≤ mostOperands) && decide (meth.sig.returnType = rt) && !meth.locks && decide (parseMethodDescriptor y.desc = some meth.sig)) = true) : (Jvm.Cond.code y bytes mx rt).before a s = true := by
  simp only [Bool.and_eq_true, beq_iff_eq, Bool.not_eq_true', decide_eq_true_eq] at h5
  obtain ⟨⟨⟨⟨⟨g1, g2⟩, g3⟩, g4⟩, g5⟩, g6⟩ := h5
  simp [Cond.before, Cond.holds, Cond.value, h1, h2, h3, h4, g1, g2, g3, g4, g5, g6]
def isCode : Jvm.Cond → Bool
  | .code _ _ _ _ => true
  | _ => false
theorem all_split {L : List Jvm.Cond} {P : Jvm.Cond → Bool} (h1 : L.all (fun c => isCode c || P c) = true) (h2 : ∀ c ∈ L.filter isCode, P c = true) : L.all P = true := by
  refine List.all_eq_true.mpr fun c hc => ?_
  have h := List.all_eq_true.mp h1 c hc
  rcases Bool.eq_false_or_eq_true (isCode c) with hi | hi
  · exact h2 c (List.mem_filter.mpr ⟨hc, hi⟩)
  · simpa [hi] using h
set_option maxRecDepth 65536 in
theorem w_c0 : (Jvm.Cond.code x code maxLocals ret).before args0 about1 = true := code_word (m := ⟨1, 1⟩) (meth := k1m1) (c := k1c1) (by decide +kernel) rfl rfl rfl (by decide +kernel)
set_option maxRecDepth 65536 in
theorem w_c1 : (Jvm.Cond.code ({ cls := "com/example/treewarden/treewarden/session/CredentialParsePinLaw", name := "pick", desc := "(CII)C" } : Jvm.MethodName) method_3_code (3 : Nat) (Option.some Jvm.ClassFile.FieldType.char)).before args0 about1 = true := code_word (m := ⟨1, 2⟩) (meth := k1m2) (c := k1c2) (by decide +kernel) rfl rfl rfl (by decide +kernel)
set_option maxRecDepth 65536 in
theorem w_c2 : (Jvm.Cond.code ({ cls := "com/example/treewarden/treewarden/session/CredentialParsePinLaw", name := "put", desc := "([BI[CII)I" } : Jvm.MethodName) method_4_code (6 : Nat) (Option.some Jvm.ClassFile.FieldType.int)).before args0 about1 = true := code_word (m := ⟨1, 3⟩) (meth := k1m3) (c := k1c3) (by decide +kernel) rfl rfl rfl (by decide +kernel)
set_option maxRecDepth 65536 in
theorem w_c3 : (Jvm.Cond.code ({ cls := "java/lang/String", name := "<init>", desc := "([C)V" } : Jvm.MethodName) jdk_42_method_3_code (2 : Nat) (Option.none : Option Jvm.ClassFile.FieldType)).before args0 about1 = true := code_word (m := ⟨7, 1⟩) (meth := k7m1) (c := k7c1) (by decide +kernel) rfl rfl rfl (by decide +kernel)
set_option maxRecDepth 65536 in
theorem w_c4 : (Jvm.Cond.code ({ cls := "java/lang/String", name := "<init>", desc := "([CIILjava/lang/Void;)V" } : Jvm.MethodName) jdk_42_method_149_code (6 : Nat) (Option.none : Option Jvm.ClassFile.FieldType)).before args0 about1 = true := code_word (m := ⟨7, 12⟩) (meth := k7m12) (c := k7c12) (by decide +kernel) rfl rfl rfl (by decide +kernel)
set_option maxRecDepth 65536 in
theorem w_c5 : (Jvm.Cond.code ({ cls := "java/lang/Object", name := "<init>", desc := "()V" } : Jvm.MethodName) object_method_1_code (1 : Nat) (Option.none : Option Jvm.ClassFile.FieldType)).before args0 about1 = true := code_word (m := ⟨0, 0⟩) (meth := k0m0) (c := k0c0) (by decide +kernel) rfl rfl rfl (by decide +kernel)
set_option maxRecDepth 65536 in
theorem w_c6 : (Jvm.Cond.code ({ cls := "java/lang/StringUTF16", name := "compress", desc := "([CII)[B" } : Jvm.MethodName) jdk_52_method_16_code (6 : Nat) (Option.some (Jvm.ClassFile.FieldType.array Jvm.ClassFile.FieldType.byte))).before args0 about1 = true := code_word (m := ⟨8, 8⟩) (meth := k8m8) (c := k8c8) (by decide +kernel) rfl rfl rfl (by decide +kernel)
set_option maxRecDepth 65536 in
theorem w_c7 : (Jvm.Cond.code ({ cls := "java/lang/StringUTF16", name := "compress", desc := "([CI[BII)I" } : Jvm.MethodName) jdk_52_method_21_code (7 : Nat) (Option.some Jvm.ClassFile.FieldType.int)).before args0 about1 = true := code_word (m := ⟨8, 10⟩) (meth := k8m10) (c := k8c10) (by decide +kernel) rfl rfl rfl (by decide +kernel)
set_option maxRecDepth 65536 in
theorem w_c8 : (Jvm.Cond.code ({ cls := "java/lang/StringUTF16", name := "coderFromArrayLen", desc := "([BI)B" } : Jvm.MethodName) jdk_52_method_15_code (2 : Nat) (Option.some Jvm.ClassFile.FieldType.byte)).before args0 about1 = true := code_word (m := ⟨8, 7⟩) (meth := k8m7) (c := k8c7) (by decide +kernel) rfl rfl rfl (by decide +kernel)
set_option maxRecDepth 65536 in
theorem w_c9 : (Jvm.Cond.code ({ cls := "com/example/treewarden/treewarden/session/Credential", name := "parse", desc := "(Ljava/lang/String;)Lcom/example/treewarden/treewarden/session/Credential;" } : Jvm.MethodName) prog_9_method_2_code (3 : Nat) (Option.some (Jvm.ClassFile.FieldType.object "com/example/treewarden/treewarden/session/Credential"))).before args0 about1 = true := code_word (m := ⟨9, 1⟩) (meth := k9m1) (c := k9c1) (by decide +kernel) rfl rfl rfl (by decide +kernel)
set_option maxRecDepth 65536 in
theorem w_c10 : (Jvm.Cond.code ({ cls := "java/lang/String", name := "indexOf", desc := "(I)I" } : Jvm.MethodName) jdk_42_method_79_code (2 : Nat) (Option.some Jvm.ClassFile.FieldType.int)).before args0 about1 = true := code_word (m := ⟨7, 8⟩) (meth := k7m8) (c := k7c8) (by decide +kernel) rfl rfl rfl (by decide +kernel)
set_option maxRecDepth 65536 in
theorem w_c11 : (Jvm.Cond.code ({ cls := "java/lang/String", name := "indexOf", desc := "(II)I" } : Jvm.MethodName) jdk_42_method_80_code (3 : Nat) (Option.some Jvm.ClassFile.FieldType.int)).before args0 about1 = true := code_word (m := ⟨7, 9⟩) (meth := k7m9) (c := k7c9) (by decide +kernel) rfl rfl rfl (by decide +kernel)
set_option maxRecDepth 65536 in
theorem w_c12 : (Jvm.Cond.code ({ cls := "java/lang/String", name := "isLatin1", desc := "()Z" } : Jvm.MethodName) jdk_42_method_154_code (1 : Nat) (Option.some Jvm.ClassFile.FieldType.boolean)).before args0 about1 = true := code_word (m := ⟨7, 15⟩) (meth := k7m15) (c := k7c15) (by decide +kernel) rfl rfl rfl (by decide +kernel)
set_option maxRecDepth 65536 in
theorem w_c13 : (Jvm.Cond.code ({ cls := "java/lang/String", name := "length", desc := "()I" } : Jvm.MethodName) jdk_42_method_54_code (1 : Nat) (Option.some Jvm.ClassFile.FieldType.int)).before args0 about1 = true := code_word (m := ⟨7, 5⟩) (meth := k7m5) (c := k7c5) (by decide +kernel) rfl rfl rfl (by decide +kernel)
set_option maxRecDepth 65536 in
theorem w_c14 : (Jvm.Cond.code ({ cls := "java/lang/String", name := "coder", desc := "()B" } : Jvm.MethodName) jdk_42_method_152_code (1 : Nat) (Option.some Jvm.ClassFile.FieldType.byte)).before args0 about1 = true := code_word (m := ⟨7, 14⟩) (meth := k7m14) (c := k7c14) (by decide +kernel) rfl rfl rfl (by decide +kernel)
set_option maxRecDepth 65536 in
theorem w_c15 : (Jvm.Cond.code ({ cls := "java/lang/StringLatin1", name := "indexOf", desc := "([BIII)I" } : Jvm.MethodName) jdk_43_method_22_code (4 : Nat) (Option.some Jvm.ClassFile.FieldType.int)).before args0 about1 = true := code_word (m := ⟨10, 3⟩) (meth := k10m3) (c := k10c3) (by decide +kernel) rfl rfl rfl (by decide +kernel)
set_option maxRecDepth 65536 in
theorem w_c16 : (Jvm.Cond.code ({ cls := "java/lang/StringLatin1", name := "canEncode", desc := "(I)Z" } : Jvm.MethodName) jdk_43_method_4_code (1 : Nat) (Option.some Jvm.ClassFile.FieldType.boolean)).before args0 about1 = true := code_word (m := ⟨10, 2⟩) (meth := k10m2) (c := k10c2) (by decide +kernel) rfl rfl rfl (by decide +kernel)
set_option maxRecDepth 65536 in
theorem w_c17 : (Jvm.Cond.code ({ cls := "java/lang/Math", name := "max", desc := "(II)I" } : Jvm.MethodName) jdk_29_method_65_code (2 : Nat) (Option.some Jvm.ClassFile.FieldType.int)).before args0 about1 = true := code_word (m := ⟨11, 1⟩) (meth := k11m1) (c := k11c1) (by decide +kernel) rfl rfl rfl (by decide +kernel)
set_option maxRecDepth 65536 in
theorem w_c18 : (Jvm.Cond.code ({ cls := "java/lang/Math", name := "min", desc := "(II)I" } : Jvm.MethodName) jdk_29_method_69_code (2 : Nat) (Option.some Jvm.ClassFile.FieldType.int)).before args0 about1 = true := code_word (m := ⟨11, 2⟩) (meth := k11m2) (c := k11c2) (by decide +kernel) rfl rfl rfl (by decide +kernel)
set_option maxRecDepth 65536 in
theorem w_c19 : (Jvm.Cond.code ({ cls := "java/lang/StringLatin1", name := "indexOfChar", desc := "([BIII)I" } : Jvm.MethodName) jdk_43_method_23_code (6 : Nat) (Option.some Jvm.ClassFile.FieldType.int)).before args0 about1 = true := code_word (m := ⟨10, 4⟩) (meth := k10m4) (c := k10c4) (by decide +kernel) rfl rfl rfl (by decide +kernel)
set_option maxRecDepth 65536 in
theorem w_c20 : (Jvm.Cond.code ({ cls := "java/lang/String", name := "substring", desc := "(I)Ljava/lang/String;" } : Jvm.MethodName) jdk_42_method_91_code (2 : Nat) (Option.some (Jvm.ClassFile.FieldType.object "java/lang/String"))).before args0 about1 = true := code_word (m := ⟨7, 10⟩) (meth := k7m10) (c := k7c10) (by decide +kernel) rfl rfl rfl (by decide +kernel)
set_option maxRecDepth 65536 in
theorem w_c21 : (Jvm.Cond.code ({ cls := "java/lang/String", name := "substring", desc := "(II)Ljava/lang/String;" } : Jvm.MethodName) jdk_42_method_92_code (5 : Nat) (Option.some (Jvm.ClassFile.FieldType.object "java/lang/String"))).before args0 about1 = true := code_word (m := ⟨7, 11⟩) (meth := k7m11) (c := k7c11) (by decide +kernel) rfl rfl rfl (by decide +kernel)
set_option maxRecDepth 65536 in
theorem w_c22 : (Jvm.Cond.code ({ cls := "java/lang/String", name := "checkBoundsBeginEnd", desc := "(III)V" } : Jvm.MethodName) jdk_42_method_158_code (3 : Nat) (Option.none : Option Jvm.ClassFile.FieldType)).before args0 about1 = true := code_word (m := ⟨7, 18⟩) (meth := k7m18) (c := k7c18) (by decide +kernel) rfl rfl rfl (by decide +kernel)
set_option maxRecDepth 65536 in
theorem w_c23 : (Jvm.Cond.code ({ cls := "jdk/internal/util/Preconditions", name := "checkFromToIndex", desc := "(IIILjava/util/function/BiFunction;)I" } : Jvm.MethodName) jdk_41_method_12_code (4 : Nat) (Option.some Jvm.ClassFile.FieldType.int)).before args0 about1 = true := code_word (m := ⟨12, 2⟩) (meth := k12m2) (c := k12c2) (by decide +kernel) rfl rfl rfl (by decide +kernel)
set_option maxRecDepth 65536 in
theorem w_c24 : (Jvm.Cond.code ({ cls := "java/lang/StringLatin1", name := "newString", desc := "([BII)Ljava/lang/String;" } : Jvm.MethodName) jdk_43_method_47_code (3 : Nat) (Option.some (Jvm.ClassFile.FieldType.object "java/lang/String"))).before args0 about1 = true := code_word (m := ⟨10, 5⟩) (meth := k10m5) (c := k10c5) (by decide +kernel) rfl rfl rfl (by decide +kernel)
set_option maxRecDepth 65536 in
theorem w_c25 : (Jvm.Cond.code ({ cls := "java/util/Arrays", name := "copyOfRange", desc := "([BII)[B" } : Jvm.MethodName) jdk_65_method_132_code (3 : Nat) (Option.some (Jvm.ClassFile.FieldType.array Jvm.ClassFile.FieldType.byte))).before args0 about1 = true := code_word (m := ⟨13, 3⟩) (meth := k13m3) (c := k13c3) (by decide +kernel) rfl rfl rfl (by decide +kernel)
set_option maxRecDepth 65536 in
theorem w_c26 : (Jvm.Cond.code ({ cls := "java/util/Arrays", name := "copyOfRangeByte", desc := "([BII)[B" } : Jvm.MethodName) jdk_65_method_133_code (5 : Nat) (Option.some (Jvm.ClassFile.FieldType.array Jvm.ClassFile.FieldType.byte))).before args0 about1 = true := code_word (m := ⟨13, 4⟩) (meth := k13m4) (c := k13c4) (by decide +kernel) rfl rfl rfl (by decide +kernel)
set_option maxRecDepth 65536 in
theorem w_c27 : (Jvm.Cond.code ({ cls := "java/util/Arrays", name := "checkLength", desc := "(II)V" } : Jvm.MethodName) jdk_65_method_131_code (2 : Nat) (Option.none : Option Jvm.ClassFile.FieldType)).before args0 about1 = true := code_word (m := ⟨13, 2⟩) (meth := k13m2) (c := k13c2) (by decide +kernel) rfl rfl rfl (by decide +kernel)
set_option maxRecDepth 65536 in
theorem w_c28 : (Jvm.Cond.code ({ cls := "java/lang/String", name := "<init>", desc := "([BB)V" } : Jvm.MethodName) jdk_42_method_151_code (3 : Nat) (Option.none : Option Jvm.ClassFile.FieldType)).before args0 about1 = true := code_word (m := ⟨7, 13⟩) (meth := k7m13) (c := k7c13) (by decide +kernel) rfl rfl rfl (by decide +kernel)
set_option maxRecDepth 65536 in
theorem w_c29 : (Jvm.Cond.code ({ cls := "java/lang/String", name := "getBytes", desc := "(Ljava/nio/charset/Charset;)[B" } : Jvm.MethodName) jdk_42_method_64_code (2 : Nat) (Option.some (Jvm.ClassFile.FieldType.array Jvm.ClassFile.FieldType.byte))).before args0 about1 = true := code_word (m := ⟨7, 7⟩) (meth := k7m7) (c := k7c7) (by decide +kernel) rfl rfl rfl (by decide +kernel)
set_option maxRecDepth 65536 in
theorem w_c30 : (Jvm.Cond.code ({ cls := "java/lang/String", name := "encode", desc := "(Ljava/nio/charset/Charset;B[B)[B" } : Jvm.MethodName) jdk_42_method_18_code (3 : Nat) (Option.some (Jvm.ClassFile.FieldType.array Jvm.ClassFile.FieldType.byte))).before args0 about1 = true := code_word (m := ⟨7, 2⟩) (meth := k7m2) (c := k7c2) (by decide +kernel) rfl rfl rfl (by decide +kernel)
set_option maxRecDepth 65536 in
theorem w_c31 : (Jvm.Cond.code ({ cls := "java/lang/String", name := "encodeUTF8", desc := "(B[BZ)[B" } : Jvm.MethodName) jdk_42_method_46_code (9 : Nat) (Option.some (Jvm.ClassFile.FieldType.array Jvm.ClassFile.FieldType.byte))).before args0 about1 = true := code_word (m := ⟨7, 3⟩) (meth := k7m3) (c := k7c3) (by decide +kernel) rfl rfl rfl (by decide +kernel)
set_option maxRecDepth 65536 in
theorem w_c32 : (Jvm.Cond.code ({ cls := "java/lang/StringCoding", name := "hasNegatives", desc := "([BII)Z" } : Jvm.MethodName) jdk_123_method_2_code (3 : Nat) (Option.some Jvm.ClassFile.FieldType.boolean)).before args0 about1 = true := code_word (m := ⟨20, 1⟩) (meth := k20m1) (c := k20c1) (by decide +kernel) rfl rfl rfl (by decide +kernel)
set_option maxRecDepth 65536 in
theorem w_c33 : (Jvm.Cond.code ({ cls := "java/lang/StringCoding", name := "countPositives", desc := "([BII)I" } : Jvm.MethodName) jdk_123_method_3_code (5 : Nat) (Option.some Jvm.ClassFile.FieldType.int)).before args0 about1 = true := code_word (m := ⟨20, 2⟩) (meth := k20m2) (c := k20c2) (by decide +kernel) rfl rfl rfl (by decide +kernel)
set_option maxRecDepth 65536 in
theorem w_c34 : (Jvm.Cond.code ({ cls := "com/example/treewarden/treewarden/session/Credential", name := "<init>", desc := "(Ljava/lang/String;[B)V" } : Jvm.MethodName) prog_9_method_1_code (3 : Nat) (Option.none : Option Jvm.ClassFile.FieldType)).before args0 about1 = true := code_word (m := ⟨9, 0⟩) (meth := k9m0) (c := k9c0) (by decide +kernel) rfl rfl rfl (by decide +kernel)
set_option maxRecDepth 65536 in
theorem w_c35 : (Jvm.Cond.code ({ cls := "com/example/treewarden/treewarden/session/Credential", name := "scheme", desc := "()Ljava/lang/String;" } : Jvm.MethodName) prog_9_method_3_code (1 : Nat) (Option.some (Jvm.ClassFile.FieldType.object "java/lang/String"))).before args0 about1 = true := code_word (m := ⟨9, 2⟩) (meth := k9m2) (c := k9c2) (by decide +kernel) rfl rfl rfl (by decide +kernel)
set_option maxRecDepth 65536 in
theorem w_c36 : (Jvm.Cond.code ({ cls := "java/lang/String", name := "charAt", desc := "(I)C" } : Jvm.MethodName) jdk_42_method_56_code (2 : Nat) (Option.some Jvm.ClassFile.FieldType.char)).before args0 about1 = true := code_word (m := ⟨7, 6⟩) (meth := k7m6) (c := k7c6) (by decide +kernel) rfl rfl rfl (by decide +kernel)
set_option maxRecDepth 65536 in
theorem w_c37 : (Jvm.Cond.code ({ cls := "java/lang/StringLatin1", name := "charAt", desc := "([BI)C" } : Jvm.MethodName) jdk_43_method_2_code (2 : Nat) (Option.some Jvm.ClassFile.FieldType.char)).before args0 about1 = true := code_word (m := ⟨10, 1⟩) (meth := k10m1) (c := k10c1) (by decide +kernel) rfl rfl rfl (by decide +kernel)
set_option maxRecDepth 65536 in
theorem w_c38 : (Jvm.Cond.code ({ cls := "java/lang/String", name := "checkIndex", desc := "(II)V" } : Jvm.MethodName) jdk_42_method_155_code (2 : Nat) (Option.none : Option Jvm.ClassFile.FieldType)).before args0 about1 = true := code_word (m := ⟨7, 16⟩) (meth := k7m16) (c := k7c16) (by decide +kernel) rfl rfl rfl (by decide +kernel)
set_option maxRecDepth 65536 in
theorem w_c39 : (Jvm.Cond.code ({ cls := "jdk/internal/util/Preconditions", name := "checkIndex", desc := "(IILjava/util/function/BiFunction;)I" } : Jvm.MethodName) jdk_41_method_11_code (3 : Nat) (Option.some Jvm.ClassFile.FieldType.int)).before args0 about1 = true := code_word (m := ⟨12, 1⟩) (meth := k12m1) (c := k12c1) (by decide +kernel) rfl rfl rfl (by decide +kernel)
set_option maxRecDepth 65536 in
theorem w_c40 : (Jvm.Cond.code ({ cls := "com/example/treewarden/treewarden/session/Credential", name := "secret", desc := "()[B" } : Jvm.MethodName) prog_9_method_4_code (1 : Nat) (Option.some (Jvm.ClassFile.FieldType.array Jvm.ClassFile.FieldType.byte))).before args0 about1 = true := code_word (m := ⟨9, 3⟩) (meth := k9m3) (c := k9c3) (by decide +kernel) rfl rfl rfl (by decide +kernel)
set_option maxRecDepth 65536 in
theorem w_c41 : (Jvm.Cond.code ({ cls := "java/util/Arrays", name := "copyOf", desc := "([BI)[B" } : Jvm.MethodName) jdk_65_method_121_code (3 : Nat) (Option.some (Jvm.ClassFile.FieldType.array Jvm.ClassFile.FieldType.byte))).before args0 about1 = true := code_word (m := ⟨13, 1⟩) (meth := k13m1) (c := k13c1) (by decide +kernel) rfl rfl rfl (by decide +kernel)
set_option maxRecDepth 65536 in
theorem w_c42 : (Jvm.Cond.code ({ cls := "com/example/treewarden/treewarden/session/CredentialParsePinLaw", name := "eqAt", desc := "([B[BII)Z" } : Jvm.MethodName) method_5_code (4 : Nat) (Option.some Jvm.ClassFile.FieldType.boolean)).before args0 about1 = true := code_word (m := ⟨1, 4⟩) (meth := k1m4) (c := k1c4) (by decide +kernel) rfl rfl rfl (by decide +kernel)
set_option maxRecDepth 65536 in
theorem w_c43 : (Jvm.Cond.code ({ cls := "java/lang/StringUTF16", name := "toBytes", desc := "([CII)[B" } : Jvm.MethodName) jdk_52_method_14_code (5 : Nat) (Option.some (Jvm.ClassFile.FieldType.array Jvm.ClassFile.FieldType.byte))).before args0 about1 = true := code_word (m := ⟨8, 6⟩) (meth := k8m6) (c := k8c6) (by decide +kernel) rfl rfl rfl (by decide +kernel)
set_option maxRecDepth 65536 in
theorem w_c44 : (Jvm.Cond.code ({ cls := "java/lang/StringUTF16", name := "newBytesFor", desc := "(I)[B" } : Jvm.MethodName) jdk_52_method_2_code (1 : Nat) (Option.some (Jvm.ClassFile.FieldType.array Jvm.ClassFile.FieldType.byte))).before args0 about1 = true := code_word (m := ⟨8, 1⟩) (meth := k8m1) (c := k8c1) (by decide +kernel) rfl rfl rfl (by decide +kernel)
set_option maxRecDepth 65536 in
theorem w_c45 : (Jvm.Cond.code ({ cls := "java/lang/StringUTF16", name := "newBytesLength", desc := "(I)I" } : Jvm.MethodName) jdk_52_method_3_code (1 : Nat) (Option.some Jvm.ClassFile.FieldType.int)).before args0 about1 = true := code_word (m := ⟨8, 2⟩) (meth := k8m2) (c := k8c2) (by decide +kernel) rfl rfl rfl (by decide +kernel)
set_option maxRecDepth 65536 in
theorem w_c46 : (Jvm.Cond.code ({ cls := "java/lang/StringUTF16", name := "putChar", desc := "([BII)V" } : Jvm.MethodName) jdk_52_method_4_code (3 : Nat) (Option.none : Option Jvm.ClassFile.FieldType)).before args0 about1 = true := code_word (m := ⟨8, 3⟩) (meth := k8m3) (c := k8c3) (by decide +kernel) rfl rfl rfl (by decide +kernel)
set_option maxRecDepth 65536 in
theorem w_c47 : (Jvm.Cond.code ({ cls := "java/lang/StringUTF16", name := "getChar", desc := "([BI)C" } : Jvm.MethodName) jdk_52_method_5_code (2 : Nat) (Option.some Jvm.ClassFile.FieldType.char)).before args0 about1 = true := code_word (m := ⟨8, 4⟩) (meth := k8m4) (c := k8c4) (by decide +kernel) rfl rfl rfl (by decide +kernel)
set_option maxRecDepth 65536 in
theorem w_c48 : (Jvm.Cond.code ({ cls := "java/lang/StringUTF16", name := "indexOf", desc := "([BIII)I" } : Jvm.MethodName) jdk_52_method_40_code (4 : Nat) (Option.some Jvm.ClassFile.FieldType.int)).before args0 about1 = true := code_word (m := ⟨8, 12⟩) (meth := k8m12) (c := k8c12) (by decide +kernel) rfl rfl rfl (by decide +kernel)
set_option maxRecDepth 65536 in
theorem w_c49 : (Jvm.Cond.code ({ cls := "java/lang/StringUTF16", name := "indexOfChar", desc := "([BIII)I" } : Jvm.MethodName) jdk_52_method_47_code (4 : Nat) (Option.some Jvm.ClassFile.FieldType.int)).before args0 about1 = true := code_word (m := ⟨8, 13⟩) (meth := k8m13) (c := k8c13) (by decide +kernel) rfl rfl rfl (by decide +kernel)
set_option maxRecDepth 65536 in
theorem w_c50 : (Jvm.Cond.code ({ cls := "java/lang/StringUTF16", name := "checkBoundsBeginEnd", desc := "(II[B)V" } : Jvm.MethodName) jdk_52_method_93_code (3 : Nat) (Option.none : Option Jvm.ClassFile.FieldType)).before args0 about1 = true := code_word (m := ⟨8, 18⟩) (meth := k8m18) (c := k8c18) (by decide +kernel) rfl rfl rfl (by decide +kernel)
set_option maxRecDepth 65536 in
theorem w_c51 : (Jvm.Cond.code ({ cls := "java/lang/StringUTF16", name := "length", desc := "([B)I" } : Jvm.MethodName) jdk_52_method_6_code (1 : Nat) (Option.some Jvm.ClassFile.FieldType.int)).before args0 about1 = true := code_word (m := ⟨8, 5⟩) (meth := k8m5) (c := k8c5) (by decide +kernel) rfl rfl rfl (by decide +kernel)
set_option maxRecDepth 65536 in
theorem w_c52 : (Jvm.Cond.code ({ cls := "java/lang/StringUTF16", name := "indexOfCharUnsafe", desc := "([BIII)I" } : Jvm.MethodName) jdk_52_method_48_code (5 : Nat) (Option.some Jvm.ClassFile.FieldType.int)).before args0 about1 = true := code_word (m := ⟨8, 14⟩) (meth := k8m14) (c := k8c14) (by decide +kernel) rfl rfl rfl (by decide +kernel)
set_option maxRecDepth 65536 in
theorem w_c53 : (Jvm.Cond.code ({ cls := "java/lang/StringUTF16", name := "newString", desc := "([BII)Ljava/lang/String;" } : Jvm.MethodName) jdk_52_method_69_code (5 : Nat) (Option.some (Jvm.ClassFile.FieldType.object "java/lang/String"))).before args0 about1 = true := code_word (m := ⟨8, 15⟩) (meth := k8m15) (c := k8c15) (by decide +kernel) rfl rfl rfl (by decide +kernel)
set_option maxRecDepth 65536 in
theorem w_c54 : (Jvm.Cond.code ({ cls := "java/lang/StringUTF16", name := "compress", desc := "([BII)[B" } : Jvm.MethodName) jdk_52_method_17_code (6 : Nat) (Option.some (Jvm.ClassFile.FieldType.array Jvm.ClassFile.FieldType.byte))).before args0 about1 = true := code_word (m := ⟨8, 9⟩) (meth := k8m9) (c := k8c9) (by decide +kernel) rfl rfl rfl (by decide +kernel)
set_option maxRecDepth 65536 in
theorem w_c55 : (Jvm.Cond.code ({ cls := "java/lang/StringUTF16", name := "compress", desc := "([BI[BII)I" } : Jvm.MethodName) jdk_52_method_22_code (7 : Nat) (Option.some Jvm.ClassFile.FieldType.int)).before args0 about1 = true := code_word (m := ⟨8, 11⟩) (meth := k8m11) (c := k8c11) (by decide +kernel) rfl rfl rfl (by decide +kernel)
set_option maxRecDepth 65536 in
theorem w_c56 : (Jvm.Cond.code ({ cls := "java/lang/StringUTF16", name := "checkBoundsOffCount", desc := "(II[B)V" } : Jvm.MethodName) jdk_52_method_94_code (3 : Nat) (Option.none : Option Jvm.ClassFile.FieldType)).before args0 about1 = true := code_word (m := ⟨8, 19⟩) (meth := k8m19) (c := k8c19) (by decide +kernel) rfl rfl rfl (by decide +kernel)
set_option maxRecDepth 65536 in
theorem w_c57 : (Jvm.Cond.code ({ cls := "java/lang/String", name := "checkBoundsOffCount", desc := "(III)I" } : Jvm.MethodName) jdk_42_method_157_code (3 : Nat) (Option.some Jvm.ClassFile.FieldType.int)).before args0 about1 = true := code_word (m := ⟨7, 17⟩) (meth := k7m17) (c := k7c17) (by decide +kernel) rfl rfl rfl (by decide +kernel)
set_option maxRecDepth 65536 in
theorem w_c58 : (Jvm.Cond.code ({ cls := "jdk/internal/util/Preconditions", name := "checkFromIndexSize", desc := "(IIILjava/util/function/BiFunction;)I" } : Jvm.MethodName) jdk_41_method_13_code (4 : Nat) (Option.some Jvm.ClassFile.FieldType.int)).before args0 about1 = true := code_word (m := ⟨12, 3⟩) (meth := k12m3) (c := k12c3) (by decide +kernel) rfl rfl rfl (by decide +kernel)
set_option maxRecDepth 65536 in
theorem w_c59 : (Jvm.Cond.code ({ cls := "java/lang/String", name := "encodeUTF8_UTF16", desc := "([BZ)[B" } : Jvm.MethodName) jdk_42_method_47_code (9 : Nat) (Option.some (Jvm.ClassFile.FieldType.array Jvm.ClassFile.FieldType.byte))).before args0 about1 = true := code_word (m := ⟨7, 4⟩) (meth := k7m4) (c := k7c4) (by decide +kernel) rfl rfl rfl (by decide +kernel)
set_option maxRecDepth 65536 in
theorem w_c60 : (Jvm.Cond.code ({ cls := "java/lang/Character", name := "isSurrogate", desc := "(C)Z" } : Jvm.MethodName) jdk_89_method_16_code (1 : Nat) (Option.some Jvm.ClassFile.FieldType.boolean)).before args0 about1 = true := code_word (m := ⟨22, 0⟩) (meth := k22m0) (c := k22c0) (by decide +kernel) rfl rfl rfl (by decide +kernel)
set_option maxRecDepth 65536 in
theorem w_c61 : (Jvm.Cond.code ({ cls := "java/lang/StringUTF16", name := "charAt", desc := "([BI)C" } : Jvm.MethodName) jdk_52_method_83_code (2 : Nat) (Option.some Jvm.ClassFile.FieldType.char)).before args0 about1 = true := code_word (m := ⟨8, 16⟩) (meth := k8m16) (c := k8c16) (by decide +kernel) rfl rfl rfl (by decide +kernel)
set_option maxRecDepth 65536 in
theorem w_c62 : (Jvm.Cond.code ({ cls := "java/lang/StringUTF16", name := "checkIndex", desc := "(I[B)V" } : Jvm.MethodName) jdk_52_method_91_code (2 : Nat) (Option.none : Option Jvm.ClassFile.FieldType)).before args0 about1 = true := code_word (m := ⟨8, 17⟩) (meth := k8m17) (c := k8c17) (by decide +kernel) rfl rfl rfl (by decide +kernel)
def codes1 : List Jvm.Cond := [Jvm.Cond.code x code maxLocals ret, Jvm.Cond.code ({ cls := "com/example/treewarden/treewarden/session/CredentialParsePinLaw", name := "pick", desc := "(CII)C" } : Jvm.MethodName) method_3_code (3 : Nat) (Option.some Jvm.ClassFile.FieldType.char), Jvm.Cond.code ({ cls := "com/example/treewarden/treewarden/session/CredentialParsePinLaw", name := "put", desc := "([BI[CII)I" } : Jvm.MethodName) method_4_code (6 : Nat) (Option.some Jvm.ClassFile.FieldType.int), Jvm.Cond.code ({ cls := "java/lang/String", name := "<init>", desc := "([C)V" } : Jvm.MethodName) jdk_42_method_3_code (2 : Nat) (Option.none : Option Jvm.ClassFile.FieldType), Jvm.Cond.code ({ cls := "java/lang/String", name := "<init>", desc := "([CIILjava/lang/Void;)V" } : Jvm.MethodName) jdk_42_method_149_code (6 : Nat) (Option.none : Option Jvm.ClassFile.FieldType), Jvm.Cond.code ({ cls := "java/lang/Object", name := "<init>", desc := "()V" } : Jvm.MethodName) object_method_1_code (1 : Nat) (Option.none : Option Jvm.ClassFile.FieldType), Jvm.Cond.code ({ cls := "java/lang/StringUTF16", name := "compress", desc := "([CII)[B" } : Jvm.MethodName) jdk_52_method_16_code (6 : Nat) (Option.some (Jvm.ClassFile.FieldType.array Jvm.ClassFile.FieldType.byte)), Jvm.Cond.code ({ cls := "java/lang/StringUTF16", name := "compress", desc := "([CI[BII)I" } : Jvm.MethodName) jdk_52_method_21_code (7 : Nat) (Option.some Jvm.ClassFile.FieldType.int), Jvm.Cond.code ({ cls := "java/lang/StringUTF16", name := "coderFromArrayLen", desc := "([BI)B" } : Jvm.MethodName) jdk_52_method_15_code (2 : Nat) (Option.some Jvm.ClassFile.FieldType.byte), Jvm.Cond.code ({ cls := "com/example/treewarden/treewarden/session/Credential", name := "parse", desc := "(Ljava/lang/String;)Lcom/example/treewarden/treewarden/session/Credential;" } : Jvm.MethodName) prog_9_method_2_code (3 : Nat) (Option.some (Jvm.ClassFile.FieldType.object "com/example/treewarden/treewarden/session/Credential")), Jvm.Cond.code ({ cls := "java/lang/String", name := "indexOf", desc := "(I)I" } : Jvm.MethodName) jdk_42_method_79_code (2 : Nat) (Option.some Jvm.ClassFile.FieldType.int), Jvm.Cond.code ({ cls := "java/lang/String", name := "indexOf", desc := "(II)I" } : Jvm.MethodName) jdk_42_method_80_code (3 : Nat) (Option.some Jvm.ClassFile.FieldType.int), Jvm.Cond.code ({ cls := "java/lang/String", name := "isLatin1", desc := "()Z" } : Jvm.MethodName) jdk_42_method_154_code (1 : Nat) (Option.some Jvm.ClassFile.FieldType.boolean), Jvm.Cond.code ({ cls := "java/lang/String", name := "length", desc := "()I" } : Jvm.MethodName) jdk_42_method_54_code (1 : Nat) (Option.some Jvm.ClassFile.FieldType.int), Jvm.Cond.code ({ cls := "java/lang/String", name := "coder", desc := "()B" } : Jvm.MethodName) jdk_42_method_152_code (1 : Nat) (Option.some Jvm.ClassFile.FieldType.byte), Jvm.Cond.code ({ cls := "java/lang/StringLatin1", name := "indexOf", desc := "([BIII)I" } : Jvm.MethodName) jdk_43_method_22_code (4 : Nat) (Option.some Jvm.ClassFile.FieldType.int), Jvm.Cond.code ({ cls := "java/lang/StringLatin1", name := "canEncode", desc := "(I)Z" } : Jvm.MethodName) jdk_43_method_4_code (1 : Nat) (Option.some Jvm.ClassFile.FieldType.boolean), Jvm.Cond.code ({ cls := "java/lang/Math", name := "max", desc := "(II)I" } : Jvm.MethodName) jdk_29_method_65_code (2 : Nat) (Option.some Jvm.ClassFile.FieldType.int), Jvm.Cond.code ({ cls := "java/lang/Math", name := "min", desc := "(II)I" } : Jvm.MethodName) jdk_29_method_69_code (2 : Nat) (Option.some Jvm.ClassFile.FieldType.int), Jvm.Cond.code ({ cls := "java/lang/StringLatin1", name := "indexOfChar", desc := "([BIII)I" } : Jvm.MethodName) jdk_43_method_23_code (6 : Nat) (Option.some Jvm.ClassFile.FieldType.int), Jvm.Cond.code ({ cls := "java/lang/String", name := "substring", desc := "(I)Ljava/lang/String;" } : Jvm.MethodName) jdk_42_method_91_code (2 : Nat) (Option.some (Jvm.ClassFile.FieldType.object "java/lang/String")), Jvm.Cond.code ({ cls := "java/lang/String", name := "substring", desc := "(II)Ljava/lang/String;" } : Jvm.MethodName) jdk_42_method_92_code (5 : Nat) (Option.some (Jvm.ClassFile.FieldType.object "java/lang/String")), Jvm.Cond.code ({ cls := "java/lang/String", name := "checkBoundsBeginEnd", desc := "(III)V" } : Jvm.MethodName) jdk_42_method_158_code (3 : Nat) (Option.none : Option Jvm.ClassFile.FieldType), Jvm.Cond.code ({ cls := "jdk/internal/util/Preconditions", name := "checkFromToIndex", desc := "(IIILjava/util/function/BiFunction;)I" } : Jvm.MethodName) jdk_41_method_12_code (4 : Nat) (Option.some Jvm.ClassFile.FieldType.int), Jvm.Cond.code ({ cls := "java/lang/StringLatin1", name := "newString", desc := "([BII)Ljava/lang/String;" } : Jvm.MethodName) jdk_43_method_47_code (3 : Nat) (Option.some (Jvm.ClassFile.FieldType.object "java/lang/String")), Jvm.Cond.code ({ cls := "java/util/Arrays", name := "copyOfRange", desc := "([BII)[B" } : Jvm.MethodName) jdk_65_method_132_code (3 : Nat) (Option.some (Jvm.ClassFile.FieldType.array Jvm.ClassFile.FieldType.byte)), Jvm.Cond.code ({ cls := "java/util/Arrays", name := "copyOfRangeByte", desc := "([BII)[B" } : Jvm.MethodName) jdk_65_method_133_code (5 : Nat) (Option.some (Jvm.ClassFile.FieldType.array Jvm.ClassFile.FieldType.byte)), Jvm.Cond.code ({ cls := "java/util/Arrays", name := "checkLength", desc := "(II)V" } : Jvm.MethodName) jdk_65_method_131_code (2 : Nat) (Option.none : Option Jvm.ClassFile.FieldType), Jvm.Cond.code ({ cls := "java/lang/String", name := "<init>", desc := "([BB)V" } : Jvm.MethodName) jdk_42_method_151_code (3 : Nat) (Option.none : Option Jvm.ClassFile.FieldType), Jvm.Cond.code ({ cls := "java/lang/String", name := "getBytes", desc := "(Ljava/nio/charset/Charset;)[B" } : Jvm.MethodName) jdk_42_method_64_code (2 : Nat) (Option.some (Jvm.ClassFile.FieldType.array Jvm.ClassFile.FieldType.byte)), Jvm.Cond.code ({ cls := "java/lang/String", name := "encode", desc := "(Ljava/nio/charset/Charset;B[B)[B" } : Jvm.MethodName) jdk_42_method_18_code (3 : Nat) (Option.some (Jvm.ClassFile.FieldType.array Jvm.ClassFile.FieldType.byte)), Jvm.Cond.code ({ cls := "java/lang/String", name := "encodeUTF8", desc := "(B[BZ)[B" } : Jvm.MethodName) jdk_42_method_46_code (9 : Nat) (Option.some (Jvm.ClassFile.FieldType.array Jvm.ClassFile.FieldType.byte)), Jvm.Cond.code ({ cls := "java/lang/StringCoding", name := "hasNegatives", desc := "([BII)Z" } : Jvm.MethodName) jdk_123_method_2_code (3 : Nat) (Option.some Jvm.ClassFile.FieldType.boolean), Jvm.Cond.code ({ cls := "java/lang/StringCoding", name := "countPositives", desc := "([BII)I" } : Jvm.MethodName) jdk_123_method_3_code (5 : Nat) (Option.some Jvm.ClassFile.FieldType.int), Jvm.Cond.code ({ cls := "com/example/treewarden/treewarden/session/Credential", name := "<init>", desc := "(Ljava/lang/String;[B)V" } : Jvm.MethodName) prog_9_method_1_code (3 : Nat) (Option.none : Option Jvm.ClassFile.FieldType), Jvm.Cond.code ({ cls := "com/example/treewarden/treewarden/session/Credential", name := "scheme", desc := "()Ljava/lang/String;" } : Jvm.MethodName) prog_9_method_3_code (1 : Nat) (Option.some (Jvm.ClassFile.FieldType.object "java/lang/String")), Jvm.Cond.code ({ cls := "java/lang/String", name := "charAt", desc := "(I)C" } : Jvm.MethodName) jdk_42_method_56_code (2 : Nat) (Option.some Jvm.ClassFile.FieldType.char), Jvm.Cond.code ({ cls := "java/lang/StringLatin1", name := "charAt", desc := "([BI)C" } : Jvm.MethodName) jdk_43_method_2_code (2 : Nat) (Option.some Jvm.ClassFile.FieldType.char), Jvm.Cond.code ({ cls := "java/lang/String", name := "checkIndex", desc := "(II)V" } : Jvm.MethodName) jdk_42_method_155_code (2 : Nat) (Option.none : Option Jvm.ClassFile.FieldType), Jvm.Cond.code ({ cls := "jdk/internal/util/Preconditions", name := "checkIndex", desc := "(IILjava/util/function/BiFunction;)I" } : Jvm.MethodName) jdk_41_method_11_code (3 : Nat) (Option.some Jvm.ClassFile.FieldType.int), Jvm.Cond.code ({ cls := "com/example/treewarden/treewarden/session/Credential", name := "secret", desc := "()[B" } : Jvm.MethodName) prog_9_method_4_code (1 : Nat) (Option.some (Jvm.ClassFile.FieldType.array Jvm.ClassFile.FieldType.byte)), Jvm.Cond.code ({ cls := "java/util/Arrays", name := "copyOf", desc := "([BI)[B" } : Jvm.MethodName) jdk_65_method_121_code (3 : Nat) (Option.some (Jvm.ClassFile.FieldType.array Jvm.ClassFile.FieldType.byte)), Jvm.Cond.code ({ cls := "com/example/treewarden/treewarden/session/CredentialParsePinLaw", name := "eqAt", desc := "([B[BII)Z" } : Jvm.MethodName) method_5_code (4 : Nat) (Option.some Jvm.ClassFile.FieldType.boolean), Jvm.Cond.code ({ cls := "java/lang/StringUTF16", name := "toBytes", desc := "([CII)[B" } : Jvm.MethodName) jdk_52_method_14_code (5 : Nat) (Option.some (Jvm.ClassFile.FieldType.array Jvm.ClassFile.FieldType.byte)), Jvm.Cond.code ({ cls := "java/lang/StringUTF16", name := "newBytesFor", desc := "(I)[B" } : Jvm.MethodName) jdk_52_method_2_code (1 : Nat) (Option.some (Jvm.ClassFile.FieldType.array Jvm.ClassFile.FieldType.byte)), Jvm.Cond.code ({ cls := "java/lang/StringUTF16", name := "newBytesLength", desc := "(I)I" } : Jvm.MethodName) jdk_52_method_3_code (1 : Nat) (Option.some Jvm.ClassFile.FieldType.int), Jvm.Cond.code ({ cls := "java/lang/StringUTF16", name := "putChar", desc := "([BII)V" } : Jvm.MethodName) jdk_52_method_4_code (3 : Nat) (Option.none : Option Jvm.ClassFile.FieldType), Jvm.Cond.code ({ cls := "java/lang/StringUTF16", name := "getChar", desc := "([BI)C" } : Jvm.MethodName) jdk_52_method_5_code (2 : Nat) (Option.some Jvm.ClassFile.FieldType.char), Jvm.Cond.code ({ cls := "java/lang/StringUTF16", name := "indexOf", desc := "([BIII)I" } : Jvm.MethodName) jdk_52_method_40_code (4 : Nat) (Option.some Jvm.ClassFile.FieldType.int), Jvm.Cond.code ({ cls := "java/lang/StringUTF16", name := "indexOfChar", desc := "([BIII)I" } : Jvm.MethodName) jdk_52_method_47_code (4 : Nat) (Option.some Jvm.ClassFile.FieldType.int), Jvm.Cond.code ({ cls := "java/lang/StringUTF16", name := "checkBoundsBeginEnd", desc := "(II[B)V" } : Jvm.MethodName) jdk_52_method_93_code (3 : Nat) (Option.none : Option Jvm.ClassFile.FieldType), Jvm.Cond.code ({ cls := "java/lang/StringUTF16", name := "length", desc := "([B)I" } : Jvm.MethodName) jdk_52_method_6_code (1 : Nat) (Option.some Jvm.ClassFile.FieldType.int), Jvm.Cond.code ({ cls := "java/lang/StringUTF16", name := "indexOfCharUnsafe", desc := "([BIII)I" } : Jvm.MethodName) jdk_52_method_48_code (5 : Nat) (Option.some Jvm.ClassFile.FieldType.int), Jvm.Cond.code ({ cls := "java/lang/StringUTF16", name := "newString", desc := "([BII)Ljava/lang/String;" } : Jvm.MethodName) jdk_52_method_69_code (5 : Nat) (Option.some (Jvm.ClassFile.FieldType.object "java/lang/String")), Jvm.Cond.code ({ cls := "java/lang/StringUTF16", name := "compress", desc := "([BII)[B" } : Jvm.MethodName) jdk_52_method_17_code (6 : Nat) (Option.some (Jvm.ClassFile.FieldType.array Jvm.ClassFile.FieldType.byte)), Jvm.Cond.code ({ cls := "java/lang/StringUTF16", name := "compress", desc := "([BI[BII)I" } : Jvm.MethodName) jdk_52_method_22_code (7 : Nat) (Option.some Jvm.ClassFile.FieldType.int), Jvm.Cond.code ({ cls := "java/lang/StringUTF16", name := "checkBoundsOffCount", desc := "(II[B)V" } : Jvm.MethodName) jdk_52_method_94_code (3 : Nat) (Option.none : Option Jvm.ClassFile.FieldType), Jvm.Cond.code ({ cls := "java/lang/String", name := "checkBoundsOffCount", desc := "(III)I" } : Jvm.MethodName) jdk_42_method_157_code (3 : Nat) (Option.some Jvm.ClassFile.FieldType.int), Jvm.Cond.code ({ cls := "jdk/internal/util/Preconditions", name := "checkFromIndexSize", desc := "(IIILjava/util/function/BiFunction;)I" } : Jvm.MethodName) jdk_41_method_13_code (4 : Nat) (Option.some Jvm.ClassFile.FieldType.int), Jvm.Cond.code ({ cls := "java/lang/String", name := "encodeUTF8_UTF16", desc := "([BZ)[B" } : Jvm.MethodName) jdk_42_method_47_code (9 : Nat) (Option.some (Jvm.ClassFile.FieldType.array Jvm.ClassFile.FieldType.byte)), Jvm.Cond.code ({ cls := "java/lang/Character", name := "isSurrogate", desc := "(C)Z" } : Jvm.MethodName) jdk_89_method_16_code (1 : Nat) (Option.some Jvm.ClassFile.FieldType.boolean), Jvm.Cond.code ({ cls := "java/lang/StringUTF16", name := "charAt", desc := "([BI)C" } : Jvm.MethodName) jdk_52_method_83_code (2 : Nat) (Option.some Jvm.ClassFile.FieldType.char), Jvm.Cond.code ({ cls := "java/lang/StringUTF16", name := "checkIndex", desc := "(I[B)V" } : Jvm.MethodName) jdk_52_method_91_code (2 : Nat) (Option.none : Option Jvm.ClassFile.FieldType)]
set_option maxRecDepth 65536 in
theorem codes_eq : words1.filter isCode = codes1 := rfl
theorem w_codes : ∀ c ∈ words1.filter isCode, c.before args0 about1 = true := by
  rw [codes_eq]
  intro c hc
  simp only [codes1, List.mem_cons, List.not_mem_nil, or_false] at hc
  rcases hc with rfl | rfl | rfl | rfl | rfl | rfl | rfl | rfl | rfl | rfl | rfl | rfl | rfl | rfl | rfl | rfl | rfl | rfl | rfl | rfl | rfl | rfl | rfl | rfl | rfl | rfl | rfl | rfl | rfl | rfl | rfl | rfl | rfl | rfl | rfl | rfl | rfl | rfl | rfl | rfl | rfl | rfl | rfl | rfl | rfl | rfl | rfl | rfl | rfl | rfl | rfl | rfl | rfl | rfl | rfl | rfl | rfl | rfl | rfl | rfl | rfl | rfl | rfl
  · exact w_c0
  · exact w_c1
  · exact w_c2
  · exact w_c3
  · exact w_c4
  · exact w_c5
  · exact w_c6
  · exact w_c7
  · exact w_c8
  · exact w_c9
  · exact w_c10
  · exact w_c11
  · exact w_c12
  · exact w_c13
  · exact w_c14
  · exact w_c15
  · exact w_c16
  · exact w_c17
  · exact w_c18
  · exact w_c19
  · exact w_c20
  · exact w_c21
  · exact w_c22
  · exact w_c23
  · exact w_c24
  · exact w_c25
  · exact w_c26
  · exact w_c27
  · exact w_c28
  · exact w_c29
  · exact w_c30
  · exact w_c31
  · exact w_c32
  · exact w_c33
  · exact w_c34
  · exact w_c35
  · exact w_c36
  · exact w_c37
  · exact w_c38
  · exact w_c39
  · exact w_c40
  · exact w_c41
  · exact w_c42
  · exact w_c43
  · exact w_c44
  · exact w_c45
  · exact w_c46
  · exact w_c47
  · exact w_c48
  · exact w_c49
  · exact w_c50
  · exact w_c51
  · exact w_c52
  · exact w_c53
  · exact w_c54
  · exact w_c55
  · exact w_c56
  · exact w_c57
  · exact w_c58
  · exact w_c59
  · exact w_c60
  · exact w_c61
  · exact w_c62
set_option maxRecDepth 65536 in
theorem w_t1 : (words1.take 24).all (fun c => isCode c || c.before args0 about1) = true := by decide +kernel
set_option maxRecDepth 65536 in
theorem w_t2 : ((words1.drop 24).take 24).all (fun c => isCode c || c.before args0 about1) = true := by decide +kernel
set_option maxRecDepth 65536 in
theorem w_t3 : (((words1.drop 24).drop 24).take 24).all (fun c => isCode c || c.before args0 about1) = true := by decide +kernel
set_option maxRecDepth 65536 in
theorem w_t4 : ((((words1.drop 24).drop 24).drop 24).take 24).all (fun c => isCode c || c.before args0 about1) = true := by decide +kernel
set_option maxRecDepth 65536 in
theorem w_t5 : (((((words1.drop 24).drop 24).drop 24).drop 24).take 24).all (fun c => isCode c || c.before args0 about1) = true := by decide +kernel
set_option maxRecDepth 65536 in
theorem w_t6 : ((((((words1.drop 24).drop 24).drop 24).drop 24).drop 24).take 24).all (fun c => isCode c || c.before args0 about1) = true := by decide +kernel
set_option maxRecDepth 65536 in
theorem w_t7 : (((((((words1.drop 24).drop 24).drop 24).drop 24).drop 24).drop 24).take 24).all (fun c => isCode c || c.before args0 about1) = true := by decide +kernel
set_option maxRecDepth 65536 in
theorem w_t8 : ((((((((words1.drop 24).drop 24).drop 24).drop 24).drop 24).drop 24).drop 24).take 24).all (fun c => isCode c || c.before args0 about1) = true := by decide +kernel
set_option maxRecDepth 65536 in
theorem w_t9 : (((((((((words1.drop 24).drop 24).drop 24).drop 24).drop 24).drop 24).drop 24).drop 24).take 24).all (fun c => isCode c || c.before args0 about1) = true := by decide +kernel
set_option maxRecDepth 65536 in
theorem w_t10 : ((((((((((words1.drop 24).drop 24).drop 24).drop 24).drop 24).drop 24).drop 24).drop 24).drop 24).take 24).all (fun c => isCode c || c.before args0 about1) = true := by decide +kernel
set_option maxRecDepth 65536 in
theorem w_t11 : (((((((((((words1.drop 24).drop 24).drop 24).drop 24).drop 24).drop 24).drop 24).drop 24).drop 24).drop 24).take 24).all (fun c => isCode c || c.before args0 about1) = true := by decide +kernel
set_option maxRecDepth 65536 in
theorem w_t12 : (((((((((((words1.drop 24).drop 24).drop 24).drop 24).drop 24).drop 24).drop 24).drop 24).drop 24).drop 24).drop 24).all (fun c => isCode c || c.before args0 about1) = true := by decide +kernel
theorem w_tables : (allAtoms (Jvm.Cond.code x code maxLocals ret :: tables_1)).before args0 about1 = true := by
  rw [allAtoms_all]
  show words1.all (fun c => c.before args0 about1) = true
  refine all_split ?_ w_codes
  rw [← List.take_append_drop 24 words1, List.all_append, w_t1, ← List.take_append_drop 24 (words1.drop 24), List.all_append, w_t2, ← List.take_append_drop 24 ((words1.drop 24).drop 24), List.all_append, w_t3, ← List.take_append_drop 24 (((words1.drop 24).drop 24).drop 24), List.all_append, w_t4, ← List.take_append_drop 24 ((((words1.drop 24).drop 24).drop 24).drop 24), List.all_append, w_t5, ← List.take_append_drop 24 (((((words1.drop 24).drop 24).drop 24).drop 24).drop 24), List.all_append, w_t6, ← List.take_append_drop 24 ((((((words1.drop 24).drop 24).drop 24).drop 24).drop 24).drop 24), List.all_append, w_t7, ← List.take_append_drop 24 (((((((words1.drop 24).drop 24).drop 24).drop 24).drop 24).drop 24).drop 24), List.all_append, w_t8, ← List.take_append_drop 24 ((((((((words1.drop 24).drop 24).drop 24).drop 24).drop 24).drop 24).drop 24).drop 24), List.all_append, w_t9, ← List.take_append_drop 24 (((((((((words1.drop 24).drop 24).drop 24).drop 24).drop 24).drop 24).drop 24).drop 24).drop 24), List.all_append, w_t10, ← List.take_append_drop 24 ((((((((((words1.drop 24).drop 24).drop 24).drop 24).drop 24).drop 24).drop 24).drop 24).drop 24).drop 24), List.all_append, w_t11, w_t12]
  rfl
set_option maxRecDepth 65536 in
theorem w_rest : rest_1_c.before args0 about1 = true := by decide +kernel
set_option maxRecDepth 65536 in
theorem w_case : (Jvm.Cond.and given_1 narrow_1).before args0 about1 = true := by decide +kernel
theorem w_applies : (headSpec (Jvm.Cond.code x code maxLocals ret :: tables_1) room_1).applies x e0.platform about1 = true :=
  (Spec.applies_iff w_frames).mpr ⟨w_running, w_runnable, w_alone, w_named, w_hears, w_ripe, w_room, w_tables⟩
theorem atStart : AtStart classFile x code maxLocals ret World_1 tables_1 room_1 Calls_1 rest_1 Pre_1 launch0 p0 e0 about1 theMethod args0 below0 :=
  ⟨lists_1, trivial, launch0.admits_env _ _ _, launch0.least_env, fairChoices_fair.cas, fairChoices_fair.clock, w_frames, w_args, w_heap, w_applies, trivial, w_rest, w_case⟩
end start1
theorem witness_1 : WitnessClaimed_1 := ⟨start1.p0, start1.e0, start1.about1, start1.theMethod, start1.args0, start1.below0, start1.atStart⟩
end Jvm.Pilot.@@N@@
