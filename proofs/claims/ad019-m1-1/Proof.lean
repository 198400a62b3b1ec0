import JvmDerived
import JvmDerived.Pilot.@@N@@Statement
import JvmDerived.Pilot.@@N@@Code
set_option linter.unusedVariables false
set_option linter.unusedSimpArgs false
namespace Jvm.RoadKit
open Sem ClassFile Op Lib Jvm.Stand Jvm.Free Jvm.LawKit
section New
variable {p : Program} {l : Launch} {e : Env} {R : Room} {s : State} {m : MethodId} {args : Array Value} {below : List Frame} {meth : Method} {c : Code} {T : State} {locs : List Loc} {cells slots : Nat}
theorem retI (X : Stand p l e R s m args below meth c T locs cells slots) (hx : p.tables.exec = Jvm.exec) {pc : Nat} {Ls : Array Slot} {z : Int32} {rest : List Value} (hret : meth.sig.returnType = some .int) (hd : decode c.code pc = .ok (.ireturn, 1)) {fs : List Frame}
    (hl : ∀ (f : JFrame) (acts : List Action), f.method = m → f.locked = none → f.entered = [] → (doReturn e (T.setTop f) acts (some (.int z))).1 = T.setFrames fs) : Steps p.tables e below (T.setTop (mkF m pc Ls (.int z :: rest))) (T.setFrames fs) :=
  retOut X hx hret rfl (Or.inl ⟨rfl, Or.inl rfl, z, rfl⟩) hd hl
end New
end Jvm.RoadKit
namespace Jvm.Pilot.@@N@@
open Jvm Jvm.ClassFile Sem Op Lib Jvm.Free Jvm.Stand Jvm.LawKit Jvm.RoadKit Bundle Jvm.Pilot.@@N@@.Jvm.D
section Own
variable {Z : State} {h h' : Heap} {a : Addr} {C n d : String} {v : Value} {ws : List Addr}
theorem ow {a0 : Array Value} (hw : ∀ d ∈ tables_1, d.before a0 Z = true) {d : Jvm.Cond} (i : Nat) (h : tables_1[i]? = some d) : d.before a0 Z = true := hw _ (List.mem_of_getElem? h)
abbrev oS (p : Program) (e : Env) (below : List Frame) (T : State) (m : MethodId) (pc : Nat) (Ls : Array Slot) (st : List Value) (t : State) : Prop := Steps p.tables e below (T.setTop (mkF m pc Ls st)) t
theorem own_hide {p : Program} {l : Launch} {e : Env} {R : Room} {s : State} {m : MethodId} {args : Array Value} {below : List Frame} {meth : Method} {c : Code} {T : State} {locs : List Loc} {cells slots k : Nat} (X : Stand p l e R s m args below meth c T locs cells slots) (N : Fr k locs) : ∃ L, Stand p l e R s m args below meth c T L cells slots ∧ Fr k L := ⟨_, X, N⟩
abbrev oM (l : Launch) (y : MethodName) (code : ByteArray) (mx : Nat) (rt : Option FieldType) (ws : List Jvm.Cond) (R : Room) (A : Array Value) (Z : State) (h0 : Heap) (Q : Option Value → Heap → List Loc → Prop) : Prop :=
  MetFree l y (head1 (Jvm.Cond.code y code mx rt :: ws) R) (fun a U => a = A ∧ Z.Warmed39 U.vm ∧ U.heap = h0) (fun _ _ _ _ _ => True) (fun _ U o U' => ∃ v L, o = .returned v ∧ Q v U'.heap L ∧ FrameEnd U o U' L R.cells R.slots)
abbrev oMW (l : Launch) (y : MethodName) (code : ByteArray) (mx : Nat) (rt : Option FieldType) (ws : List Jvm.Cond) (R : Room) (A : Array Value) (Z : State) (h0 : Heap) (Q : Option Value → Heap → List Loc → Prop) : Prop :=
  MetFree l y (head1 (Jvm.Cond.code y code mx rt :: ws) R) (fun a U => a = A ∧ Z.Warmed39 U.vm ∧ U.heap = h0) (fun _ _ _ _ _ => True) (fun _ U o U' => ∃ v L, o = .returned v ∧ Q v U'.heap L ∧ ReturnedEndW U o U' L R.cells R.slots)
def own_Plain (h : Heap) (a : Addr) : Prop := ∀ cell : Cell, h[a]? = some cell → cell.vm.isStatics = false
theorem own_plain_E (F : Exa Z h a C) : own_Plain h a := fun cell hc => by
  obtain ⟨c1, _, h1, -, -, h4, -⟩ := F
  cases hc.symm.trans h1; exact h4
theorem own_plain_F (F : Fld Z h a C n d v) : own_Plain h a := fun cell hc => by
  obtain ⟨c1, _, _, _, _, h1, -, -, -, h4, -⟩ := F
  cases hc.symm.trans h1; exact h4
theorem own_plain_V {k : ClassId} {ty : FieldType} {z : Int32} {vs : List Value} {dv : Value} (F : Arv Z h a k ty z vs dv) : own_Plain h a := fun cell hc => by
  obtain ⟨c1, A, -⟩ := F
  cases hc.symm.trans A.1; exact A.plain
theorem own_sta_keep (F : Sta Z h C n d v) (K : Keep h h' ws) (q : ∀ x ∈ ws, own_Plain h x) : Sta Z h' C n d v := by
  obtain ⟨cf, i, k, f, st, cell, h1, h2, h3, h4, h5, h6, h7⟩ := F
  exact ⟨cf, i, k, f, st, cell, h1, h2, h3, h4, K.2.1 _ _ h5 (fun hm => by rw [q _ hm _ h5] at h6; cases h6), h6, h7⟩
theorem own_ne_EV {a0 : Array Value} {j : Nat} {b : Addr} {k : ClassId} {ty : FieldType} {z : Int32} {vs : List Value} {dv : Value} (F : Exa Z h a C) (wi : (Jvm.Cond.instantiable C j).before a0 Z = true) (G : Arv Z h b k ty z vs dv) : a ≠ b := by
  obtain ⟨c, A, -⟩ := G
  exact ne_arr F wi A
theorem own_mvM {s : State} {a0 args : Array Value} {own host : String} {y : MethodName} {index : Nat} (hZ : Z.Warmed39 s.vm) (w : (Jvm.Cond.methodLinkNest own index y host).before a0 Z = true) : (Jvm.Cond.methodLinkNest own index y host).before args s = true := (Cond.methodLinkNest_wide hZ w :)
theorem own_arr_keep {c : Cell} {ty : FieldType} (F : Arr Z h a c ty) (K : Keep h h' ws) (q : a ∉ ws) : Arr Z h' a c ty := ⟨K.2.1 _ _ F.1 q, F.2⟩
theorem own_ins_keep {b : Bool} (F : Ins Z h a C b) (K : Keep h h' ws) : Ins Z h' a C b := by
  obtain ⟨cell, cT, h1, h2, h3⟩ := F
  obtain ⟨c', e1, e2, e3, -⟩ := K.2.2 _ _ h1
  exact ⟨c', cT, e1, h2, by rw [e2, e3]; exact h3⟩
end Own
abbrev yN0 : MethodName := ⟨"com/example/watchful_junction/watchfuljunction/importer/PhaseGreenPinLaw", "pick", "(I)C"⟩
abbrev yN1 : MethodName := ⟨"com/example/watchful_junction/watchfuljunction/importer/PhaseGreenPinLaw", "isGreen", "(C)Z"⟩
abbrev yN2 : MethodName := ⟨"java/lang/StringUTF16", "compress", "([CI[BII)I"⟩
abbrev yN3 : MethodName := ⟨"java/lang/StringUTF16", "newBytesLength", "(I)I"⟩
abbrev yN4 : MethodName := ⟨"java/lang/StringUTF16", "newBytesFor", "(I)[B"⟩
abbrev yN5 : MethodName := ⟨"java/lang/StringUTF16", "putChar", "([BII)V"⟩
abbrev yN6 : MethodName := ⟨"java/lang/StringUTF16", "toBytes", "([CII)[B"⟩
abbrev yN7 : MethodName := ⟨"java/lang/StringUTF16", "getChar", "([BI)C"⟩
abbrev yN8 : MethodName := ⟨"java/lang/StringUTF16", "compress", "([CII)[B"⟩
abbrev yN9 : MethodName := ⟨"java/lang/StringUTF16", "coderFromArrayLen", "([BI)B"⟩
abbrev yN10 : MethodName := ⟨"java/lang/String", "<init>", "([CIILjava/lang/Void;)V"⟩
abbrev yN11 : MethodName := ⟨"java/lang/String", "<init>", "([C)V"⟩
abbrev yN12 : MethodName := ⟨"jdk/internal/util/Preconditions", "checkIndex", "(IILjava/util/function/BiFunction;)I"⟩
abbrev yN13 : MethodName := ⟨"java/lang/String", "checkIndex", "(II)V"⟩
abbrev yN14 : MethodName := ⟨"java/lang/String", "isLatin1", "()Z"⟩
abbrev yN15 : MethodName := ⟨"java/lang/StringUTF16", "length", "([B)I"⟩
abbrev yN16 : MethodName := ⟨"java/lang/StringLatin1", "charAt", "([BI)C"⟩
abbrev yN17 : MethodName := ⟨"java/lang/StringUTF16", "checkIndex", "(I[B)V"⟩
abbrev yN18 : MethodName := ⟨"java/lang/StringUTF16", "charAt", "([BI)C"⟩
abbrev yN19 : MethodName := ⟨"java/lang/String", "charAt", "(I)C"⟩
abbrev yN20 : MethodName := ⟨"com/example/watchful_junction/watchfuljunction/importer/Network$Phase", "green", "(I)Z"⟩
abbrev yN21 : MethodName := ⟨"com/example/watchful_junction/watchfuljunction/importer/Network$Phase", "<init>", "(ILjava/lang/String;)V"⟩
theorem own_mod (x y : Int32) (k : Int) (hy : y.toInt = k) (hk : 0 < k) : 0 ≤ ((x &&& (2147483647 : Int32)) % y).toInt ∧ ((x &&& (2147483647 : Int32)) % y).toInt < k := by
  have h1 := c_mask x (2147483647 : Int32) 31 (by decide) (by decide)
  have h2 : 0 ≤ (x &&& (2147483647 : Int32)).toInt := by rw [h1]; omega
  have h3 := (c_irem (x &&& (2147483647 : Int32)) y k hy).1 h2
  rw [h3]
  exact ⟨Int.emod_nonneg _ (by omega), Int.emod_lt_of_pos _ hk⟩
theorem own_mask (x m : Int32) (k : Nat) (hk : k ≤ 31) (hm : m.toBitVec.toNat = 2 ^ k - 1) : 0 ≤ (x &&& m).toInt ∧ (x &&& m).toInt < (2 ^ k : Nat) := by
  rw [c_mask x m k hk hm]
  exact ⟨Int.emod_nonneg _ (by have := Nat.two_pow_pos k; omega), Int.emod_lt_of_pos _ (by have := Nat.two_pow_pos k; omega)⟩
def own_pick (x : Int32) : Int32 := if (x &&& (3 : Int32)) = (0 : Int32) then (71 : Int32) else if (x &&& (3 : Int32)) = (1 : Int32) then (103 : Int32) else (((x.toUInt32 >>> ((2 : Int32) &&& 31).toUInt32).toInt32).toUInt32.toUInt16.toUInt32.toInt32)
def own_green (c : Int32) : Int32 := if c = (71 : Int32) then (1 : Int32) else if c = (103 : Int32) then (1 : Int32) else (0 : Int32)
theorem own_i2c2 (x : Int32) : nar .char (x.toUInt32.toUInt16.toUInt32.toInt32) = x.toUInt32.toUInt16.toUInt32.toInt32 := by simp only [nar, UInt32.toUInt32_toInt32, UInt16.toUInt16_toUInt32]
theorem own_bb {x : Int32} : nar .byte (x.toInt8.toInt32) = x.toInt8.toInt32 := by simp [nar]
theorem own_pick_rng (x : Int32) : 0 ≤ (own_pick x).toInt ∧ (own_pick x).toInt ≤ 65535 := by
  unfold own_pick
  split
  · decide
  · split
    · decide
    · have h := c_i2c ((x.toUInt32 >>> ((2 : Int32) &&& 31).toUInt32).toInt32)
      omega
theorem own_narc {c : Int32} (h : 0 ≤ c.toInt ∧ c.toInt ≤ 65535) : nar .char c = c := by
  apply Int32.toInt_inj.mp
  have q := c_i2c c
  show (c.toUInt32.toUInt16.toUInt32.toInt32).toInt = c.toInt
  omega
theorem own_fitc {c : Int32} (h : 0 ≤ c.toInt ∧ c.toInt ≤ 65535) : fits .char (.int c) = true := by
  rw [← own_narc h]; exact fits_nar_char c
theorem own_latin {c : Int32} (h : 0 ≤ c.toInt ∧ c.toInt ≤ 65535) (h2 : ¬ ((255 : Int32) < c)) : nar .char ((((c.toInt8.toInt32) &&& (255 : Int32)).toUInt32.toUInt16.toUInt32.toInt32)) = c := by
  rw [own_i2c2]
  have e : (c.toInt8.toInt32) &&& (255 : Int32) = c := by
    apply Int32.toInt_inj.mp
    have q := c_i2b c
    rw [c_mask _ (255 : Int32) 8 (by decide) (by decide)]
    rw [Int32.lt_iff_toInt_lt] at h2
    have a1 : ((255 : Int32)).toInt = 255 := by decide
    omega
  rw [e]
  exact own_narc h
theorem own_utf {c : Int32} (h : 0 ≤ c.toInt ∧ c.toInt ≤ 65535) : nar .char ((((((c >>> ((0 : Int32) &&& 31)).toInt8.toInt32) &&& (255 : Int32)) <<< ((0 : Int32) &&& 31)) ||| ((((c >>> ((8 : Int32) &&& 31)).toInt8.toInt32) &&& (255 : Int32)) <<< ((8 : Int32) &&& 31))).toUInt32.toUInt16.toUInt32.toInt32) = c := by
  rw [own_i2c2]
  apply Int32.toInt_inj.mp
  have e0 := c_ishr c (0 : Int32) 0 (by decide)
  have e8 := c_ishr c (8 : Int32) 8 (by decide)
  have b0 := c_i2b (c >>> ((0 : Int32) &&& 31))
  have b8 := c_i2b (c >>> ((8 : Int32) &&& 31))
  have m0 := c_mask ((c >>> ((0 : Int32) &&& 31)).toInt8.toInt32) (255 : Int32) 8 (by decide) (by decide)
  have m8 := c_mask ((c >>> ((8 : Int32) &&& 31)).toInt8.toInt32) (255 : Int32) 8 (by decide) (by decide)
  generalize ((c >>> ((0 : Int32) &&& 31)).toInt8.toInt32) &&& (255 : Int32) = x0 at *
  generalize ((c >>> ((8 : Int32) &&& 31)).toInt8.toInt32) &&& (255 : Int32) = x8 at *
  have s0 := c_ishl x0 (0 : Int32) 0 (by decide)
  have s8 := c_ishl x8 (8 : Int32) 8 (by decide)
  have r0 := rng32 (x0 <<< ((0 : Int32) &&& 31))
  have r8 := rng32 (x8 <<< ((8 : Int32) &&& 31))
  have o := c_or' (x0 <<< ((0 : Int32) &&& 31)) (x8 <<< ((8 : Int32) &&& 31)) 8 (by decide) 256 (by decide) (by omega) (by omega) (by omega)
  have q := c_i2c ((x0 <<< ((0 : Int32) &&& 31)) ||| (x8 <<< ((8 : Int32) &&& 31)))
  have r := rng32 ((x0 <<< ((0 : Int32) &&& 31)) ||| (x8 <<< ((8 : Int32) &&& 31)))
  omega
theorem d1_0 : decode method_2_code 0 = .ok (.iload_n 0, 1) := by decide +kernel
theorem d1_1 : decode method_2_code 1 = .ok (.iconst 3, 1) := by decide +kernel
theorem d1_2 : decode method_2_code 2 = .ok (.iand, 1) := by decide +kernel
theorem d1_3 : decode method_2_code 3 = .ok (.istore_n 1, 1) := by decide +kernel
theorem d1_4 : decode method_2_code 4 = .ok (.iload_n 1, 1) := by decide +kernel
theorem d1_5 : decode method_2_code 5 = .ok (.ifCond .ne 6, 3) := by decide +kernel
theorem d1_8 : decode method_2_code 8 = .ok (.bipush 71, 2) := by decide +kernel
theorem d1_10 : decode method_2_code 10 = .ok (.ireturn, 1) := by decide +kernel
theorem pn_0 : plainName "com/example/watchful_junction/watchfuljunction/importer/PhaseGreenPinLaw" = true := by first | (simp [plainName, overriddenIn]; done) | decide +kernel
theorem ef_pick0 (m : MethodId) (pI1 : Int32) : entryFrame m #[(.int pI1)] 2 = mkF m 0 #[.val (.int pI1), .unset] [] := by first | (simp [entryFrame, mkF, argsToLocals, Value.category]; done) | rfl
def Qpick (Z : State) (pI1 : Int32) (h0 : Heap) (n0 : Nat) (v : Option Value) (h : Heap) (L : List Loc) : Prop := v = some (.int (own_pick pI1)) ∧ Fr n0 L ∧ h = h0
set_option maxRecDepth 65536 in
set_option maxHeartbeats 40000000 in
theorem pick0 (l : Launch) (Z : State) (a0 : Array Value) (hw : ∀ d ∈ tables_1, d.before a0 Z = true) (ws : List Jvm.Cond) (pI1 : Int32) (h0 : Heap) (n0 : Nat) (Z0 : n0 ≤ h0.size) (hc5 : (pI1 &&& (3 : Int32)) = (0 : Int32)) :
    oM l yN0 method_2_code 2 (some .char) ws ({ frames := 0, cells := 0, slots := 0, locals := 0 } : Room) #[(.int pI1)] Z h0 (Qpick Z pI1 h0 n0) := by
  refine MetFree.of_bodySF (plainFor_of_name pn_0) hisR ?_
  intro p e s m args below meth c s₁ Bd hml0 hP hK
  obtain ⟨rfl, hZ, hh⟩ := hP
  have hx := Bd.exec
  have hby := Bd.bytes
  have hml : c.maxLocals = 2 := hml0
  have hown : s.vm.findClass "com/example/watchful_junction/watchfuljunction/importer/PhaseGreenPinLaw" = some m.cls := findClass_of_methodNamed Bd.named
  have hnm := (name_of_methodNamed Bd.named Bd.method).1
  have X0 : Stand p l e ({ frames := 0, cells := 0, slots := 0, locals := 0 } : Room) s m #[(.int pI1)] below meth c s₁ [] 0 0 := Stand.of_body Bd
  have e0 : s₁.heap = h0 := by rw [← hh, Bd.state]; rfl
  have N0 := Fr.nil n0
  obtain ⟨fs, hr, hrun, hended, hW, hsame⟩ := X0.leave (v := some (.int 71)) (fun h => by rw [Bd.returns] at h; cases h)
  refine ⟨_, _, castTop (ef_pick0 m pI1) ?_, hrun, hended, _, _, rfl, ?_, ⟨_, rfl⟩, hW, hsame.mono (by decide) (by decide)⟩
  · show oS p e below s₁ m 0 #[.val (.int pI1), .unset] [] _
    refine XS.iloadN X0.here hx rfl (hb hby d1_0) rfl ?_
    refine XS.iconst X0.here hx rfl (hb hby d1_1) ?_
    refine XS.iand X0.here hx rfl (hb hby d1_2) rfl ?_
    refine XS.istoreN X0.here hx rfl (hb hby d1_3) rfl (l' := #[.val (.int pI1), .val (.int (pI1 &&& (3 : Int32)))]) rfl ?_
    refine XS.iloadN X0.here hx rfl (hb hby d1_4) rfl ?_
    refine XS.ifNo X0.here hx rfl (hb hby d1_5) rfl ((if0 _ _).trans (teq hc5).2) ?_
    show oS p e below s₁ m 8 #[.val (.int pI1), .val (.int (pI1 &&& (3 : Int32)))] [] _
    refine XS.bipush X0.here hx rfl (hb hby d1_8) ?_
    exact retN X0 hx (t := .char) Bd.returns (by simp) (hb hby d1_10) hr
  · show Qpick Z pI1 h0 n0 _ s₁.heap _
    rw [e0]
    exact ⟨(by simp [own_pick, hc5]), N0, rfl⟩
theorem d1_11 : decode method_2_code 11 = .ok (.iload_n 1, 1) := by decide +kernel
theorem d1_12 : decode method_2_code 12 = .ok (.iconst 1, 1) := by decide +kernel
theorem d1_13 : decode method_2_code 13 = .ok (.if_icmp .ne 6, 3) := by decide +kernel
theorem d1_16 : decode method_2_code 16 = .ok (.bipush 103, 2) := by decide +kernel
theorem d1_18 : decode method_2_code 18 = .ok (.ireturn, 1) := by decide +kernel
theorem ef_pick1 (m : MethodId) (pI1 : Int32) : entryFrame m #[(.int pI1)] 2 = mkF m 0 #[.val (.int pI1), .unset] [] := by first | (simp [entryFrame, mkF, argsToLocals, Value.category]; done) | rfl
set_option maxRecDepth 65536 in
set_option maxHeartbeats 40000000 in
theorem pick1 (l : Launch) (Z : State) (a0 : Array Value) (hw : ∀ d ∈ tables_1, d.before a0 Z = true) (ws : List Jvm.Cond) (pI1 : Int32) (h0 : Heap) (n0 : Nat) (Z0 : n0 ≤ h0.size) (hc5 : ¬ ((pI1 &&& (3 : Int32)) = (0 : Int32))) (hc13 : (pI1 &&& (3 : Int32)) = (1 : Int32)) :
    oM l yN0 method_2_code 2 (some .char) ws ({ frames := 0, cells := 0, slots := 0, locals := 0 } : Room) #[(.int pI1)] Z h0 (Qpick Z pI1 h0 n0) := by
  refine MetFree.of_bodySF (plainFor_of_name pn_0) hisR ?_
  intro p e s m args below meth c s₁ Bd hml0 hP hK
  obtain ⟨rfl, hZ, hh⟩ := hP
  have hx := Bd.exec
  have hby := Bd.bytes
  have hml : c.maxLocals = 2 := hml0
  have hown : s.vm.findClass "com/example/watchful_junction/watchfuljunction/importer/PhaseGreenPinLaw" = some m.cls := findClass_of_methodNamed Bd.named
  have hnm := (name_of_methodNamed Bd.named Bd.method).1
  have X0 : Stand p l e ({ frames := 0, cells := 0, slots := 0, locals := 0 } : Room) s m #[(.int pI1)] below meth c s₁ [] 0 0 := Stand.of_body Bd
  have e0 : s₁.heap = h0 := by rw [← hh, Bd.state]; rfl
  have N0 := Fr.nil n0
  obtain ⟨fs, hr, hrun, hended, hW, hsame⟩ := X0.leave (v := some (.int 103)) (fun h => by rw [Bd.returns] at h; cases h)
  refine ⟨_, _, castTop (ef_pick1 m pI1) ?_, hrun, hended, _, _, rfl, ?_, ⟨_, rfl⟩, hW, hsame.mono (by decide) (by decide)⟩
  · show oS p e below s₁ m 0 #[.val (.int pI1), .unset] [] _
    refine XS.iloadN X0.here hx rfl (hb hby d1_0) rfl ?_
    refine XS.iconst X0.here hx rfl (hb hby d1_1) ?_
    refine XS.iand X0.here hx rfl (hb hby d1_2) rfl ?_
    refine XS.istoreN X0.here hx rfl (hb hby d1_3) rfl (l' := #[.val (.int pI1), .val (.int (pI1 &&& (3 : Int32)))]) rfl ?_
    refine XS.iloadN X0.here hx rfl (hb hby d1_4) rfl ?_
    refine XS.ifYes X0.here hx rfl (pc0 := 5) (pc' := 11) rfl (hb hby d1_5) rfl ((if0 _ _).trans (feq hc5).2) (by decide) (by decide) ?_
    show oS p e below s₁ m 11 #[.val (.int pI1), .val (.int (pI1 &&& (3 : Int32)))] [] _
    refine XS.iloadN X0.here hx rfl (hb hby d1_11) rfl ?_
    refine XS.iconst X0.here hx rfl (hb hby d1_12) ?_
    refine XS.icmpNo X0.here hx rfl (hb hby d1_13) rfl (teq hc13).2 ?_
    refine XS.bipush X0.here hx rfl (hb hby d1_16) ?_
    exact retN X0 hx (t := .char) Bd.returns (by simp) (hb hby d1_18) hr
  · show Qpick Z pI1 h0 n0 _ s₁.heap _
    rw [e0]
    exact ⟨(by simp [own_pick, hc13]), N0, rfl⟩
theorem d1_19 : decode method_2_code 19 = .ok (.iload_n 0, 1) := by decide +kernel
theorem d1_20 : decode method_2_code 20 = .ok (.iconst 2, 1) := by decide +kernel
theorem d1_21 : decode method_2_code 21 = .ok (.iushr, 1) := by decide +kernel
theorem d1_22 : decode method_2_code 22 = .ok (.i2c, 1) := by decide +kernel
theorem d1_23 : decode method_2_code 23 = .ok (.ireturn, 1) := by decide +kernel
theorem ef_pick2 (m : MethodId) (pI1 : Int32) : entryFrame m #[(.int pI1)] 2 = mkF m 0 #[.val (.int pI1), .unset] [] := by first | (simp [entryFrame, mkF, argsToLocals, Value.category]; done) | rfl
set_option maxRecDepth 65536 in
set_option maxHeartbeats 40000000 in
theorem pick2 (l : Launch) (Z : State) (a0 : Array Value) (hw : ∀ d ∈ tables_1, d.before a0 Z = true) (ws : List Jvm.Cond) (pI1 : Int32) (h0 : Heap) (n0 : Nat) (Z0 : n0 ≤ h0.size) (hc5 : ¬ ((pI1 &&& (3 : Int32)) = (0 : Int32))) (hc13 : ¬ ((pI1 &&& (3 : Int32)) = (1 : Int32))) :
    oM l yN0 method_2_code 2 (some .char) ws ({ frames := 0, cells := 0, slots := 0, locals := 0 } : Room) #[(.int pI1)] Z h0 (Qpick Z pI1 h0 n0) := by
  refine MetFree.of_bodySF (plainFor_of_name pn_0) hisR ?_
  intro p e s m args below meth c s₁ Bd hml0 hP hK
  obtain ⟨rfl, hZ, hh⟩ := hP
  have hx := Bd.exec
  have hby := Bd.bytes
  have hml : c.maxLocals = 2 := hml0
  have hown : s.vm.findClass "com/example/watchful_junction/watchfuljunction/importer/PhaseGreenPinLaw" = some m.cls := findClass_of_methodNamed Bd.named
  have hnm := (name_of_methodNamed Bd.named Bd.method).1
  have X0 : Stand p l e ({ frames := 0, cells := 0, slots := 0, locals := 0 } : Room) s m #[(.int pI1)] below meth c s₁ [] 0 0 := Stand.of_body Bd
  have e0 : s₁.heap = h0 := by rw [← hh, Bd.state]; rfl
  have N0 := Fr.nil n0
  obtain ⟨fs, hr, hrun, hended, hW, hsame⟩ := X0.leave (v := some (.int (nar .char (((pI1.toUInt32 >>> ((2 : Int32) &&& 31).toUInt32).toInt32).toUInt32.toUInt16.toUInt32.toInt32)))) (fun h => by rw [Bd.returns] at h; cases h)
  refine ⟨_, _, castTop (ef_pick2 m pI1) ?_, hrun, hended, _, _, rfl, ?_, ⟨_, rfl⟩, hW, hsame.mono (by decide) (by decide)⟩
  · show oS p e below s₁ m 0 #[.val (.int pI1), .unset] [] _
    refine XS.iloadN X0.here hx rfl (hb hby d1_0) rfl ?_
    refine XS.iconst X0.here hx rfl (hb hby d1_1) ?_
    refine XS.iand X0.here hx rfl (hb hby d1_2) rfl ?_
    refine XS.istoreN X0.here hx rfl (hb hby d1_3) rfl (l' := #[.val (.int pI1), .val (.int (pI1 &&& (3 : Int32)))]) rfl ?_
    refine XS.iloadN X0.here hx rfl (hb hby d1_4) rfl ?_
    refine XS.ifYes X0.here hx rfl (pc0 := 5) (pc' := 11) rfl (hb hby d1_5) rfl ((if0 _ _).trans (feq hc5).2) (by decide) (by decide) ?_
    show oS p e below s₁ m 11 #[.val (.int pI1), .val (.int (pI1 &&& (3 : Int32)))] [] _
    refine XS.iloadN X0.here hx rfl (hb hby d1_11) rfl ?_
    refine XS.iconst X0.here hx rfl (hb hby d1_12) ?_
    refine XS.icmpYes X0.here hx rfl (pc0 := 13) (pc' := 19) rfl (hb hby d1_13) rfl (feq hc13).2 (by decide) (by decide) ?_
    refine XS.iloadN X0.here hx rfl (hb hby d1_19) rfl ?_
    refine XS.iconst X0.here hx rfl (hb hby d1_20) ?_
    refine XS.iushr X0.here hx rfl (hb hby d1_21) rfl ?_
    show oS p e below s₁ m 22 #[.val (.int pI1), .val (.int (pI1 &&& (3 : Int32)))] [(.int ((pI1.toUInt32 >>> ((2 : Int32) &&& 31).toUInt32).toInt32))] _
    refine XS.i2c X0.here hx rfl (hb hby d1_22) rfl ?_
    exact retN X0 hx (t := .char) Bd.returns (by simp) (hb hby d1_23) hr
  · show Qpick Z pI1 h0 n0 _ s₁.heap _
    rw [e0]
    exact ⟨(by rw [own_i2c2]; simp [own_pick, hc5, hc13]), N0, rfl⟩
theorem pick (l : Launch) (Z : State) (a0 : Array Value) (hw : ∀ d ∈ tables_1, d.before a0 Z = true) (ws : List Jvm.Cond) (pI1 : Int32) (h0 : Heap) (n0 : Nat) (Z0 : n0 ≤ h0.size) :
    oM l yN0 method_2_code 2 (some .char) ws ({ frames := 0, cells := 0, slots := 0, locals := 0 } : Room) #[(.int pI1)] Z h0 (Qpick Z pI1 h0 n0) := by
  by_cases hc5 : (pI1 &&& (3 : Int32)) = (0 : Int32)
  · exact pick0 l Z a0 hw ws pI1 h0 n0 Z0  hc5
  · by_cases hc13 : (pI1 &&& (3 : Int32)) = (1 : Int32)
    · exact pick1 l Z a0 hw ws pI1 h0 n0 Z0  hc5 hc13
    · exact pick2 l Z a0 hw ws pI1 h0 n0 Z0  hc5 hc13
theorem d15_0 : decode method_3_code 0 = .ok (.iload_n 0, 1) := by decide +kernel
theorem d15_1 : decode method_3_code 1 = .ok (.bipush 71, 2) := by decide +kernel
theorem d15_3 : decode method_3_code 3 = .ok (.if_icmp .ne 5, 3) := by decide +kernel
theorem d15_6 : decode method_3_code 6 = .ok (.iconst 1, 1) := by decide +kernel
theorem d15_7 : decode method_3_code 7 = .ok (.ireturn, 1) := by decide +kernel
theorem ef_isg0 (m : MethodId) (pI1 : Int32) : entryFrame m #[(.int pI1)] 1 = mkF m 0 #[.val (.int pI1)] [] := by first | (simp [entryFrame, mkF, argsToLocals, Value.category]; done) | rfl
def Qisg (Z : State) (pI1 : Int32) (h0 : Heap) (n0 : Nat) (v : Option Value) (h : Heap) (L : List Loc) : Prop := v = some (.int (own_green pI1)) ∧ Fr n0 L ∧ h = h0
set_option maxRecDepth 65536 in
set_option maxHeartbeats 40000000 in
theorem isg0 (l : Launch) (Z : State) (a0 : Array Value) (hw : ∀ d ∈ tables_1, d.before a0 Z = true) (ws : List Jvm.Cond) (pI1 : Int32) (h0 : Heap) (n0 : Nat) (Z0 : n0 ≤ h0.size) (hc3 : pI1 = (71 : Int32)) :
    oM l yN1 method_3_code 1 (some .boolean) ws ({ frames := 0, cells := 0, slots := 0, locals := 0 } : Room) #[(.int pI1)] Z h0 (Qisg Z pI1 h0 n0) := by
  refine MetFree.of_bodySF (plainFor_of_name pn_0) hisR ?_
  intro p e s m args below meth c s₁ Bd hml0 hP hK
  obtain ⟨rfl, hZ, hh⟩ := hP
  have hx := Bd.exec
  have hby := Bd.bytes
  have hml : c.maxLocals = 1 := hml0
  have hown : s.vm.findClass "com/example/watchful_junction/watchfuljunction/importer/PhaseGreenPinLaw" = some m.cls := findClass_of_methodNamed Bd.named
  have hnm := (name_of_methodNamed Bd.named Bd.method).1
  have X0 : Stand p l e ({ frames := 0, cells := 0, slots := 0, locals := 0 } : Room) s m #[(.int pI1)] below meth c s₁ [] 0 0 := Stand.of_body Bd
  have e0 : s₁.heap = h0 := by rw [← hh, Bd.state]; rfl
  have N0 := Fr.nil n0
  obtain ⟨fs, hr, hrun, hended, hW, hsame⟩ := X0.leave (v := some (.int 1)) (fun h => by rw [Bd.returns] at h; cases h)
  refine ⟨_, _, castTop (ef_isg0 m pI1) ?_, hrun, hended, _, _, rfl, ?_, ⟨_, rfl⟩, hW, hsame.mono (by decide) (by decide)⟩
  · show oS p e below s₁ m 0 #[.val (.int pI1)] [] _
    refine XS.iloadN X0.here hx rfl (hb hby d15_0) rfl ?_
    refine XS.bipush X0.here hx rfl (hb hby d15_1) ?_
    refine XS.icmpNo X0.here hx rfl (hb hby d15_3) rfl (teq hc3).2 ?_
    refine XS.iconst X0.here hx rfl (hb hby d15_6) ?_
    exact retN X0 hx (t := .boolean) Bd.returns (by simp) (hb hby d15_7) hr
  · show Qisg Z pI1 h0 n0 _ s₁.heap _
    rw [e0]
    exact ⟨(by simp [own_green, hc3]), N0, rfl⟩
theorem d15_8 : decode method_3_code 8 = .ok (.iload_n 0, 1) := by decide +kernel
theorem d15_9 : decode method_3_code 9 = .ok (.bipush 103, 2) := by decide +kernel
theorem d15_11 : decode method_3_code 11 = .ok (.if_icmp .ne 5, 3) := by decide +kernel
theorem d15_14 : decode method_3_code 14 = .ok (.iconst 1, 1) := by decide +kernel
theorem d15_15 : decode method_3_code 15 = .ok (.ireturn, 1) := by decide +kernel
theorem ef_isg1 (m : MethodId) (pI1 : Int32) : entryFrame m #[(.int pI1)] 1 = mkF m 0 #[.val (.int pI1)] [] := by first | (simp [entryFrame, mkF, argsToLocals, Value.category]; done) | rfl
set_option maxRecDepth 65536 in
set_option maxHeartbeats 40000000 in
theorem isg1 (l : Launch) (Z : State) (a0 : Array Value) (hw : ∀ d ∈ tables_1, d.before a0 Z = true) (ws : List Jvm.Cond) (pI1 : Int32) (h0 : Heap) (n0 : Nat) (Z0 : n0 ≤ h0.size) (hc3 : ¬ (pI1 = (71 : Int32))) (hc11 : pI1 = (103 : Int32)) :
    oM l yN1 method_3_code 1 (some .boolean) ws ({ frames := 0, cells := 0, slots := 0, locals := 0 } : Room) #[(.int pI1)] Z h0 (Qisg Z pI1 h0 n0) := by
  refine MetFree.of_bodySF (plainFor_of_name pn_0) hisR ?_
  intro p e s m args below meth c s₁ Bd hml0 hP hK
  obtain ⟨rfl, hZ, hh⟩ := hP
  have hx := Bd.exec
  have hby := Bd.bytes
  have hml : c.maxLocals = 1 := hml0
  have hown : s.vm.findClass "com/example/watchful_junction/watchfuljunction/importer/PhaseGreenPinLaw" = some m.cls := findClass_of_methodNamed Bd.named
  have hnm := (name_of_methodNamed Bd.named Bd.method).1
  have X0 : Stand p l e ({ frames := 0, cells := 0, slots := 0, locals := 0 } : Room) s m #[(.int pI1)] below meth c s₁ [] 0 0 := Stand.of_body Bd
  have e0 : s₁.heap = h0 := by rw [← hh, Bd.state]; rfl
  have N0 := Fr.nil n0
  obtain ⟨fs, hr, hrun, hended, hW, hsame⟩ := X0.leave (v := some (.int 1)) (fun h => by rw [Bd.returns] at h; cases h)
  refine ⟨_, _, castTop (ef_isg1 m pI1) ?_, hrun, hended, _, _, rfl, ?_, ⟨_, rfl⟩, hW, hsame.mono (by decide) (by decide)⟩
  · show oS p e below s₁ m 0 #[.val (.int pI1)] [] _
    refine XS.iloadN X0.here hx rfl (hb hby d15_0) rfl ?_
    refine XS.bipush X0.here hx rfl (hb hby d15_1) ?_
    refine XS.icmpYes X0.here hx rfl (pc0 := 3) (pc' := 8) rfl (hb hby d15_3) rfl (feq hc3).2 (by decide) (by decide) ?_
    refine XS.iloadN X0.here hx rfl (hb hby d15_8) rfl ?_
    refine XS.bipush X0.here hx rfl (hb hby d15_9) ?_
    refine XS.icmpNo X0.here hx rfl (hb hby d15_11) rfl (teq hc11).2 ?_
    show oS p e below s₁ m 14 #[.val (.int pI1)] [] _
    refine XS.iconst X0.here hx rfl (hb hby d15_14) ?_
    exact retN X0 hx (t := .boolean) Bd.returns (by simp) (hb hby d15_15) hr
  · show Qisg Z pI1 h0 n0 _ s₁.heap _
    rw [e0]
    exact ⟨(by simp [own_green, hc11]), N0, rfl⟩
theorem d15_16 : decode method_3_code 16 = .ok (.iconst 0, 1) := by decide +kernel
theorem d15_17 : decode method_3_code 17 = .ok (.ireturn, 1) := by decide +kernel
theorem ef_isg2 (m : MethodId) (pI1 : Int32) : entryFrame m #[(.int pI1)] 1 = mkF m 0 #[.val (.int pI1)] [] := by first | (simp [entryFrame, mkF, argsToLocals, Value.category]; done) | rfl
set_option maxRecDepth 65536 in
set_option maxHeartbeats 40000000 in
theorem isg2 (l : Launch) (Z : State) (a0 : Array Value) (hw : ∀ d ∈ tables_1, d.before a0 Z = true) (ws : List Jvm.Cond) (pI1 : Int32) (h0 : Heap) (n0 : Nat) (Z0 : n0 ≤ h0.size) (hc3 : ¬ (pI1 = (71 : Int32))) (hc11 : ¬ (pI1 = (103 : Int32))) :
    oM l yN1 method_3_code 1 (some .boolean) ws ({ frames := 0, cells := 0, slots := 0, locals := 0 } : Room) #[(.int pI1)] Z h0 (Qisg Z pI1 h0 n0) := by
  refine MetFree.of_bodySF (plainFor_of_name pn_0) hisR ?_
  intro p e s m args below meth c s₁ Bd hml0 hP hK
  obtain ⟨rfl, hZ, hh⟩ := hP
  have hx := Bd.exec
  have hby := Bd.bytes
  have hml : c.maxLocals = 1 := hml0
  have hown : s.vm.findClass "com/example/watchful_junction/watchfuljunction/importer/PhaseGreenPinLaw" = some m.cls := findClass_of_methodNamed Bd.named
  have hnm := (name_of_methodNamed Bd.named Bd.method).1
  have X0 : Stand p l e ({ frames := 0, cells := 0, slots := 0, locals := 0 } : Room) s m #[(.int pI1)] below meth c s₁ [] 0 0 := Stand.of_body Bd
  have e0 : s₁.heap = h0 := by rw [← hh, Bd.state]; rfl
  have N0 := Fr.nil n0
  obtain ⟨fs, hr, hrun, hended, hW, hsame⟩ := X0.leave (v := some (.int 0)) (fun h => by rw [Bd.returns] at h; cases h)
  refine ⟨_, _, castTop (ef_isg2 m pI1) ?_, hrun, hended, _, _, rfl, ?_, ⟨_, rfl⟩, hW, hsame.mono (by decide) (by decide)⟩
  · show oS p e below s₁ m 0 #[.val (.int pI1)] [] _
    refine XS.iloadN X0.here hx rfl (hb hby d15_0) rfl ?_
    refine XS.bipush X0.here hx rfl (hb hby d15_1) ?_
    refine XS.icmpYes X0.here hx rfl (pc0 := 3) (pc' := 8) rfl (hb hby d15_3) rfl (feq hc3).2 (by decide) (by decide) ?_
    refine XS.iloadN X0.here hx rfl (hb hby d15_8) rfl ?_
    refine XS.bipush X0.here hx rfl (hb hby d15_9) ?_
    refine XS.icmpYes X0.here hx rfl (pc0 := 11) (pc' := 16) rfl (hb hby d15_11) rfl (feq hc11).2 (by decide) (by decide) ?_
    show oS p e below s₁ m 16 #[.val (.int pI1)] [] _
    refine XS.iconst X0.here hx rfl (hb hby d15_16) ?_
    exact retN X0 hx (t := .boolean) Bd.returns (by simp) (hb hby d15_17) hr
  · show Qisg Z pI1 h0 n0 _ s₁.heap _
    rw [e0]
    exact ⟨(by simp [own_green, hc3, hc11]), N0, rfl⟩
theorem isg (l : Launch) (Z : State) (a0 : Array Value) (hw : ∀ d ∈ tables_1, d.before a0 Z = true) (ws : List Jvm.Cond) (pI1 : Int32) (h0 : Heap) (n0 : Nat) (Z0 : n0 ≤ h0.size) :
    oM l yN1 method_3_code 1 (some .boolean) ws ({ frames := 0, cells := 0, slots := 0, locals := 0 } : Room) #[(.int pI1)] Z h0 (Qisg Z pI1 h0 n0) := by
  by_cases hc3 : pI1 = (71 : Int32)
  · exact isg0 l Z a0 hw ws pI1 h0 n0 Z0  hc3
  · by_cases hc11 : pI1 = (103 : Int32)
    · exact isg1 l Z a0 hw ws pI1 h0 n0 Z0  hc3 hc11
    · exact isg2 l Z a0 hw ws pI1 h0 n0 Z0  hc3 hc11
theorem d6_0 : decode jdk_52_method_21_code 0 = .ok (.iconst 0, 1) := by decide +kernel
theorem d6_1 : decode jdk_52_method_21_code 1 = .ok (.istore 5, 2) := by decide +kernel
theorem d6_3 : decode jdk_52_method_21_code 3 = .ok (.iload 5, 2) := by decide +kernel
theorem d6_5 : decode jdk_52_method_21_code 5 = .ok (.iload 4, 2) := by decide +kernel
theorem d6_7 : decode jdk_52_method_21_code 7 = .ok (.if_icmp .ge 37, 3) := by decide +kernel
theorem d6_10 : decode jdk_52_method_21_code 10 = .ok (.aload_n 0, 1) := by decide +kernel
theorem d6_11 : decode jdk_52_method_21_code 11 = .ok (.iload_n 1, 1) := by decide +kernel
theorem d6_12 : decode jdk_52_method_21_code 12 = .ok (.caload, 1) := by decide +kernel
theorem d6_13 : decode jdk_52_method_21_code 13 = .ok (.istore 6, 2) := by decide +kernel
theorem d6_15 : decode jdk_52_method_21_code 15 = .ok (.iload 6, 2) := by decide +kernel
theorem d6_17 : decode jdk_52_method_21_code 17 = .ok (.sipush 255, 3) := by decide +kernel
theorem d6_20 : decode jdk_52_method_21_code 20 = .ok (.if_icmp .le 6, 3) := by decide +kernel
theorem d6_23 : decode jdk_52_method_21_code 23 = .ok (.iload 5, 2) := by decide +kernel
theorem d6_25 : decode jdk_52_method_21_code 25 = .ok (.ireturn, 1) := by decide +kernel
theorem pn_1 : plainName "java/lang/StringUTF16" = true := by first | (simp [plainName, overriddenIn]; done) | decide +kernel
theorem ef_cmp5_0 (m : MethodId) (pR1 : Addr) (pR2 : Addr) : entryFrame m #[(.ref pR1), (.int 0), (.ref pR2), (.int 0), (.int 4)] 7 = mkF m 0 #[.val (.ref pR1), .val (.int 0), .val (.ref pR2), .val (.int 0), .val (.int 4), .unset, .unset] [] := by first | (simp [entryFrame, mkF, argsToLocals, Value.category]; done) | rfl
def Qcmp5_0 (Z : State) (pR1 : Addr) (pR2 : Addr) (pI801 : Int32) (pI802 : Int32) (pI803 : Int32) (pI804 : Int32) (pK3 : ClassId) (h0 : Heap) (n0 : Nat) (v : Option Value) (h : Heap) (L : List Loc) : Prop := v = some (.int 0) ∧ Fr n0 L ∧ h = h0
set_option maxRecDepth 65536 in
set_option maxHeartbeats 40000000 in
theorem cmp5_0 (l : Launch) (Z : State) (a0 : Array Value) (hw : ∀ d ∈ tables_1, d.before a0 Z = true) (ws : List Jvm.Cond) (pR1 : Addr) (pR2 : Addr) (pI801 : Int32) (pI802 : Int32) (pI803 : Int32) (pI804 : Int32) (pK3 : ClassId) (h0 : Heap) (n0 : Nat) (Z0 : n0 ≤ h0.size) (V_pR1 : Arv Z h0 pR1 pK3 .char (4 : Int32) [(.int pI801), (.int pI802), (.int pI803), (.int pI804)] (.int (0 : Int32))) (hc20 : (255 : Int32) < pI801) :
    oM l yN2 jdk_52_method_21_code 7 (some .int) ws ({ frames := 0, cells := 0, slots := 0, locals := 0 } : Room) #[(.ref pR1), (.int 0), (.ref pR2), (.int 0), (.int 4)] Z h0 (Qcmp5_0 Z pR1 pR2 pI801 pI802 pI803 pI804 pK3 h0 n0) := by
  refine MetFree.of_bodySF (plainFor_of_name pn_1) hisR ?_
  intro p e s m args below meth c s₁ Bd hml0 hP hK
  obtain ⟨rfl, hZ, hh⟩ := hP
  have hx := Bd.exec
  have hby := Bd.bytes
  have hml : c.maxLocals = 7 := hml0
  have hown : s.vm.findClass "java/lang/StringUTF16" = some m.cls := findClass_of_methodNamed Bd.named
  have hnm := (name_of_methodNamed Bd.named Bd.method).1
  have X0 : Stand p l e ({ frames := 0, cells := 0, slots := 0, locals := 0 } : Room) s m #[(.ref pR1), (.int 0), (.ref pR2), (.int 0), (.int 4)] below meth c s₁ [] 0 0 := Stand.of_body Bd
  have e0 : s₁.heap = h0 := by rw [← hh, Bd.state]; rfl
  have N0 := Fr.nil n0
  obtain ⟨clq4, Arq4, Akq4, Asq4, Anq4, Ahq4, Agq4⟩ := id V_pR1
  have hin5 : ¬ ((0 : Int32) < 0 ∨ clq4.slots.size ≤ ((0 : Int32)).toNatClampNeg) := inb_of Asq4 ⟨by decide, by decide⟩
  obtain ⟨fs, hr, hrun, hended, hW, hsame⟩ := X0.leave (v := some (.int 0)) (fun h => by rw [Bd.returns] at h; cases h)
  refine ⟨_, _, castTop (ef_cmp5_0 m pR1 pR2) ?_, hrun, hended, _, _, rfl, ?_, ⟨_, rfl⟩, hW, hsame.mono (by decide) (by decide)⟩
  · show oS p e below s₁ m 0 #[.val (.ref pR1), .val (.int 0), .val (.ref pR2), .val (.int 0), .val (.int 4), .unset, .unset] [] _
    refine XS.iconst X0.here hx rfl (hb hby d6_0) ?_
    refine XS.istore X0.here hx rfl (hb hby d6_1) rfl (l' := #[.val (.ref pR1), .val (.int 0), .val (.ref pR2), .val (.int 0), .val (.int 4), .val (.int 0), .unset]) rfl ?_
    refine XS.iload X0.here hx rfl (hb hby d6_3) rfl ?_
    refine XS.iload X0.here hx rfl (hb hby d6_5) rfl ?_
    refine XS.icmpNo X0.here hx rfl (hb hby d6_7) rfl (tlt (by decide : (0 : Int32) < (4 : Int32))).2.1 ?_
    refine XS.aloadN X0.here hx rfl (hb hby d6_10) rfl rfl ?_
    show oS p e below s₁ m 11 #[.val (.ref pR1), .val (.int 0), .val (.ref pR2), .val (.int 0), .val (.int 4), .val (.int 0), .unset] [(.ref pR1)] _
    refine XS.iloadN X0.here hx rfl (hb hby d6_11) rfl ?_
    refine X0.caload hx (j := (0 : Int32)) (v := (.int pI801)) (by rw [e0]; exact Arq4.1) (State.isArrayOf_alike hZ.alike Arq4.2.1) Arq4.2.2 hin5 (Has.at Ahq4 hin5 rfl) (g := (mkF m 12 #[.val (.ref pR1), .val (.int 0), .val (.ref pR2), .val (.int 0), .val (.int 4), .val (.int 0), .unset] [(.int 0), (.ref pR1)])) rfl rfl (hb hby d6_12) _ ?_
    refine XS.istore X0.here hx rfl (hb hby d6_13) rfl (l' := #[.val (.ref pR1), .val (.int 0), .val (.ref pR2), .val (.int 0), .val (.int 4), .val (.int 0), .val (.int pI801)]) rfl ?_
    refine XS.iload X0.here hx rfl (hb hby d6_15) rfl ?_
    refine XS.sipush X0.here hx rfl (hb hby d6_17) ?_
    refine XS.icmpNo X0.here hx rfl (hb hby d6_20) rfl (tlt hc20).2.2.2 ?_
    show oS p e below s₁ m 23 #[.val (.ref pR1), .val (.int 0), .val (.ref pR2), .val (.int 0), .val (.int 4), .val (.int 0), .val (.int pI801)] [] _
    refine XS.iload X0.here hx rfl (hb hby d6_23) rfl ?_
    exact retI X0 hx Bd.returns (hb hby d6_25) hr
  · show Qcmp5_0 Z pR1 pR2 pI801 pI802 pI803 pI804 pK3 h0 n0 _ s₁.heap _
    rw [e0]
    exact ⟨rfl, N0, rfl⟩
theorem d6_26 : decode jdk_52_method_21_code 26 = .ok (.aload_n 2, 1) := by decide +kernel
theorem d6_27 : decode jdk_52_method_21_code 27 = .ok (.iload_n 3, 1) := by decide +kernel
theorem d6_28 : decode jdk_52_method_21_code 28 = .ok (.iload 6, 2) := by decide +kernel
theorem d6_30 : decode jdk_52_method_21_code 30 = .ok (.i2b, 1) := by decide +kernel
theorem d6_31 : decode jdk_52_method_21_code 31 = .ok (.bastore, 1) := by decide +kernel
theorem d6_32 : decode jdk_52_method_21_code 32 = .ok (.iinc 1 1, 3) := by decide +kernel
theorem d6_35 : decode jdk_52_method_21_code 35 = .ok (.iinc 3 1, 3) := by decide +kernel
theorem d6_38 : decode jdk_52_method_21_code 38 = .ok (.iinc 5 1, 3) := by decide +kernel
theorem d6_41 : decode jdk_52_method_21_code 41 = .ok (.goto (-38), 3) := by decide +kernel
theorem ef_cmp5_1 (m : MethodId) (pR1 : Addr) (pR2 : Addr) : entryFrame m #[(.ref pR1), (.int 0), (.ref pR2), (.int 0), (.int 4)] 7 = mkF m 0 #[.val (.ref pR1), .val (.int 0), .val (.ref pR2), .val (.int 0), .val (.int 4), .unset, .unset] [] := by first | (simp [entryFrame, mkF, argsToLocals, Value.category]; done) | rfl
def Qcmp5_1 (Z : State) (pR1 : Addr) (pR2 : Addr) (pI801 : Int32) (pI802 : Int32) (pI803 : Int32) (pI804 : Int32) (pK3 : ClassId) (pK6 : ClassId) (h0 : Heap) (n0 : Nat) (v : Option Value) (h : Heap) (L : List Loc) : Prop := v = some (.int 1) ∧ Fr n0 L ∧ Keep h0 h [pR2] ∧ Arv Z h pR2 pK6 .byte (4 : Int32) [(.int (pI801.toInt8.toInt32)), (.int 0), (.int 0), (.int 0)] (.int (0 : Int32))
set_option maxRecDepth 65536 in
set_option maxHeartbeats 40000000 in
theorem cmp5_1 (l : Launch) (Z : State) (a0 : Array Value) (hw : ∀ d ∈ tables_1, d.before a0 Z = true) (ws : List Jvm.Cond) (pR1 : Addr) (pR2 : Addr) (pI801 : Int32) (pI802 : Int32) (pI803 : Int32) (pI804 : Int32) (pK3 : ClassId) (pK6 : ClassId) (h0 : Heap) (n0 : Nat) (Z0 : n0 ≤ h0.size) (V_pR1 : Arv Z h0 pR1 pK3 .char (4 : Int32) [(.int pI801), (.int pI802), (.int pI803), (.int pI804)] (.int (0 : Int32))) (g_pR2 : n0 ≤ pR2) (V_pR2 : Arv Z h0 pR2 pK6 .byte (4 : Int32) [(.int 0), (.int 0), (.int 0), (.int 0)] (.int (0 : Int32))) (ne_pR1_pR2 : pR1 ≠ pR2) (hc20 : ¬ ((255 : Int32) < pI801)) (hc20' : (255 : Int32) < pI802) :
    oM l yN2 jdk_52_method_21_code 7 (some .int) ws ({ frames := 0, cells := 0, slots := 0, locals := 0 } : Room) #[(.ref pR1), (.int 0), (.ref pR2), (.int 0), (.int 4)] Z h0 (Qcmp5_1 Z pR1 pR2 pI801 pI802 pI803 pI804 pK3 pK6 h0 n0) := by
  refine MetFree.of_bodySF (plainFor_of_name pn_1) hisR ?_
  intro p e s m args below meth c s₁ Bd hml0 hP hK
  obtain ⟨rfl, hZ, hh⟩ := hP
  have hx := Bd.exec
  have hby := Bd.bytes
  have hml : c.maxLocals = 7 := hml0
  have hown : s.vm.findClass "java/lang/StringUTF16" = some m.cls := findClass_of_methodNamed Bd.named
  have hnm := (name_of_methodNamed Bd.named Bd.method).1
  have X0 : Stand p l e ({ frames := 0, cells := 0, slots := 0, locals := 0 } : Room) s m #[(.ref pR1), (.int 0), (.ref pR2), (.int 0), (.int 4)] below meth c s₁ [] 0 0 := Stand.of_body Bd
  have e0 : s₁.heap = h0 := by rw [← hh, Bd.state]; rfl
  have N0 := Fr.nil n0
  obtain ⟨clq4, Arq4, Akq4, Asq4, Anq4, Ahq4, Agq4⟩ := id V_pR1
  have hin5 : ¬ ((0 : Int32) < 0 ∨ clq4.slots.size ≤ ((0 : Int32)).toNatClampNeg) := inb_of Asq4 ⟨by decide, by decide⟩
  obtain ⟨clq7, Arq7, Akq7, Asq7, Anq7, Ahq7, Agq7⟩ := id V_pR2
  have hin8 : ¬ ((0 : Int32) < 0 ∨ clq7.slots.size ≤ ((0 : Int32)).toNatClampNeg) := inb_of Asq7 ⟨by decide, by decide⟩
  obtain ⟨T9, h9, X9, e9, W9, st9⟩ := stB X0 hx hZ e0 Arq7 (j := (0 : Int32)) hin8 (g := (mkF m 31 #[.val (.ref pR1), .val (.int 0), .val (.ref pR2), .val (.int 0), .val (.int 4), .val (.int 0), .val (.int pI801)] [(.int (pI801.toInt8.toInt32)), (.int 0), (.ref pR2)])) rfl rfl (hb hby d6_31)
  rw [own_bb] at W9
  have K10 : Keep h0 h9 [pR2] := (Keep.refl h0 [pR2]).wr W9 (Or.inl (List.mem_of_getElem? (i := 0) rfl))
  have Z11 : n0 ≤ h9.size := (Nat.le_trans Z0 (Keep.of_wr W9).1)
  have N9 := Fr.snoc X9 N0 g_pR2
  obtain ⟨Lh9, X9, N9⟩ := own_hide X9 N9
  have V9 : Arv Z h9 pR2 pK6 .byte (4 : Int32) [(.int (pI801.toInt8.toInt32)), (.int 0), (.int 0), (.int 0)] (.int (0 : Int32)) := Arv.set Arq7 Akq7 Asq7 Anq7 Ahq7 Agq7 (by first | rfl | exact fits_nar_byte _) W9 0 rfl (Nat.le_of_ble_eq_true rfl)
  have c13 : Arv Z h9 pR1 pK3 .char (4 : Int32) [(.int pI801), (.int pI802), (.int pI803), (.int pI804)] (.int (0 : Int32)) := V_pR1.other W9 ne_pR1_pR2
  obtain ⟨clq12, Arq12, Akq12, Asq12, Anq12, Ahq12, Agq12⟩ := id c13
  have hin14 : ¬ ((1 : Int32) < 0 ∨ clq12.slots.size ≤ ((1 : Int32)).toNatClampNeg) := inb_of Asq12 ⟨by decide, by decide⟩
  obtain ⟨fs, hr, hrun, hended, hW, hsame⟩ := X9.leave (v := some (.int 1)) (fun h => by rw [Bd.returns] at h; cases h)
  refine ⟨_, _, castTop (ef_cmp5_1 m pR1 pR2) ?_, hrun, hended, _, _, rfl, ?_, ⟨_, rfl⟩, hW, hsame.mono (by decide) (by decide)⟩
  · show oS p e below s₁ m 0 #[.val (.ref pR1), .val (.int 0), .val (.ref pR2), .val (.int 0), .val (.int 4), .unset, .unset] [] _
    refine XS.iconst X0.here hx rfl (hb hby d6_0) ?_
    refine XS.istore X0.here hx rfl (hb hby d6_1) rfl (l' := #[.val (.ref pR1), .val (.int 0), .val (.ref pR2), .val (.int 0), .val (.int 4), .val (.int 0), .unset]) rfl ?_
    refine XS.iload X0.here hx rfl (hb hby d6_3) rfl ?_
    refine XS.iload X0.here hx rfl (hb hby d6_5) rfl ?_
    refine XS.icmpNo X0.here hx rfl (hb hby d6_7) rfl (tlt (by decide : (0 : Int32) < (4 : Int32))).2.1 ?_
    refine XS.aloadN X0.here hx rfl (hb hby d6_10) rfl rfl ?_
    show oS p e below s₁ m 11 #[.val (.ref pR1), .val (.int 0), .val (.ref pR2), .val (.int 0), .val (.int 4), .val (.int 0), .unset] [(.ref pR1)] _
    refine XS.iloadN X0.here hx rfl (hb hby d6_11) rfl ?_
    refine X0.caload hx (j := (0 : Int32)) (v := (.int pI801)) (by rw [e0]; exact Arq4.1) (State.isArrayOf_alike hZ.alike Arq4.2.1) Arq4.2.2 hin5 (Has.at Ahq4 hin5 rfl) (g := (mkF m 12 #[.val (.ref pR1), .val (.int 0), .val (.ref pR2), .val (.int 0), .val (.int 4), .val (.int 0), .unset] [(.int 0), (.ref pR1)])) rfl rfl (hb hby d6_12) _ ?_
    refine XS.istore X0.here hx rfl (hb hby d6_13) rfl (l' := #[.val (.ref pR1), .val (.int 0), .val (.ref pR2), .val (.int 0), .val (.int 4), .val (.int 0), .val (.int pI801)]) rfl ?_
    refine XS.iload X0.here hx rfl (hb hby d6_15) rfl ?_
    refine XS.sipush X0.here hx rfl (hb hby d6_17) ?_
    refine XS.icmpYes X0.here hx rfl (pc0 := 20) (pc' := 26) rfl (hb hby d6_20) rfl (flt hc20).2.2.2 (by decide) (by decide) ?_
    show oS p e below s₁ m 26 #[.val (.ref pR1), .val (.int 0), .val (.ref pR2), .val (.int 0), .val (.int 4), .val (.int 0), .val (.int pI801)] [] _
    refine XS.aloadN X0.here hx rfl (hb hby d6_26) rfl rfl ?_
    refine XS.iloadN X0.here hx rfl (hb hby d6_27) rfl ?_
    refine XS.iload X0.here hx rfl (hb hby d6_28) rfl ?_
    refine XS.i2b X0.here hx rfl (hb hby d6_30) rfl ?_
    refine st9 _ ?_
    refine XS.iinc X9.here hx rfl (hb hby d6_32) rfl (l' := #[.val (.ref pR1), .val (.int 1), .val (.ref pR2), .val (.int 0), .val (.int 4), .val (.int 0), .val (.int pI801)]) rfl ?_
    show oS p e below T9 m 35 #[.val (.ref pR1), .val (.int 1), .val (.ref pR2), .val (.int 0), .val (.int 4), .val (.int 0), .val (.int pI801)] [] _
    refine XS.iinc X9.here hx rfl (hb hby d6_35) rfl (l' := #[.val (.ref pR1), .val (.int 1), .val (.ref pR2), .val (.int 1), .val (.int 4), .val (.int 0), .val (.int pI801)]) rfl ?_
    refine XS.iinc X9.here hx rfl (hb hby d6_38) rfl (l' := #[.val (.ref pR1), .val (.int 1), .val (.ref pR2), .val (.int 1), .val (.int 4), .val (.int 1), .val (.int pI801)]) rfl ?_
    refine XS.goto X9.here hx rfl (pc0 := 41) (pc' := 3) rfl (hb hby d6_41) (by decide) (by decide) ?_
    refine XS.iload X9.here hx rfl (hb hby d6_3) rfl ?_
    refine XS.iload X9.here hx rfl (hb hby d6_5) rfl ?_
    refine XS.icmpNo X9.here hx rfl (hb hby d6_7) rfl (tlt (by decide : (1 : Int32) < (4 : Int32))).2.1 ?_
    show oS p e below T9 m 10 #[.val (.ref pR1), .val (.int 1), .val (.ref pR2), .val (.int 1), .val (.int 4), .val (.int 1), .val (.int pI801)] [] _
    refine XS.aloadN X9.here hx rfl (hb hby d6_10) rfl rfl ?_
    refine XS.iloadN X9.here hx rfl (hb hby d6_11) rfl ?_
    refine X9.caload hx (j := (1 : Int32)) (v := (.int pI802)) (by rw [e9]; exact Arq12.1) (State.isArrayOf_alike hZ.alike Arq12.2.1) Arq12.2.2 hin14 (Has.at Ahq12 hin14 rfl) (g := (mkF m 12 #[.val (.ref pR1), .val (.int 1), .val (.ref pR2), .val (.int 1), .val (.int 4), .val (.int 1), .val (.int pI801)] [(.int 1), (.ref pR1)])) rfl rfl (hb hby d6_12) _ ?_
    refine XS.istore X9.here hx rfl (hb hby d6_13) rfl (l' := #[.val (.ref pR1), .val (.int 1), .val (.ref pR2), .val (.int 1), .val (.int 4), .val (.int 1), .val (.int pI802)]) rfl ?_
    refine XS.iload X9.here hx rfl (hb hby d6_15) rfl ?_
    refine XS.sipush X9.here hx rfl (hb hby d6_17) ?_
    show oS p e below T9 m 20 #[.val (.ref pR1), .val (.int 1), .val (.ref pR2), .val (.int 1), .val (.int 4), .val (.int 1), .val (.int pI802)] [(.int 255), (.int pI802)] _
    refine XS.icmpNo X9.here hx rfl (hb hby d6_20) rfl (tlt hc20').2.2.2 ?_
    refine XS.iload X9.here hx rfl (hb hby d6_23) rfl ?_
    exact retI X9 hx Bd.returns (hb hby d6_25) hr
  · show Qcmp5_1 Z pR1 pR2 pI801 pI802 pI803 pI804 pK3 pK6 h0 n0 _ T9.heap _
    rw [e9]
    exact ⟨rfl, N9, K10, V9⟩
theorem ef_cmp5_2 (m : MethodId) (pR1 : Addr) (pR2 : Addr) : entryFrame m #[(.ref pR1), (.int 0), (.ref pR2), (.int 0), (.int 4)] 7 = mkF m 0 #[.val (.ref pR1), .val (.int 0), .val (.ref pR2), .val (.int 0), .val (.int 4), .unset, .unset] [] := by first | (simp [entryFrame, mkF, argsToLocals, Value.category]; done) | rfl
def Qcmp5_2 (Z : State) (pR1 : Addr) (pR2 : Addr) (pI801 : Int32) (pI802 : Int32) (pI803 : Int32) (pI804 : Int32) (pK3 : ClassId) (pK6 : ClassId) (h0 : Heap) (n0 : Nat) (v : Option Value) (h : Heap) (L : List Loc) : Prop := v = some (.int 2) ∧ Fr n0 L ∧ Keep h0 h [pR2] ∧ Arv Z h pR2 pK6 .byte (4 : Int32) [(.int (pI801.toInt8.toInt32)), (.int (pI802.toInt8.toInt32)), (.int 0), (.int 0)] (.int (0 : Int32))
set_option maxRecDepth 65536 in
set_option maxHeartbeats 40000000 in
theorem cmp5_2 (l : Launch) (Z : State) (a0 : Array Value) (hw : ∀ d ∈ tables_1, d.before a0 Z = true) (ws : List Jvm.Cond) (pR1 : Addr) (pR2 : Addr) (pI801 : Int32) (pI802 : Int32) (pI803 : Int32) (pI804 : Int32) (pK3 : ClassId) (pK6 : ClassId) (h0 : Heap) (n0 : Nat) (Z0 : n0 ≤ h0.size) (V_pR1 : Arv Z h0 pR1 pK3 .char (4 : Int32) [(.int pI801), (.int pI802), (.int pI803), (.int pI804)] (.int (0 : Int32))) (g_pR2 : n0 ≤ pR2) (V_pR2 : Arv Z h0 pR2 pK6 .byte (4 : Int32) [(.int 0), (.int 0), (.int 0), (.int 0)] (.int (0 : Int32))) (ne_pR1_pR2 : pR1 ≠ pR2) (hc20 : ¬ ((255 : Int32) < pI801)) (hc20' : ¬ ((255 : Int32) < pI802)) (hc20'' : (255 : Int32) < pI803) :
    oM l yN2 jdk_52_method_21_code 7 (some .int) ws ({ frames := 0, cells := 0, slots := 0, locals := 0 } : Room) #[(.ref pR1), (.int 0), (.ref pR2), (.int 0), (.int 4)] Z h0 (Qcmp5_2 Z pR1 pR2 pI801 pI802 pI803 pI804 pK3 pK6 h0 n0) := by
  refine MetFree.of_bodySF (plainFor_of_name pn_1) hisR ?_
  intro p e s m args below meth c s₁ Bd hml0 hP hK
  obtain ⟨rfl, hZ, hh⟩ := hP
  have hx := Bd.exec
  have hby := Bd.bytes
  have hml : c.maxLocals = 7 := hml0
  have hown : s.vm.findClass "java/lang/StringUTF16" = some m.cls := findClass_of_methodNamed Bd.named
  have hnm := (name_of_methodNamed Bd.named Bd.method).1
  have X0 : Stand p l e ({ frames := 0, cells := 0, slots := 0, locals := 0 } : Room) s m #[(.ref pR1), (.int 0), (.ref pR2), (.int 0), (.int 4)] below meth c s₁ [] 0 0 := Stand.of_body Bd
  have e0 : s₁.heap = h0 := by rw [← hh, Bd.state]; rfl
  have N0 := Fr.nil n0
  obtain ⟨clq4, Arq4, Akq4, Asq4, Anq4, Ahq4, Agq4⟩ := id V_pR1
  have hin5 : ¬ ((0 : Int32) < 0 ∨ clq4.slots.size ≤ ((0 : Int32)).toNatClampNeg) := inb_of Asq4 ⟨by decide, by decide⟩
  obtain ⟨clq7, Arq7, Akq7, Asq7, Anq7, Ahq7, Agq7⟩ := id V_pR2
  have hin8 : ¬ ((0 : Int32) < 0 ∨ clq7.slots.size ≤ ((0 : Int32)).toNatClampNeg) := inb_of Asq7 ⟨by decide, by decide⟩
  obtain ⟨T9, h9, X9, e9, W9, st9⟩ := stB X0 hx hZ e0 Arq7 (j := (0 : Int32)) hin8 (g := (mkF m 31 #[.val (.ref pR1), .val (.int 0), .val (.ref pR2), .val (.int 0), .val (.int 4), .val (.int 0), .val (.int pI801)] [(.int (pI801.toInt8.toInt32)), (.int 0), (.ref pR2)])) rfl rfl (hb hby d6_31)
  rw [own_bb] at W9
  have K10 : Keep h0 h9 [pR2] := (Keep.refl h0 [pR2]).wr W9 (Or.inl (List.mem_of_getElem? (i := 0) rfl))
  have Z11 : n0 ≤ h9.size := (Nat.le_trans Z0 (Keep.of_wr W9).1)
  have N9 := Fr.snoc X9 N0 g_pR2
  obtain ⟨Lh9, X9, N9⟩ := own_hide X9 N9
  have V9 : Arv Z h9 pR2 pK6 .byte (4 : Int32) [(.int (pI801.toInt8.toInt32)), (.int 0), (.int 0), (.int 0)] (.int (0 : Int32)) := Arv.set Arq7 Akq7 Asq7 Anq7 Ahq7 Agq7 (by first | rfl | exact fits_nar_byte _) W9 0 rfl (Nat.le_of_ble_eq_true rfl)
  have c13 : Arv Z h9 pR1 pK3 .char (4 : Int32) [(.int pI801), (.int pI802), (.int pI803), (.int pI804)] (.int (0 : Int32)) := V_pR1.other W9 ne_pR1_pR2
  obtain ⟨clq12, Arq12, Akq12, Asq12, Anq12, Ahq12, Agq12⟩ := id c13
  have hin14 : ¬ ((1 : Int32) < 0 ∨ clq12.slots.size ≤ ((1 : Int32)).toNatClampNeg) := inb_of Asq12 ⟨by decide, by decide⟩
  obtain ⟨clq15, Arq15, Akq15, Asq15, Anq15, Ahq15, Agq15⟩ := id V9
  have hin16 : ¬ ((1 : Int32) < 0 ∨ clq15.slots.size ≤ ((1 : Int32)).toNatClampNeg) := inb_of Asq15 ⟨by decide, by decide⟩
  obtain ⟨T17, h17, X17, e17, W17, st17⟩ := stB X9 hx hZ e9 Arq15 (j := (1 : Int32)) hin16 (g := (mkF m 31 #[.val (.ref pR1), .val (.int 1), .val (.ref pR2), .val (.int 1), .val (.int 4), .val (.int 1), .val (.int pI802)] [(.int (pI802.toInt8.toInt32)), (.int 1), (.ref pR2)])) rfl rfl (hb hby d6_31)
  rw [own_bb] at W17
  have K18 : Keep h0 h17 [pR2] := K10.wr W17 (Or.inl (List.mem_of_getElem? (i := 0) rfl))
  have Z19 : n0 ≤ h17.size := (Nat.le_trans Z11 (Keep.of_wr W17).1)
  have N17 := Fr.snoc X17 N9 g_pR2
  obtain ⟨Lh17, X17, N17⟩ := own_hide X17 N17
  have V17 : Arv Z h17 pR2 pK6 .byte (4 : Int32) [(.int (pI801.toInt8.toInt32)), (.int (pI802.toInt8.toInt32)), (.int 0), (.int 0)] (.int (0 : Int32)) := Arv.set Arq15 Akq15 Asq15 Anq15 Ahq15 Agq15 (by first | rfl | exact fits_nar_byte _) W17 1 rfl (Nat.le_of_ble_eq_true rfl)
  have c21 : Arv Z h17 pR1 pK3 .char (4 : Int32) [(.int pI801), (.int pI802), (.int pI803), (.int pI804)] (.int (0 : Int32)) := c13.other W17 ne_pR1_pR2
  obtain ⟨clq20, Arq20, Akq20, Asq20, Anq20, Ahq20, Agq20⟩ := id c21
  have hin22 : ¬ ((2 : Int32) < 0 ∨ clq20.slots.size ≤ ((2 : Int32)).toNatClampNeg) := inb_of Asq20 ⟨by decide, by decide⟩
  obtain ⟨fs, hr, hrun, hended, hW, hsame⟩ := X17.leave (v := some (.int 2)) (fun h => by rw [Bd.returns] at h; cases h)
  refine ⟨_, _, castTop (ef_cmp5_2 m pR1 pR2) ?_, hrun, hended, _, _, rfl, ?_, ⟨_, rfl⟩, hW, hsame.mono (by decide) (by decide)⟩
  · show oS p e below s₁ m 0 #[.val (.ref pR1), .val (.int 0), .val (.ref pR2), .val (.int 0), .val (.int 4), .unset, .unset] [] _
    refine XS.iconst X0.here hx rfl (hb hby d6_0) ?_
    refine XS.istore X0.here hx rfl (hb hby d6_1) rfl (l' := #[.val (.ref pR1), .val (.int 0), .val (.ref pR2), .val (.int 0), .val (.int 4), .val (.int 0), .unset]) rfl ?_
    refine XS.iload X0.here hx rfl (hb hby d6_3) rfl ?_
    refine XS.iload X0.here hx rfl (hb hby d6_5) rfl ?_
    refine XS.icmpNo X0.here hx rfl (hb hby d6_7) rfl (tlt (by decide : (0 : Int32) < (4 : Int32))).2.1 ?_
    refine XS.aloadN X0.here hx rfl (hb hby d6_10) rfl rfl ?_
    show oS p e below s₁ m 11 #[.val (.ref pR1), .val (.int 0), .val (.ref pR2), .val (.int 0), .val (.int 4), .val (.int 0), .unset] [(.ref pR1)] _
    refine XS.iloadN X0.here hx rfl (hb hby d6_11) rfl ?_
    refine X0.caload hx (j := (0 : Int32)) (v := (.int pI801)) (by rw [e0]; exact Arq4.1) (State.isArrayOf_alike hZ.alike Arq4.2.1) Arq4.2.2 hin5 (Has.at Ahq4 hin5 rfl) (g := (mkF m 12 #[.val (.ref pR1), .val (.int 0), .val (.ref pR2), .val (.int 0), .val (.int 4), .val (.int 0), .unset] [(.int 0), (.ref pR1)])) rfl rfl (hb hby d6_12) _ ?_
    refine XS.istore X0.here hx rfl (hb hby d6_13) rfl (l' := #[.val (.ref pR1), .val (.int 0), .val (.ref pR2), .val (.int 0), .val (.int 4), .val (.int 0), .val (.int pI801)]) rfl ?_
    refine XS.iload X0.here hx rfl (hb hby d6_15) rfl ?_
    refine XS.sipush X0.here hx rfl (hb hby d6_17) ?_
    refine XS.icmpYes X0.here hx rfl (pc0 := 20) (pc' := 26) rfl (hb hby d6_20) rfl (flt hc20).2.2.2 (by decide) (by decide) ?_
    show oS p e below s₁ m 26 #[.val (.ref pR1), .val (.int 0), .val (.ref pR2), .val (.int 0), .val (.int 4), .val (.int 0), .val (.int pI801)] [] _
    refine XS.aloadN X0.here hx rfl (hb hby d6_26) rfl rfl ?_
    refine XS.iloadN X0.here hx rfl (hb hby d6_27) rfl ?_
    refine XS.iload X0.here hx rfl (hb hby d6_28) rfl ?_
    refine XS.i2b X0.here hx rfl (hb hby d6_30) rfl ?_
    refine st9 _ ?_
    refine XS.iinc X9.here hx rfl (hb hby d6_32) rfl (l' := #[.val (.ref pR1), .val (.int 1), .val (.ref pR2), .val (.int 0), .val (.int 4), .val (.int 0), .val (.int pI801)]) rfl ?_
    show oS p e below T9 m 35 #[.val (.ref pR1), .val (.int 1), .val (.ref pR2), .val (.int 0), .val (.int 4), .val (.int 0), .val (.int pI801)] [] _
    refine XS.iinc X9.here hx rfl (hb hby d6_35) rfl (l' := #[.val (.ref pR1), .val (.int 1), .val (.ref pR2), .val (.int 1), .val (.int 4), .val (.int 0), .val (.int pI801)]) rfl ?_
    refine XS.iinc X9.here hx rfl (hb hby d6_38) rfl (l' := #[.val (.ref pR1), .val (.int 1), .val (.ref pR2), .val (.int 1), .val (.int 4), .val (.int 1), .val (.int pI801)]) rfl ?_
    refine XS.goto X9.here hx rfl (pc0 := 41) (pc' := 3) rfl (hb hby d6_41) (by decide) (by decide) ?_
    refine XS.iload X9.here hx rfl (hb hby d6_3) rfl ?_
    refine XS.iload X9.here hx rfl (hb hby d6_5) rfl ?_
    refine XS.icmpNo X9.here hx rfl (hb hby d6_7) rfl (tlt (by decide : (1 : Int32) < (4 : Int32))).2.1 ?_
    show oS p e below T9 m 10 #[.val (.ref pR1), .val (.int 1), .val (.ref pR2), .val (.int 1), .val (.int 4), .val (.int 1), .val (.int pI801)] [] _
    refine XS.aloadN X9.here hx rfl (hb hby d6_10) rfl rfl ?_
    refine XS.iloadN X9.here hx rfl (hb hby d6_11) rfl ?_
    refine X9.caload hx (j := (1 : Int32)) (v := (.int pI802)) (by rw [e9]; exact Arq12.1) (State.isArrayOf_alike hZ.alike Arq12.2.1) Arq12.2.2 hin14 (Has.at Ahq12 hin14 rfl) (g := (mkF m 12 #[.val (.ref pR1), .val (.int 1), .val (.ref pR2), .val (.int 1), .val (.int 4), .val (.int 1), .val (.int pI801)] [(.int 1), (.ref pR1)])) rfl rfl (hb hby d6_12) _ ?_
    refine XS.istore X9.here hx rfl (hb hby d6_13) rfl (l' := #[.val (.ref pR1), .val (.int 1), .val (.ref pR2), .val (.int 1), .val (.int 4), .val (.int 1), .val (.int pI802)]) rfl ?_
    refine XS.iload X9.here hx rfl (hb hby d6_15) rfl ?_
    refine XS.sipush X9.here hx rfl (hb hby d6_17) ?_
    show oS p e below T9 m 20 #[.val (.ref pR1), .val (.int 1), .val (.ref pR2), .val (.int 1), .val (.int 4), .val (.int 1), .val (.int pI802)] [(.int 255), (.int pI802)] _
    refine XS.icmpYes X9.here hx rfl (pc0 := 20) (pc' := 26) rfl (hb hby d6_20) rfl (flt hc20').2.2.2 (by decide) (by decide) ?_
    refine XS.aloadN X9.here hx rfl (hb hby d6_26) rfl rfl ?_
    refine XS.iloadN X9.here hx rfl (hb hby d6_27) rfl ?_
    refine XS.iload X9.here hx rfl (hb hby d6_28) rfl ?_
    refine XS.i2b X9.here hx rfl (hb hby d6_30) rfl ?_
    refine st17 _ ?_
    show oS p e below T17 m 32 #[.val (.ref pR1), .val (.int 1), .val (.ref pR2), .val (.int 1), .val (.int 4), .val (.int 1), .val (.int pI802)] [] _
    refine XS.iinc X17.here hx rfl (hb hby d6_32) rfl (l' := #[.val (.ref pR1), .val (.int 2), .val (.ref pR2), .val (.int 1), .val (.int 4), .val (.int 1), .val (.int pI802)]) rfl ?_
    refine XS.iinc X17.here hx rfl (hb hby d6_35) rfl (l' := #[.val (.ref pR1), .val (.int 2), .val (.ref pR2), .val (.int 2), .val (.int 4), .val (.int 1), .val (.int pI802)]) rfl ?_
    refine XS.iinc X17.here hx rfl (hb hby d6_38) rfl (l' := #[.val (.ref pR1), .val (.int 2), .val (.ref pR2), .val (.int 2), .val (.int 4), .val (.int 2), .val (.int pI802)]) rfl ?_
    refine XS.goto X17.here hx rfl (pc0 := 41) (pc' := 3) rfl (hb hby d6_41) (by decide) (by decide) ?_
    refine XS.iload X17.here hx rfl (hb hby d6_3) rfl ?_
    refine XS.iload X17.here hx rfl (hb hby d6_5) rfl ?_
    show oS p e below T17 m 7 #[.val (.ref pR1), .val (.int 2), .val (.ref pR2), .val (.int 2), .val (.int 4), .val (.int 2), .val (.int pI802)] [(.int 4), (.int 2)] _
    refine XS.icmpNo X17.here hx rfl (hb hby d6_7) rfl (tlt (by decide : (2 : Int32) < (4 : Int32))).2.1 ?_
    refine XS.aloadN X17.here hx rfl (hb hby d6_10) rfl rfl ?_
    refine XS.iloadN X17.here hx rfl (hb hby d6_11) rfl ?_
    refine X17.caload hx (j := (2 : Int32)) (v := (.int pI803)) (by rw [e17]; exact Arq20.1) (State.isArrayOf_alike hZ.alike Arq20.2.1) Arq20.2.2 hin22 (Has.at Ahq20 hin22 rfl) (g := (mkF m 12 #[.val (.ref pR1), .val (.int 2), .val (.ref pR2), .val (.int 2), .val (.int 4), .val (.int 2), .val (.int pI802)] [(.int 2), (.ref pR1)])) rfl rfl (hb hby d6_12) _ ?_
    refine XS.istore X17.here hx rfl (hb hby d6_13) rfl (l' := #[.val (.ref pR1), .val (.int 2), .val (.ref pR2), .val (.int 2), .val (.int 4), .val (.int 2), .val (.int pI803)]) rfl ?_
    refine XS.iload X17.here hx rfl (hb hby d6_15) rfl ?_
    show oS p e below T17 m 17 #[.val (.ref pR1), .val (.int 2), .val (.ref pR2), .val (.int 2), .val (.int 4), .val (.int 2), .val (.int pI803)] [(.int pI803)] _
    refine XS.sipush X17.here hx rfl (hb hby d6_17) ?_
    refine XS.icmpNo X17.here hx rfl (hb hby d6_20) rfl (tlt hc20'').2.2.2 ?_
    refine XS.iload X17.here hx rfl (hb hby d6_23) rfl ?_
    exact retI X17 hx Bd.returns (hb hby d6_25) hr
  · show Qcmp5_2 Z pR1 pR2 pI801 pI802 pI803 pI804 pK3 pK6 h0 n0 _ T17.heap _
    rw [e17]
    exact ⟨rfl, N17, K18, V17⟩
theorem ef_cmp5_3 (m : MethodId) (pR1 : Addr) (pR2 : Addr) : entryFrame m #[(.ref pR1), (.int 0), (.ref pR2), (.int 0), (.int 4)] 7 = mkF m 0 #[.val (.ref pR1), .val (.int 0), .val (.ref pR2), .val (.int 0), .val (.int 4), .unset, .unset] [] := by first | (simp [entryFrame, mkF, argsToLocals, Value.category]; done) | rfl
def Qcmp5_3 (Z : State) (pR1 : Addr) (pR2 : Addr) (pI801 : Int32) (pI802 : Int32) (pI803 : Int32) (pI804 : Int32) (pK3 : ClassId) (pK6 : ClassId) (h0 : Heap) (n0 : Nat) (v : Option Value) (h : Heap) (L : List Loc) : Prop := v = some (.int 3) ∧ Fr n0 L ∧ Keep h0 h [pR2] ∧ Arv Z h pR2 pK6 .byte (4 : Int32) [(.int (pI801.toInt8.toInt32)), (.int (pI802.toInt8.toInt32)), (.int (pI803.toInt8.toInt32)), (.int 0)] (.int (0 : Int32))
set_option maxRecDepth 65536 in
set_option maxHeartbeats 40000000 in
theorem cmp5_3 (l : Launch) (Z : State) (a0 : Array Value) (hw : ∀ d ∈ tables_1, d.before a0 Z = true) (ws : List Jvm.Cond) (pR1 : Addr) (pR2 : Addr) (pI801 : Int32) (pI802 : Int32) (pI803 : Int32) (pI804 : Int32) (pK3 : ClassId) (pK6 : ClassId) (h0 : Heap) (n0 : Nat) (Z0 : n0 ≤ h0.size) (V_pR1 : Arv Z h0 pR1 pK3 .char (4 : Int32) [(.int pI801), (.int pI802), (.int pI803), (.int pI804)] (.int (0 : Int32))) (g_pR2 : n0 ≤ pR2) (V_pR2 : Arv Z h0 pR2 pK6 .byte (4 : Int32) [(.int 0), (.int 0), (.int 0), (.int 0)] (.int (0 : Int32))) (ne_pR1_pR2 : pR1 ≠ pR2) (hc20 : ¬ ((255 : Int32) < pI801)) (hc20' : ¬ ((255 : Int32) < pI802)) (hc20'' : ¬ ((255 : Int32) < pI803)) (hc20''' : (255 : Int32) < pI804) :
    oM l yN2 jdk_52_method_21_code 7 (some .int) ws ({ frames := 0, cells := 0, slots := 0, locals := 0 } : Room) #[(.ref pR1), (.int 0), (.ref pR2), (.int 0), (.int 4)] Z h0 (Qcmp5_3 Z pR1 pR2 pI801 pI802 pI803 pI804 pK3 pK6 h0 n0) := by
  refine MetFree.of_bodySF (plainFor_of_name pn_1) hisR ?_
  intro p e s m args below meth c s₁ Bd hml0 hP hK
  obtain ⟨rfl, hZ, hh⟩ := hP
  have hx := Bd.exec
  have hby := Bd.bytes
  have hml : c.maxLocals = 7 := hml0
  have hown : s.vm.findClass "java/lang/StringUTF16" = some m.cls := findClass_of_methodNamed Bd.named
  have hnm := (name_of_methodNamed Bd.named Bd.method).1
  have X0 : Stand p l e ({ frames := 0, cells := 0, slots := 0, locals := 0 } : Room) s m #[(.ref pR1), (.int 0), (.ref pR2), (.int 0), (.int 4)] below meth c s₁ [] 0 0 := Stand.of_body Bd
  have e0 : s₁.heap = h0 := by rw [← hh, Bd.state]; rfl
  have N0 := Fr.nil n0
  obtain ⟨clq4, Arq4, Akq4, Asq4, Anq4, Ahq4, Agq4⟩ := id V_pR1
  have hin5 : ¬ ((0 : Int32) < 0 ∨ clq4.slots.size ≤ ((0 : Int32)).toNatClampNeg) := inb_of Asq4 ⟨by decide, by decide⟩
  obtain ⟨clq7, Arq7, Akq7, Asq7, Anq7, Ahq7, Agq7⟩ := id V_pR2
  have hin8 : ¬ ((0 : Int32) < 0 ∨ clq7.slots.size ≤ ((0 : Int32)).toNatClampNeg) := inb_of Asq7 ⟨by decide, by decide⟩
  obtain ⟨T9, h9, X9, e9, W9, st9⟩ := stB X0 hx hZ e0 Arq7 (j := (0 : Int32)) hin8 (g := (mkF m 31 #[.val (.ref pR1), .val (.int 0), .val (.ref pR2), .val (.int 0), .val (.int 4), .val (.int 0), .val (.int pI801)] [(.int (pI801.toInt8.toInt32)), (.int 0), (.ref pR2)])) rfl rfl (hb hby d6_31)
  rw [own_bb] at W9
  have K10 : Keep h0 h9 [pR2] := (Keep.refl h0 [pR2]).wr W9 (Or.inl (List.mem_of_getElem? (i := 0) rfl))
  have Z11 : n0 ≤ h9.size := (Nat.le_trans Z0 (Keep.of_wr W9).1)
  have N9 := Fr.snoc X9 N0 g_pR2
  obtain ⟨Lh9, X9, N9⟩ := own_hide X9 N9
  have V9 : Arv Z h9 pR2 pK6 .byte (4 : Int32) [(.int (pI801.toInt8.toInt32)), (.int 0), (.int 0), (.int 0)] (.int (0 : Int32)) := Arv.set Arq7 Akq7 Asq7 Anq7 Ahq7 Agq7 (by first | rfl | exact fits_nar_byte _) W9 0 rfl (Nat.le_of_ble_eq_true rfl)
  have c13 : Arv Z h9 pR1 pK3 .char (4 : Int32) [(.int pI801), (.int pI802), (.int pI803), (.int pI804)] (.int (0 : Int32)) := V_pR1.other W9 ne_pR1_pR2
  obtain ⟨clq12, Arq12, Akq12, Asq12, Anq12, Ahq12, Agq12⟩ := id c13
  have hin14 : ¬ ((1 : Int32) < 0 ∨ clq12.slots.size ≤ ((1 : Int32)).toNatClampNeg) := inb_of Asq12 ⟨by decide, by decide⟩
  obtain ⟨clq15, Arq15, Akq15, Asq15, Anq15, Ahq15, Agq15⟩ := id V9
  have hin16 : ¬ ((1 : Int32) < 0 ∨ clq15.slots.size ≤ ((1 : Int32)).toNatClampNeg) := inb_of Asq15 ⟨by decide, by decide⟩
  obtain ⟨T17, h17, X17, e17, W17, st17⟩ := stB X9 hx hZ e9 Arq15 (j := (1 : Int32)) hin16 (g := (mkF m 31 #[.val (.ref pR1), .val (.int 1), .val (.ref pR2), .val (.int 1), .val (.int 4), .val (.int 1), .val (.int pI802)] [(.int (pI802.toInt8.toInt32)), (.int 1), (.ref pR2)])) rfl rfl (hb hby d6_31)
  rw [own_bb] at W17
  have K18 : Keep h0 h17 [pR2] := K10.wr W17 (Or.inl (List.mem_of_getElem? (i := 0) rfl))
  have Z19 : n0 ≤ h17.size := (Nat.le_trans Z11 (Keep.of_wr W17).1)
  have N17 := Fr.snoc X17 N9 g_pR2
  obtain ⟨Lh17, X17, N17⟩ := own_hide X17 N17
  have V17 : Arv Z h17 pR2 pK6 .byte (4 : Int32) [(.int (pI801.toInt8.toInt32)), (.int (pI802.toInt8.toInt32)), (.int 0), (.int 0)] (.int (0 : Int32)) := Arv.set Arq15 Akq15 Asq15 Anq15 Ahq15 Agq15 (by first | rfl | exact fits_nar_byte _) W17 1 rfl (Nat.le_of_ble_eq_true rfl)
  have c21 : Arv Z h17 pR1 pK3 .char (4 : Int32) [(.int pI801), (.int pI802), (.int pI803), (.int pI804)] (.int (0 : Int32)) := c13.other W17 ne_pR1_pR2
  obtain ⟨clq20, Arq20, Akq20, Asq20, Anq20, Ahq20, Agq20⟩ := id c21
  have hin22 : ¬ ((2 : Int32) < 0 ∨ clq20.slots.size ≤ ((2 : Int32)).toNatClampNeg) := inb_of Asq20 ⟨by decide, by decide⟩
  obtain ⟨clq23, Arq23, Akq23, Asq23, Anq23, Ahq23, Agq23⟩ := id V17
  have hin24 : ¬ ((2 : Int32) < 0 ∨ clq23.slots.size ≤ ((2 : Int32)).toNatClampNeg) := inb_of Asq23 ⟨by decide, by decide⟩
  obtain ⟨T25, h25, X25, e25, W25, st25⟩ := stB X17 hx hZ e17 Arq23 (j := (2 : Int32)) hin24 (g := (mkF m 31 #[.val (.ref pR1), .val (.int 2), .val (.ref pR2), .val (.int 2), .val (.int 4), .val (.int 2), .val (.int pI803)] [(.int (pI803.toInt8.toInt32)), (.int 2), (.ref pR2)])) rfl rfl (hb hby d6_31)
  rw [own_bb] at W25
  have K26 : Keep h0 h25 [pR2] := K18.wr W25 (Or.inl (List.mem_of_getElem? (i := 0) rfl))
  have Z27 : n0 ≤ h25.size := (Nat.le_trans Z19 (Keep.of_wr W25).1)
  have N25 := Fr.snoc X25 N17 g_pR2
  obtain ⟨Lh25, X25, N25⟩ := own_hide X25 N25
  have V25 : Arv Z h25 pR2 pK6 .byte (4 : Int32) [(.int (pI801.toInt8.toInt32)), (.int (pI802.toInt8.toInt32)), (.int (pI803.toInt8.toInt32)), (.int 0)] (.int (0 : Int32)) := Arv.set Arq23 Akq23 Asq23 Anq23 Ahq23 Agq23 (by first | rfl | exact fits_nar_byte _) W25 2 rfl (Nat.le_of_ble_eq_true rfl)
  have c29 : Arv Z h25 pR1 pK3 .char (4 : Int32) [(.int pI801), (.int pI802), (.int pI803), (.int pI804)] (.int (0 : Int32)) := c21.other W25 ne_pR1_pR2
  obtain ⟨clq28, Arq28, Akq28, Asq28, Anq28, Ahq28, Agq28⟩ := id c29
  have hin30 : ¬ ((3 : Int32) < 0 ∨ clq28.slots.size ≤ ((3 : Int32)).toNatClampNeg) := inb_of Asq28 ⟨by decide, by decide⟩
  obtain ⟨fs, hr, hrun, hended, hW, hsame⟩ := X25.leave (v := some (.int 3)) (fun h => by rw [Bd.returns] at h; cases h)
  refine ⟨_, _, castTop (ef_cmp5_3 m pR1 pR2) ?_, hrun, hended, _, _, rfl, ?_, ⟨_, rfl⟩, hW, hsame.mono (by decide) (by decide)⟩
  · show oS p e below s₁ m 0 #[.val (.ref pR1), .val (.int 0), .val (.ref pR2), .val (.int 0), .val (.int 4), .unset, .unset] [] _
    refine XS.iconst X0.here hx rfl (hb hby d6_0) ?_
    refine XS.istore X0.here hx rfl (hb hby d6_1) rfl (l' := #[.val (.ref pR1), .val (.int 0), .val (.ref pR2), .val (.int 0), .val (.int 4), .val (.int 0), .unset]) rfl ?_
    refine XS.iload X0.here hx rfl (hb hby d6_3) rfl ?_
    refine XS.iload X0.here hx rfl (hb hby d6_5) rfl ?_
    refine XS.icmpNo X0.here hx rfl (hb hby d6_7) rfl (tlt (by decide : (0 : Int32) < (4 : Int32))).2.1 ?_
    refine XS.aloadN X0.here hx rfl (hb hby d6_10) rfl rfl ?_
    show oS p e below s₁ m 11 #[.val (.ref pR1), .val (.int 0), .val (.ref pR2), .val (.int 0), .val (.int 4), .val (.int 0), .unset] [(.ref pR1)] _
    refine XS.iloadN X0.here hx rfl (hb hby d6_11) rfl ?_
    refine X0.caload hx (j := (0 : Int32)) (v := (.int pI801)) (by rw [e0]; exact Arq4.1) (State.isArrayOf_alike hZ.alike Arq4.2.1) Arq4.2.2 hin5 (Has.at Ahq4 hin5 rfl) (g := (mkF m 12 #[.val (.ref pR1), .val (.int 0), .val (.ref pR2), .val (.int 0), .val (.int 4), .val (.int 0), .unset] [(.int 0), (.ref pR1)])) rfl rfl (hb hby d6_12) _ ?_
    refine XS.istore X0.here hx rfl (hb hby d6_13) rfl (l' := #[.val (.ref pR1), .val (.int 0), .val (.ref pR2), .val (.int 0), .val (.int 4), .val (.int 0), .val (.int pI801)]) rfl ?_
    refine XS.iload X0.here hx rfl (hb hby d6_15) rfl ?_
    refine XS.sipush X0.here hx rfl (hb hby d6_17) ?_
    refine XS.icmpYes X0.here hx rfl (pc0 := 20) (pc' := 26) rfl (hb hby d6_20) rfl (flt hc20).2.2.2 (by decide) (by decide) ?_
    show oS p e below s₁ m 26 #[.val (.ref pR1), .val (.int 0), .val (.ref pR2), .val (.int 0), .val (.int 4), .val (.int 0), .val (.int pI801)] [] _
    refine XS.aloadN X0.here hx rfl (hb hby d6_26) rfl rfl ?_
    refine XS.iloadN X0.here hx rfl (hb hby d6_27) rfl ?_
    refine XS.iload X0.here hx rfl (hb hby d6_28) rfl ?_
    refine XS.i2b X0.here hx rfl (hb hby d6_30) rfl ?_
    refine st9 _ ?_
    refine XS.iinc X9.here hx rfl (hb hby d6_32) rfl (l' := #[.val (.ref pR1), .val (.int 1), .val (.ref pR2), .val (.int 0), .val (.int 4), .val (.int 0), .val (.int pI801)]) rfl ?_
    show oS p e below T9 m 35 #[.val (.ref pR1), .val (.int 1), .val (.ref pR2), .val (.int 0), .val (.int 4), .val (.int 0), .val (.int pI801)] [] _
    refine XS.iinc X9.here hx rfl (hb hby d6_35) rfl (l' := #[.val (.ref pR1), .val (.int 1), .val (.ref pR2), .val (.int 1), .val (.int 4), .val (.int 0), .val (.int pI801)]) rfl ?_
    refine XS.iinc X9.here hx rfl (hb hby d6_38) rfl (l' := #[.val (.ref pR1), .val (.int 1), .val (.ref pR2), .val (.int 1), .val (.int 4), .val (.int 1), .val (.int pI801)]) rfl ?_
    refine XS.goto X9.here hx rfl (pc0 := 41) (pc' := 3) rfl (hb hby d6_41) (by decide) (by decide) ?_
    refine XS.iload X9.here hx rfl (hb hby d6_3) rfl ?_
    refine XS.iload X9.here hx rfl (hb hby d6_5) rfl ?_
    refine XS.icmpNo X9.here hx rfl (hb hby d6_7) rfl (tlt (by decide : (1 : Int32) < (4 : Int32))).2.1 ?_
    show oS p e below T9 m 10 #[.val (.ref pR1), .val (.int 1), .val (.ref pR2), .val (.int 1), .val (.int 4), .val (.int 1), .val (.int pI801)] [] _
    refine XS.aloadN X9.here hx rfl (hb hby d6_10) rfl rfl ?_
    refine XS.iloadN X9.here hx rfl (hb hby d6_11) rfl ?_
    refine X9.caload hx (j := (1 : Int32)) (v := (.int pI802)) (by rw [e9]; exact Arq12.1) (State.isArrayOf_alike hZ.alike Arq12.2.1) Arq12.2.2 hin14 (Has.at Ahq12 hin14 rfl) (g := (mkF m 12 #[.val (.ref pR1), .val (.int 1), .val (.ref pR2), .val (.int 1), .val (.int 4), .val (.int 1), .val (.int pI801)] [(.int 1), (.ref pR1)])) rfl rfl (hb hby d6_12) _ ?_
    refine XS.istore X9.here hx rfl (hb hby d6_13) rfl (l' := #[.val (.ref pR1), .val (.int 1), .val (.ref pR2), .val (.int 1), .val (.int 4), .val (.int 1), .val (.int pI802)]) rfl ?_
    refine XS.iload X9.here hx rfl (hb hby d6_15) rfl ?_
    refine XS.sipush X9.here hx rfl (hb hby d6_17) ?_
    show oS p e below T9 m 20 #[.val (.ref pR1), .val (.int 1), .val (.ref pR2), .val (.int 1), .val (.int 4), .val (.int 1), .val (.int pI802)] [(.int 255), (.int pI802)] _
    refine XS.icmpYes X9.here hx rfl (pc0 := 20) (pc' := 26) rfl (hb hby d6_20) rfl (flt hc20').2.2.2 (by decide) (by decide) ?_
    refine XS.aloadN X9.here hx rfl (hb hby d6_26) rfl rfl ?_
    refine XS.iloadN X9.here hx rfl (hb hby d6_27) rfl ?_
    refine XS.iload X9.here hx rfl (hb hby d6_28) rfl ?_
    refine XS.i2b X9.here hx rfl (hb hby d6_30) rfl ?_
    refine st17 _ ?_
    show oS p e below T17 m 32 #[.val (.ref pR1), .val (.int 1), .val (.ref pR2), .val (.int 1), .val (.int 4), .val (.int 1), .val (.int pI802)] [] _
    refine XS.iinc X17.here hx rfl (hb hby d6_32) rfl (l' := #[.val (.ref pR1), .val (.int 2), .val (.ref pR2), .val (.int 1), .val (.int 4), .val (.int 1), .val (.int pI802)]) rfl ?_
    refine XS.iinc X17.here hx rfl (hb hby d6_35) rfl (l' := #[.val (.ref pR1), .val (.int 2), .val (.ref pR2), .val (.int 2), .val (.int 4), .val (.int 1), .val (.int pI802)]) rfl ?_
    refine XS.iinc X17.here hx rfl (hb hby d6_38) rfl (l' := #[.val (.ref pR1), .val (.int 2), .val (.ref pR2), .val (.int 2), .val (.int 4), .val (.int 2), .val (.int pI802)]) rfl ?_
    refine XS.goto X17.here hx rfl (pc0 := 41) (pc' := 3) rfl (hb hby d6_41) (by decide) (by decide) ?_
    refine XS.iload X17.here hx rfl (hb hby d6_3) rfl ?_
    refine XS.iload X17.here hx rfl (hb hby d6_5) rfl ?_
    show oS p e below T17 m 7 #[.val (.ref pR1), .val (.int 2), .val (.ref pR2), .val (.int 2), .val (.int 4), .val (.int 2), .val (.int pI802)] [(.int 4), (.int 2)] _
    refine XS.icmpNo X17.here hx rfl (hb hby d6_7) rfl (tlt (by decide : (2 : Int32) < (4 : Int32))).2.1 ?_
    refine XS.aloadN X17.here hx rfl (hb hby d6_10) rfl rfl ?_
    refine XS.iloadN X17.here hx rfl (hb hby d6_11) rfl ?_
    refine X17.caload hx (j := (2 : Int32)) (v := (.int pI803)) (by rw [e17]; exact Arq20.1) (State.isArrayOf_alike hZ.alike Arq20.2.1) Arq20.2.2 hin22 (Has.at Ahq20 hin22 rfl) (g := (mkF m 12 #[.val (.ref pR1), .val (.int 2), .val (.ref pR2), .val (.int 2), .val (.int 4), .val (.int 2), .val (.int pI802)] [(.int 2), (.ref pR1)])) rfl rfl (hb hby d6_12) _ ?_
    refine XS.istore X17.here hx rfl (hb hby d6_13) rfl (l' := #[.val (.ref pR1), .val (.int 2), .val (.ref pR2), .val (.int 2), .val (.int 4), .val (.int 2), .val (.int pI803)]) rfl ?_
    refine XS.iload X17.here hx rfl (hb hby d6_15) rfl ?_
    show oS p e below T17 m 17 #[.val (.ref pR1), .val (.int 2), .val (.ref pR2), .val (.int 2), .val (.int 4), .val (.int 2), .val (.int pI803)] [(.int pI803)] _
    refine XS.sipush X17.here hx rfl (hb hby d6_17) ?_
    refine XS.icmpYes X17.here hx rfl (pc0 := 20) (pc' := 26) rfl (hb hby d6_20) rfl (flt hc20'').2.2.2 (by decide) (by decide) ?_
    refine XS.aloadN X17.here hx rfl (hb hby d6_26) rfl rfl ?_
    refine XS.iloadN X17.here hx rfl (hb hby d6_27) rfl ?_
    refine XS.iload X17.here hx rfl (hb hby d6_28) rfl ?_
    refine XS.i2b X17.here hx rfl (hb hby d6_30) rfl ?_
    show oS p e below T17 m 31 #[.val (.ref pR1), .val (.int 2), .val (.ref pR2), .val (.int 2), .val (.int 4), .val (.int 2), .val (.int pI803)] [(.int (pI803.toInt8.toInt32)), (.int 2), (.ref pR2)] _
    refine st25 _ ?_
    refine XS.iinc X25.here hx rfl (hb hby d6_32) rfl (l' := #[.val (.ref pR1), .val (.int 3), .val (.ref pR2), .val (.int 2), .val (.int 4), .val (.int 2), .val (.int pI803)]) rfl ?_
    refine XS.iinc X25.here hx rfl (hb hby d6_35) rfl (l' := #[.val (.ref pR1), .val (.int 3), .val (.ref pR2), .val (.int 3), .val (.int 4), .val (.int 2), .val (.int pI803)]) rfl ?_
    refine XS.iinc X25.here hx rfl (hb hby d6_38) rfl (l' := #[.val (.ref pR1), .val (.int 3), .val (.ref pR2), .val (.int 3), .val (.int 4), .val (.int 3), .val (.int pI803)]) rfl ?_
    refine XS.goto X25.here hx rfl (pc0 := 41) (pc' := 3) rfl (hb hby d6_41) (by decide) (by decide) ?_
    refine XS.iload X25.here hx rfl (hb hby d6_3) rfl ?_
    show oS p e below T25 m 5 #[.val (.ref pR1), .val (.int 3), .val (.ref pR2), .val (.int 3), .val (.int 4), .val (.int 3), .val (.int pI803)] [(.int 3)] _
    refine XS.iload X25.here hx rfl (hb hby d6_5) rfl ?_
    refine XS.icmpNo X25.here hx rfl (hb hby d6_7) rfl (tlt (by decide : (3 : Int32) < (4 : Int32))).2.1 ?_
    refine XS.aloadN X25.here hx rfl (hb hby d6_10) rfl rfl ?_
    refine XS.iloadN X25.here hx rfl (hb hby d6_11) rfl ?_
    refine X25.caload hx (j := (3 : Int32)) (v := (.int pI804)) (by rw [e25]; exact Arq28.1) (State.isArrayOf_alike hZ.alike Arq28.2.1) Arq28.2.2 hin30 (Has.at Ahq28 hin30 rfl) (g := (mkF m 12 #[.val (.ref pR1), .val (.int 3), .val (.ref pR2), .val (.int 3), .val (.int 4), .val (.int 3), .val (.int pI803)] [(.int 3), (.ref pR1)])) rfl rfl (hb hby d6_12) _ ?_
    refine XS.istore X25.here hx rfl (hb hby d6_13) rfl (l' := #[.val (.ref pR1), .val (.int 3), .val (.ref pR2), .val (.int 3), .val (.int 4), .val (.int 3), .val (.int pI804)]) rfl ?_
    show oS p e below T25 m 15 #[.val (.ref pR1), .val (.int 3), .val (.ref pR2), .val (.int 3), .val (.int 4), .val (.int 3), .val (.int pI804)] [] _
    refine XS.iload X25.here hx rfl (hb hby d6_15) rfl ?_
    refine XS.sipush X25.here hx rfl (hb hby d6_17) ?_
    refine XS.icmpNo X25.here hx rfl (hb hby d6_20) rfl (tlt hc20''').2.2.2 ?_
    refine XS.iload X25.here hx rfl (hb hby d6_23) rfl ?_
    exact retI X25 hx Bd.returns (hb hby d6_25) hr
  · show Qcmp5_3 Z pR1 pR2 pI801 pI802 pI803 pI804 pK3 pK6 h0 n0 _ T25.heap _
    rw [e25]
    exact ⟨rfl, N25, K26, V25⟩
theorem d6_44 : decode jdk_52_method_21_code 44 = .ok (.iload 4, 2) := by decide +kernel
theorem d6_46 : decode jdk_52_method_21_code 46 = .ok (.ireturn, 1) := by decide +kernel
theorem ef_cmp5_4 (m : MethodId) (pR1 : Addr) (pR2 : Addr) : entryFrame m #[(.ref pR1), (.int 0), (.ref pR2), (.int 0), (.int 4)] 7 = mkF m 0 #[.val (.ref pR1), .val (.int 0), .val (.ref pR2), .val (.int 0), .val (.int 4), .unset, .unset] [] := by first | (simp [entryFrame, mkF, argsToLocals, Value.category]; done) | rfl
def Qcmp5_4 (Z : State) (pR1 : Addr) (pR2 : Addr) (pI801 : Int32) (pI802 : Int32) (pI803 : Int32) (pI804 : Int32) (pK3 : ClassId) (pK6 : ClassId) (h0 : Heap) (n0 : Nat) (v : Option Value) (h : Heap) (L : List Loc) : Prop := v = some (.int 4) ∧ Fr n0 L ∧ Keep h0 h [pR2] ∧ Arv Z h pR2 pK6 .byte (4 : Int32) [(.int (pI801.toInt8.toInt32)), (.int (pI802.toInt8.toInt32)), (.int (pI803.toInt8.toInt32)), (.int (pI804.toInt8.toInt32))] (.int (0 : Int32))
set_option maxRecDepth 65536 in
set_option maxHeartbeats 40000000 in
theorem cmp5_4 (l : Launch) (Z : State) (a0 : Array Value) (hw : ∀ d ∈ tables_1, d.before a0 Z = true) (ws : List Jvm.Cond) (pR1 : Addr) (pR2 : Addr) (pI801 : Int32) (pI802 : Int32) (pI803 : Int32) (pI804 : Int32) (pK3 : ClassId) (pK6 : ClassId) (h0 : Heap) (n0 : Nat) (Z0 : n0 ≤ h0.size) (V_pR1 : Arv Z h0 pR1 pK3 .char (4 : Int32) [(.int pI801), (.int pI802), (.int pI803), (.int pI804)] (.int (0 : Int32))) (g_pR2 : n0 ≤ pR2) (V_pR2 : Arv Z h0 pR2 pK6 .byte (4 : Int32) [(.int 0), (.int 0), (.int 0), (.int 0)] (.int (0 : Int32))) (ne_pR1_pR2 : pR1 ≠ pR2) (hc20 : ¬ ((255 : Int32) < pI801)) (hc20' : ¬ ((255 : Int32) < pI802)) (hc20'' : ¬ ((255 : Int32) < pI803)) (hc20''' : ¬ ((255 : Int32) < pI804)) :
    oM l yN2 jdk_52_method_21_code 7 (some .int) ws ({ frames := 0, cells := 0, slots := 0, locals := 0 } : Room) #[(.ref pR1), (.int 0), (.ref pR2), (.int 0), (.int 4)] Z h0 (Qcmp5_4 Z pR1 pR2 pI801 pI802 pI803 pI804 pK3 pK6 h0 n0) := by
  refine MetFree.of_bodySF (plainFor_of_name pn_1) hisR ?_
  intro p e s m args below meth c s₁ Bd hml0 hP hK
  obtain ⟨rfl, hZ, hh⟩ := hP
  have hx := Bd.exec
  have hby := Bd.bytes
  have hml : c.maxLocals = 7 := hml0
  have hown : s.vm.findClass "java/lang/StringUTF16" = some m.cls := findClass_of_methodNamed Bd.named
  have hnm := (name_of_methodNamed Bd.named Bd.method).1
  have X0 : Stand p l e ({ frames := 0, cells := 0, slots := 0, locals := 0 } : Room) s m #[(.ref pR1), (.int 0), (.ref pR2), (.int 0), (.int 4)] below meth c s₁ [] 0 0 := Stand.of_body Bd
  have e0 : s₁.heap = h0 := by rw [← hh, Bd.state]; rfl
  have N0 := Fr.nil n0
  obtain ⟨clq4, Arq4, Akq4, Asq4, Anq4, Ahq4, Agq4⟩ := id V_pR1
  have hin5 : ¬ ((0 : Int32) < 0 ∨ clq4.slots.size ≤ ((0 : Int32)).toNatClampNeg) := inb_of Asq4 ⟨by decide, by decide⟩
  obtain ⟨clq7, Arq7, Akq7, Asq7, Anq7, Ahq7, Agq7⟩ := id V_pR2
  have hin8 : ¬ ((0 : Int32) < 0 ∨ clq7.slots.size ≤ ((0 : Int32)).toNatClampNeg) := inb_of Asq7 ⟨by decide, by decide⟩
  obtain ⟨T9, h9, X9, e9, W9, st9⟩ := stB X0 hx hZ e0 Arq7 (j := (0 : Int32)) hin8 (g := (mkF m 31 #[.val (.ref pR1), .val (.int 0), .val (.ref pR2), .val (.int 0), .val (.int 4), .val (.int 0), .val (.int pI801)] [(.int (pI801.toInt8.toInt32)), (.int 0), (.ref pR2)])) rfl rfl (hb hby d6_31)
  rw [own_bb] at W9
  have K10 : Keep h0 h9 [pR2] := (Keep.refl h0 [pR2]).wr W9 (Or.inl (List.mem_of_getElem? (i := 0) rfl))
  have Z11 : n0 ≤ h9.size := (Nat.le_trans Z0 (Keep.of_wr W9).1)
  have N9 := Fr.snoc X9 N0 g_pR2
  obtain ⟨Lh9, X9, N9⟩ := own_hide X9 N9
  have V9 : Arv Z h9 pR2 pK6 .byte (4 : Int32) [(.int (pI801.toInt8.toInt32)), (.int 0), (.int 0), (.int 0)] (.int (0 : Int32)) := Arv.set Arq7 Akq7 Asq7 Anq7 Ahq7 Agq7 (by first | rfl | exact fits_nar_byte _) W9 0 rfl (Nat.le_of_ble_eq_true rfl)
  have c13 : Arv Z h9 pR1 pK3 .char (4 : Int32) [(.int pI801), (.int pI802), (.int pI803), (.int pI804)] (.int (0 : Int32)) := V_pR1.other W9 ne_pR1_pR2
  obtain ⟨clq12, Arq12, Akq12, Asq12, Anq12, Ahq12, Agq12⟩ := id c13
  have hin14 : ¬ ((1 : Int32) < 0 ∨ clq12.slots.size ≤ ((1 : Int32)).toNatClampNeg) := inb_of Asq12 ⟨by decide, by decide⟩
  obtain ⟨clq15, Arq15, Akq15, Asq15, Anq15, Ahq15, Agq15⟩ := id V9
  have hin16 : ¬ ((1 : Int32) < 0 ∨ clq15.slots.size ≤ ((1 : Int32)).toNatClampNeg) := inb_of Asq15 ⟨by decide, by decide⟩
  obtain ⟨T17, h17, X17, e17, W17, st17⟩ := stB X9 hx hZ e9 Arq15 (j := (1 : Int32)) hin16 (g := (mkF m 31 #[.val (.ref pR1), .val (.int 1), .val (.ref pR2), .val (.int 1), .val (.int 4), .val (.int 1), .val (.int pI802)] [(.int (pI802.toInt8.toInt32)), (.int 1), (.ref pR2)])) rfl rfl (hb hby d6_31)
  rw [own_bb] at W17
  have K18 : Keep h0 h17 [pR2] := K10.wr W17 (Or.inl (List.mem_of_getElem? (i := 0) rfl))
  have Z19 : n0 ≤ h17.size := (Nat.le_trans Z11 (Keep.of_wr W17).1)
  have N17 := Fr.snoc X17 N9 g_pR2
  obtain ⟨Lh17, X17, N17⟩ := own_hide X17 N17
  have V17 : Arv Z h17 pR2 pK6 .byte (4 : Int32) [(.int (pI801.toInt8.toInt32)), (.int (pI802.toInt8.toInt32)), (.int 0), (.int 0)] (.int (0 : Int32)) := Arv.set Arq15 Akq15 Asq15 Anq15 Ahq15 Agq15 (by first | rfl | exact fits_nar_byte _) W17 1 rfl (Nat.le_of_ble_eq_true rfl)
  have c21 : Arv Z h17 pR1 pK3 .char (4 : Int32) [(.int pI801), (.int pI802), (.int pI803), (.int pI804)] (.int (0 : Int32)) := c13.other W17 ne_pR1_pR2
  obtain ⟨clq20, Arq20, Akq20, Asq20, Anq20, Ahq20, Agq20⟩ := id c21
  have hin22 : ¬ ((2 : Int32) < 0 ∨ clq20.slots.size ≤ ((2 : Int32)).toNatClampNeg) := inb_of Asq20 ⟨by decide, by decide⟩
  obtain ⟨clq23, Arq23, Akq23, Asq23, Anq23, Ahq23, Agq23⟩ := id V17
  have hin24 : ¬ ((2 : Int32) < 0 ∨ clq23.slots.size ≤ ((2 : Int32)).toNatClampNeg) := inb_of Asq23 ⟨by decide, by decide⟩
  obtain ⟨T25, h25, X25, e25, W25, st25⟩ := stB X17 hx hZ e17 Arq23 (j := (2 : Int32)) hin24 (g := (mkF m 31 #[.val (.ref pR1), .val (.int 2), .val (.ref pR2), .val (.int 2), .val (.int 4), .val (.int 2), .val (.int pI803)] [(.int (pI803.toInt8.toInt32)), (.int 2), (.ref pR2)])) rfl rfl (hb hby d6_31)
  rw [own_bb] at W25
  have K26 : Keep h0 h25 [pR2] := K18.wr W25 (Or.inl (List.mem_of_getElem? (i := 0) rfl))
  have Z27 : n0 ≤ h25.size := (Nat.le_trans Z19 (Keep.of_wr W25).1)
  have N25 := Fr.snoc X25 N17 g_pR2
  obtain ⟨Lh25, X25, N25⟩ := own_hide X25 N25
  have V25 : Arv Z h25 pR2 pK6 .byte (4 : Int32) [(.int (pI801.toInt8.toInt32)), (.int (pI802.toInt8.toInt32)), (.int (pI803.toInt8.toInt32)), (.int 0)] (.int (0 : Int32)) := Arv.set Arq23 Akq23 Asq23 Anq23 Ahq23 Agq23 (by first | rfl | exact fits_nar_byte _) W25 2 rfl (Nat.le_of_ble_eq_true rfl)
  have c29 : Arv Z h25 pR1 pK3 .char (4 : Int32) [(.int pI801), (.int pI802), (.int pI803), (.int pI804)] (.int (0 : Int32)) := c21.other W25 ne_pR1_pR2
  obtain ⟨clq28, Arq28, Akq28, Asq28, Anq28, Ahq28, Agq28⟩ := id c29
  have hin30 : ¬ ((3 : Int32) < 0 ∨ clq28.slots.size ≤ ((3 : Int32)).toNatClampNeg) := inb_of Asq28 ⟨by decide, by decide⟩
  obtain ⟨clq31, Arq31, Akq31, Asq31, Anq31, Ahq31, Agq31⟩ := id V25
  have hin32 : ¬ ((3 : Int32) < 0 ∨ clq31.slots.size ≤ ((3 : Int32)).toNatClampNeg) := inb_of Asq31 ⟨by decide, by decide⟩
  obtain ⟨T33, h33, X33, e33, W33, st33⟩ := stB X25 hx hZ e25 Arq31 (j := (3 : Int32)) hin32 (g := (mkF m 31 #[.val (.ref pR1), .val (.int 3), .val (.ref pR2), .val (.int 3), .val (.int 4), .val (.int 3), .val (.int pI804)] [(.int (pI804.toInt8.toInt32)), (.int 3), (.ref pR2)])) rfl rfl (hb hby d6_31)
  rw [own_bb] at W33
  have K34 : Keep h0 h33 [pR2] := K26.wr W33 (Or.inl (List.mem_of_getElem? (i := 0) rfl))
  have Z35 : n0 ≤ h33.size := (Nat.le_trans Z27 (Keep.of_wr W33).1)
  have N33 := Fr.snoc X33 N25 g_pR2
  obtain ⟨Lh33, X33, N33⟩ := own_hide X33 N33
  have V33 : Arv Z h33 pR2 pK6 .byte (4 : Int32) [(.int (pI801.toInt8.toInt32)), (.int (pI802.toInt8.toInt32)), (.int (pI803.toInt8.toInt32)), (.int (pI804.toInt8.toInt32))] (.int (0 : Int32)) := Arv.set Arq31 Akq31 Asq31 Anq31 Ahq31 Agq31 (by first | rfl | exact fits_nar_byte _) W33 3 rfl (Nat.le_of_ble_eq_true rfl)
  obtain ⟨fs, hr, hrun, hended, hW, hsame⟩ := X33.leave (v := some (.int 4)) (fun h => by rw [Bd.returns] at h; cases h)
  refine ⟨_, _, castTop (ef_cmp5_4 m pR1 pR2) ?_, hrun, hended, _, _, rfl, ?_, ⟨_, rfl⟩, hW, hsame.mono (by decide) (by decide)⟩
  · show oS p e below s₁ m 0 #[.val (.ref pR1), .val (.int 0), .val (.ref pR2), .val (.int 0), .val (.int 4), .unset, .unset] [] _
    refine XS.iconst X0.here hx rfl (hb hby d6_0) ?_
    refine XS.istore X0.here hx rfl (hb hby d6_1) rfl (l' := #[.val (.ref pR1), .val (.int 0), .val (.ref pR2), .val (.int 0), .val (.int 4), .val (.int 0), .unset]) rfl ?_
    refine XS.iload X0.here hx rfl (hb hby d6_3) rfl ?_
    refine XS.iload X0.here hx rfl (hb hby d6_5) rfl ?_
    refine XS.icmpNo X0.here hx rfl (hb hby d6_7) rfl (tlt (by decide : (0 : Int32) < (4 : Int32))).2.1 ?_
    refine XS.aloadN X0.here hx rfl (hb hby d6_10) rfl rfl ?_
    show oS p e below s₁ m 11 #[.val (.ref pR1), .val (.int 0), .val (.ref pR2), .val (.int 0), .val (.int 4), .val (.int 0), .unset] [(.ref pR1)] _
    refine XS.iloadN X0.here hx rfl (hb hby d6_11) rfl ?_
    refine X0.caload hx (j := (0 : Int32)) (v := (.int pI801)) (by rw [e0]; exact Arq4.1) (State.isArrayOf_alike hZ.alike Arq4.2.1) Arq4.2.2 hin5 (Has.at Ahq4 hin5 rfl) (g := (mkF m 12 #[.val (.ref pR1), .val (.int 0), .val (.ref pR2), .val (.int 0), .val (.int 4), .val (.int 0), .unset] [(.int 0), (.ref pR1)])) rfl rfl (hb hby d6_12) _ ?_
    refine XS.istore X0.here hx rfl (hb hby d6_13) rfl (l' := #[.val (.ref pR1), .val (.int 0), .val (.ref pR2), .val (.int 0), .val (.int 4), .val (.int 0), .val (.int pI801)]) rfl ?_
    refine XS.iload X0.here hx rfl (hb hby d6_15) rfl ?_
    refine XS.sipush X0.here hx rfl (hb hby d6_17) ?_
    refine XS.icmpYes X0.here hx rfl (pc0 := 20) (pc' := 26) rfl (hb hby d6_20) rfl (flt hc20).2.2.2 (by decide) (by decide) ?_
    show oS p e below s₁ m 26 #[.val (.ref pR1), .val (.int 0), .val (.ref pR2), .val (.int 0), .val (.int 4), .val (.int 0), .val (.int pI801)] [] _
    refine XS.aloadN X0.here hx rfl (hb hby d6_26) rfl rfl ?_
    refine XS.iloadN X0.here hx rfl (hb hby d6_27) rfl ?_
    refine XS.iload X0.here hx rfl (hb hby d6_28) rfl ?_
    refine XS.i2b X0.here hx rfl (hb hby d6_30) rfl ?_
    refine st9 _ ?_
    refine XS.iinc X9.here hx rfl (hb hby d6_32) rfl (l' := #[.val (.ref pR1), .val (.int 1), .val (.ref pR2), .val (.int 0), .val (.int 4), .val (.int 0), .val (.int pI801)]) rfl ?_
    show oS p e below T9 m 35 #[.val (.ref pR1), .val (.int 1), .val (.ref pR2), .val (.int 0), .val (.int 4), .val (.int 0), .val (.int pI801)] [] _
    refine XS.iinc X9.here hx rfl (hb hby d6_35) rfl (l' := #[.val (.ref pR1), .val (.int 1), .val (.ref pR2), .val (.int 1), .val (.int 4), .val (.int 0), .val (.int pI801)]) rfl ?_
    refine XS.iinc X9.here hx rfl (hb hby d6_38) rfl (l' := #[.val (.ref pR1), .val (.int 1), .val (.ref pR2), .val (.int 1), .val (.int 4), .val (.int 1), .val (.int pI801)]) rfl ?_
    refine XS.goto X9.here hx rfl (pc0 := 41) (pc' := 3) rfl (hb hby d6_41) (by decide) (by decide) ?_
    refine XS.iload X9.here hx rfl (hb hby d6_3) rfl ?_
    refine XS.iload X9.here hx rfl (hb hby d6_5) rfl ?_
    refine XS.icmpNo X9.here hx rfl (hb hby d6_7) rfl (tlt (by decide : (1 : Int32) < (4 : Int32))).2.1 ?_
    show oS p e below T9 m 10 #[.val (.ref pR1), .val (.int 1), .val (.ref pR2), .val (.int 1), .val (.int 4), .val (.int 1), .val (.int pI801)] [] _
    refine XS.aloadN X9.here hx rfl (hb hby d6_10) rfl rfl ?_
    refine XS.iloadN X9.here hx rfl (hb hby d6_11) rfl ?_
    refine X9.caload hx (j := (1 : Int32)) (v := (.int pI802)) (by rw [e9]; exact Arq12.1) (State.isArrayOf_alike hZ.alike Arq12.2.1) Arq12.2.2 hin14 (Has.at Ahq12 hin14 rfl) (g := (mkF m 12 #[.val (.ref pR1), .val (.int 1), .val (.ref pR2), .val (.int 1), .val (.int 4), .val (.int 1), .val (.int pI801)] [(.int 1), (.ref pR1)])) rfl rfl (hb hby d6_12) _ ?_
    refine XS.istore X9.here hx rfl (hb hby d6_13) rfl (l' := #[.val (.ref pR1), .val (.int 1), .val (.ref pR2), .val (.int 1), .val (.int 4), .val (.int 1), .val (.int pI802)]) rfl ?_
    refine XS.iload X9.here hx rfl (hb hby d6_15) rfl ?_
    refine XS.sipush X9.here hx rfl (hb hby d6_17) ?_
    show oS p e below T9 m 20 #[.val (.ref pR1), .val (.int 1), .val (.ref pR2), .val (.int 1), .val (.int 4), .val (.int 1), .val (.int pI802)] [(.int 255), (.int pI802)] _
    refine XS.icmpYes X9.here hx rfl (pc0 := 20) (pc' := 26) rfl (hb hby d6_20) rfl (flt hc20').2.2.2 (by decide) (by decide) ?_
    refine XS.aloadN X9.here hx rfl (hb hby d6_26) rfl rfl ?_
    refine XS.iloadN X9.here hx rfl (hb hby d6_27) rfl ?_
    refine XS.iload X9.here hx rfl (hb hby d6_28) rfl ?_
    refine XS.i2b X9.here hx rfl (hb hby d6_30) rfl ?_
    refine st17 _ ?_
    show oS p e below T17 m 32 #[.val (.ref pR1), .val (.int 1), .val (.ref pR2), .val (.int 1), .val (.int 4), .val (.int 1), .val (.int pI802)] [] _
    refine XS.iinc X17.here hx rfl (hb hby d6_32) rfl (l' := #[.val (.ref pR1), .val (.int 2), .val (.ref pR2), .val (.int 1), .val (.int 4), .val (.int 1), .val (.int pI802)]) rfl ?_
    refine XS.iinc X17.here hx rfl (hb hby d6_35) rfl (l' := #[.val (.ref pR1), .val (.int 2), .val (.ref pR2), .val (.int 2), .val (.int 4), .val (.int 1), .val (.int pI802)]) rfl ?_
    refine XS.iinc X17.here hx rfl (hb hby d6_38) rfl (l' := #[.val (.ref pR1), .val (.int 2), .val (.ref pR2), .val (.int 2), .val (.int 4), .val (.int 2), .val (.int pI802)]) rfl ?_
    refine XS.goto X17.here hx rfl (pc0 := 41) (pc' := 3) rfl (hb hby d6_41) (by decide) (by decide) ?_
    refine XS.iload X17.here hx rfl (hb hby d6_3) rfl ?_
    refine XS.iload X17.here hx rfl (hb hby d6_5) rfl ?_
    show oS p e below T17 m 7 #[.val (.ref pR1), .val (.int 2), .val (.ref pR2), .val (.int 2), .val (.int 4), .val (.int 2), .val (.int pI802)] [(.int 4), (.int 2)] _
    refine XS.icmpNo X17.here hx rfl (hb hby d6_7) rfl (tlt (by decide : (2 : Int32) < (4 : Int32))).2.1 ?_
    refine XS.aloadN X17.here hx rfl (hb hby d6_10) rfl rfl ?_
    refine XS.iloadN X17.here hx rfl (hb hby d6_11) rfl ?_
    refine X17.caload hx (j := (2 : Int32)) (v := (.int pI803)) (by rw [e17]; exact Arq20.1) (State.isArrayOf_alike hZ.alike Arq20.2.1) Arq20.2.2 hin22 (Has.at Ahq20 hin22 rfl) (g := (mkF m 12 #[.val (.ref pR1), .val (.int 2), .val (.ref pR2), .val (.int 2), .val (.int 4), .val (.int 2), .val (.int pI802)] [(.int 2), (.ref pR1)])) rfl rfl (hb hby d6_12) _ ?_
    refine XS.istore X17.here hx rfl (hb hby d6_13) rfl (l' := #[.val (.ref pR1), .val (.int 2), .val (.ref pR2), .val (.int 2), .val (.int 4), .val (.int 2), .val (.int pI803)]) rfl ?_
    refine XS.iload X17.here hx rfl (hb hby d6_15) rfl ?_
    show oS p e below T17 m 17 #[.val (.ref pR1), .val (.int 2), .val (.ref pR2), .val (.int 2), .val (.int 4), .val (.int 2), .val (.int pI803)] [(.int pI803)] _
    refine XS.sipush X17.here hx rfl (hb hby d6_17) ?_
    refine XS.icmpYes X17.here hx rfl (pc0 := 20) (pc' := 26) rfl (hb hby d6_20) rfl (flt hc20'').2.2.2 (by decide) (by decide) ?_
    refine XS.aloadN X17.here hx rfl (hb hby d6_26) rfl rfl ?_
    refine XS.iloadN X17.here hx rfl (hb hby d6_27) rfl ?_
    refine XS.iload X17.here hx rfl (hb hby d6_28) rfl ?_
    refine XS.i2b X17.here hx rfl (hb hby d6_30) rfl ?_
    show oS p e below T17 m 31 #[.val (.ref pR1), .val (.int 2), .val (.ref pR2), .val (.int 2), .val (.int 4), .val (.int 2), .val (.int pI803)] [(.int (pI803.toInt8.toInt32)), (.int 2), (.ref pR2)] _
    refine st25 _ ?_
    refine XS.iinc X25.here hx rfl (hb hby d6_32) rfl (l' := #[.val (.ref pR1), .val (.int 3), .val (.ref pR2), .val (.int 2), .val (.int 4), .val (.int 2), .val (.int pI803)]) rfl ?_
    refine XS.iinc X25.here hx rfl (hb hby d6_35) rfl (l' := #[.val (.ref pR1), .val (.int 3), .val (.ref pR2), .val (.int 3), .val (.int 4), .val (.int 2), .val (.int pI803)]) rfl ?_
    refine XS.iinc X25.here hx rfl (hb hby d6_38) rfl (l' := #[.val (.ref pR1), .val (.int 3), .val (.ref pR2), .val (.int 3), .val (.int 4), .val (.int 3), .val (.int pI803)]) rfl ?_
    refine XS.goto X25.here hx rfl (pc0 := 41) (pc' := 3) rfl (hb hby d6_41) (by decide) (by decide) ?_
    refine XS.iload X25.here hx rfl (hb hby d6_3) rfl ?_
    show oS p e below T25 m 5 #[.val (.ref pR1), .val (.int 3), .val (.ref pR2), .val (.int 3), .val (.int 4), .val (.int 3), .val (.int pI803)] [(.int 3)] _
    refine XS.iload X25.here hx rfl (hb hby d6_5) rfl ?_
    refine XS.icmpNo X25.here hx rfl (hb hby d6_7) rfl (tlt (by decide : (3 : Int32) < (4 : Int32))).2.1 ?_
    refine XS.aloadN X25.here hx rfl (hb hby d6_10) rfl rfl ?_
    refine XS.iloadN X25.here hx rfl (hb hby d6_11) rfl ?_
    refine X25.caload hx (j := (3 : Int32)) (v := (.int pI804)) (by rw [e25]; exact Arq28.1) (State.isArrayOf_alike hZ.alike Arq28.2.1) Arq28.2.2 hin30 (Has.at Ahq28 hin30 rfl) (g := (mkF m 12 #[.val (.ref pR1), .val (.int 3), .val (.ref pR2), .val (.int 3), .val (.int 4), .val (.int 3), .val (.int pI803)] [(.int 3), (.ref pR1)])) rfl rfl (hb hby d6_12) _ ?_
    refine XS.istore X25.here hx rfl (hb hby d6_13) rfl (l' := #[.val (.ref pR1), .val (.int 3), .val (.ref pR2), .val (.int 3), .val (.int 4), .val (.int 3), .val (.int pI804)]) rfl ?_
    show oS p e below T25 m 15 #[.val (.ref pR1), .val (.int 3), .val (.ref pR2), .val (.int 3), .val (.int 4), .val (.int 3), .val (.int pI804)] [] _
    refine XS.iload X25.here hx rfl (hb hby d6_15) rfl ?_
    refine XS.sipush X25.here hx rfl (hb hby d6_17) ?_
    refine XS.icmpYes X25.here hx rfl (pc0 := 20) (pc' := 26) rfl (hb hby d6_20) rfl (flt hc20''').2.2.2 (by decide) (by decide) ?_
    refine XS.aloadN X25.here hx rfl (hb hby d6_26) rfl rfl ?_
    refine XS.iloadN X25.here hx rfl (hb hby d6_27) rfl ?_
    refine XS.iload X25.here hx rfl (hb hby d6_28) rfl ?_
    show oS p e below T25 m 30 #[.val (.ref pR1), .val (.int 3), .val (.ref pR2), .val (.int 3), .val (.int 4), .val (.int 3), .val (.int pI804)] [(.int pI804), (.int 3), (.ref pR2)] _
    refine XS.i2b X25.here hx rfl (hb hby d6_30) rfl ?_
    refine st33 _ ?_
    refine XS.iinc X33.here hx rfl (hb hby d6_32) rfl (l' := #[.val (.ref pR1), .val (.int 4), .val (.ref pR2), .val (.int 3), .val (.int 4), .val (.int 3), .val (.int pI804)]) rfl ?_
    refine XS.iinc X33.here hx rfl (hb hby d6_35) rfl (l' := #[.val (.ref pR1), .val (.int 4), .val (.ref pR2), .val (.int 4), .val (.int 4), .val (.int 3), .val (.int pI804)]) rfl ?_
    refine XS.iinc X33.here hx rfl (hb hby d6_38) rfl (l' := #[.val (.ref pR1), .val (.int 4), .val (.ref pR2), .val (.int 4), .val (.int 4), .val (.int 4), .val (.int pI804)]) rfl ?_
    refine XS.goto X33.here hx rfl (pc0 := 41) (pc' := 3) rfl (hb hby d6_41) (by decide) (by decide) ?_
    show oS p e below T33 m 3 #[.val (.ref pR1), .val (.int 4), .val (.ref pR2), .val (.int 4), .val (.int 4), .val (.int 4), .val (.int pI804)] [] _
    refine XS.iload X33.here hx rfl (hb hby d6_3) rfl ?_
    refine XS.iload X33.here hx rfl (hb hby d6_5) rfl ?_
    refine XS.icmpYes X33.here hx rfl (pc0 := 7) (pc' := 44) rfl (hb hby d6_7) rfl (flt (by decide : ¬ ((4 : Int32) < (4 : Int32)))).2.1 (by decide) (by decide) ?_
    refine XS.iload X33.here hx rfl (hb hby d6_44) rfl ?_
    exact retI X33 hx Bd.returns (hb hby d6_46) hr
  · show Qcmp5_4 Z pR1 pR2 pI801 pI802 pI803 pI804 pK3 pK6 h0 n0 _ T33.heap _
    rw [e33]
    exact ⟨rfl, N33, K34, V33⟩
theorem d18_0 : decode jdk_52_method_3_code 0 = .ok (.iload_n 0, 1) := by decide +kernel
theorem d18_1 : decode jdk_52_method_3_code 1 = .ok (.ifCond .ge 11, 3) := by decide +kernel
theorem d18_12 : decode jdk_52_method_3_code 12 = .ok (.iload_n 0, 1) := by decide +kernel
theorem d18_13 : decode jdk_52_method_3_code 13 = .ok (.ldc 20, 2) := by decide +kernel
theorem d18_15 : decode jdk_52_method_3_code 15 = .ok (.if_icmp .lt 40, 3) := by decide +kernel
theorem d18_55 : decode jdk_52_method_3_code 55 = .ok (.iload_n 0, 1) := by decide +kernel
theorem d18_56 : decode jdk_52_method_3_code 56 = .ok (.iconst 1, 1) := by decide +kernel
theorem d18_57 : decode jdk_52_method_3_code 57 = .ok (.ishl, 1) := by decide +kernel
theorem d18_58 : decode jdk_52_method_3_code 58 = .ok (.ireturn, 1) := by decide +kernel
theorem ef_nbl (m : MethodId)  : entryFrame m #[(.int 4)] 1 = mkF m 0 #[.val (.int 4)] [] := by first | (simp [entryFrame, mkF, argsToLocals, Value.category]; done) | rfl
def Qnbl (Z : State)  (h0 : Heap) (n0 : Nat) (v : Option Value) (h : Heap) (L : List Loc) : Prop := v = some (.int 8) ∧ Fr n0 L ∧ h = h0
set_option maxRecDepth 65536 in
set_option maxHeartbeats 40000000 in
theorem nbl (l : Launch) (Z : State) (a0 : Array Value) (hw : ∀ d ∈ tables_1, d.before a0 Z = true) (ws : List Jvm.Cond)  (h0 : Heap) (n0 : Nat) (Z0 : n0 ≤ h0.size) :
    oM l yN3 jdk_52_method_3_code 1 (some .int) ws ({ frames := 0, cells := 0, slots := 0, locals := 0 } : Room) #[(.int 4)] Z h0 (Qnbl Z  h0 n0) := by
  refine MetFree.of_bodySF (plainFor_of_name pn_1) hisR ?_
  intro p e s m args below meth c s₁ Bd hml0 hP hK
  obtain ⟨rfl, hZ, hh⟩ := hP
  have hx := Bd.exec
  have hby := Bd.bytes
  have hml : c.maxLocals = 1 := hml0
  have hown : s.vm.findClass "java/lang/StringUTF16" = some m.cls := findClass_of_methodNamed Bd.named
  have hnm := (name_of_methodNamed Bd.named Bd.method).1
  have X0 : Stand p l e ({ frames := 0, cells := 0, slots := 0, locals := 0 } : Room) s m #[(.int 4)] below meth c s₁ [] 0 0 := Stand.of_body Bd
  have e0 : s₁.heap = h0 := by rw [← hh, Bd.state]; rfl
  have N0 := Fr.nil n0
  obtain ⟨fs, hr, hrun, hended, hW, hsame⟩ := X0.leave (v := some (.int 8)) (fun h => by rw [Bd.returns] at h; cases h)
  refine ⟨_, _, castTop (ef_nbl m ) ?_, hrun, hended, _, _, rfl, ?_, ⟨_, rfl⟩, hW, hsame.mono (by decide) (by decide)⟩
  · show oS p e below s₁ m 0 #[.val (.int 4)] [] _
    refine XS.iloadN X0.here hx rfl (hb hby d18_0) rfl ?_
    refine XS.ifYes X0.here hx rfl (pc0 := 1) (pc' := 12) rfl (hb hby d18_1) rfl ((if0 _ _).trans (flt (by decide : ¬ ((4 : Int32) < (0 : Int32)))).2.1) (by decide) (by decide) ?_
    refine XS.iloadN X0.here hx rfl (hb hby d18_12) rfl ?_
    refine X0.ldcInt hx hown (mvT hZ (ow hw 84 rfl)) (g := (mkF m 13 #[.val (.int 4)] [(.int 4)])) rfl (hb hby d18_13) _ ?_
    refine XS.icmpYes X0.here hx rfl (pc0 := 15) (pc' := 55) rfl (hb hby d18_15) rfl (tlt (by decide : (4 : Int32) < (1073741823 : Int32))).1 (by decide) (by decide) ?_
    refine XS.iloadN X0.here hx rfl (hb hby d18_55) rfl ?_
    show oS p e below s₁ m 56 #[.val (.int 4)] [(.int 4)] _
    refine XS.iconst X0.here hx rfl (hb hby d18_56) ?_
    refine XS.ishl X0.here hx rfl (hb hby d18_57) rfl ?_
    exact retI X0 hx Bd.returns (hb hby d18_58) hr
  · show Qnbl Z  h0 n0 _ s₁.heap _
    rw [e0]
    exact ⟨rfl, N0, rfl⟩
theorem d17_0 : decode jdk_52_method_2_code 0 = .ok (.iload_n 0, 1) := by decide +kernel
theorem d17_1 : decode jdk_52_method_2_code 1 = .ok (.invokestatic 11, 3) := by decide +kernel
theorem pd_0 : parseMethodDescriptor "(I)I" = some ⟨[.int], some .int⟩ := by decide +kernel
theorem d17_4 : decode jdk_52_method_2_code 4 = .ok (.newarray .byte, 2) := by decide +kernel
theorem d17_6 : decode jdk_52_method_2_code 6 = .ok (.areturn, 1) := by decide +kernel
theorem ef_nbf (m : MethodId)  : entryFrame m #[(.int 4)] 1 = mkF m 0 #[.val (.int 4)] [] := by first | (simp [entryFrame, mkF, argsToLocals, Value.category]; done) | rfl
def Qnbf (Z : State)  (h0 : Heap) (n0 : Nat) (v : Option Value) (h : Heap) (L : List Loc) : Prop := ∃ bR2 : Addr, ∃ k2 : ClassId, v = some (.ref bR2) ∧ Fr n0 L ∧ Keep h0 h [] ∧ h0.size ≤ bR2 ∧ Arv Z h bR2 k2 .byte (8 : Int32) [(.int 0), (.int 0), (.int 0), (.int 0), (.int 0), (.int 0), (.int 0), (.int 0)] (.int (0 : Int32))
set_option maxRecDepth 65536 in
set_option maxHeartbeats 40000000 in
theorem nbf (l : Launch) (Z : State) (a0 : Array Value) (hw : ∀ d ∈ tables_1, d.before a0 Z = true) (ws : List Jvm.Cond)  (h0 : Heap) (n0 : Nat) (Z0 : n0 ≤ h0.size) :
    oM l yN4 jdk_52_method_2_code 1 (some (.array .byte)) ws ({ frames := 1, cells := 1, slots := 8, locals := 12 } : Room) #[(.int 4)] Z h0 (Qnbf Z  h0 n0) := by
  refine MetFree.of_bodySF (plainFor_of_name pn_1) hisR ?_
  intro p e s m args below meth c s₁ Bd hml0 hP hK
  obtain ⟨rfl, hZ, hh⟩ := hP
  have hx := Bd.exec
  have hby := Bd.bytes
  have hml : c.maxLocals = 1 := hml0
  have hown : s.vm.findClass "java/lang/StringUTF16" = some m.cls := findClass_of_methodNamed Bd.named
  have hnm := (name_of_methodNamed Bd.named Bd.method).1
  have X0 : Stand p l e ({ frames := 1, cells := 1, slots := 8, locals := 12 } : Room) s m #[(.int 4)] below meth c s₁ [] 0 0 := Stand.of_body Bd
  have e0 : s₁.heap = h0 := by rw [← hh, Bd.state]; rfl
  have N0 := Fr.nil n0
  obtain ⟨_, _, ⟨T1, L1, k1, n1⟩, -, X1, ⟨Lc1, hQ1, l1, y1, z1⟩, st1⟩ := Jvm.LawKit.callS X0 hx (y := yN3) hown (mvT hZ (ow hw 81 rfl)) (mvT hZ (ow hw 82 rfl)) (mvT hZ (ow hw 21 rfl)) (mvT hZ (ow hw 83 rfl)) (by decide) (backOf (W := 0) (nbl l Z a0 hw []  h0 n0 Z0 ) hZ (ow hw 83 rfl) (ow hw 21 rfl) (by decide) (by decide)) (g := (mkF m 1 #[.val (.int 4)] [(.int 4)])) rfl (by rw [hml]; rfl) (argsL := [(.int 4)]) (rest := []) (lenOf pd_0 rfl) rfl (Nat.le_refl _) (hb hby d17_1) (fun _ _ => ⟨rfl, e0, (by decide : 0 + 0 ≤ _), (by decide : 0 + 0 ≤ _)⟩)
  dsimp only [Pt.U, Pt.locs, Pt.cells, Pt.slots] at X1 l1 y1 z1 st1 hQ1
  subst l1 y1 z1
  obtain ⟨rfl, Nq1, e1⟩ := hQ1
  have N1 := Fr.app N0 Nq1
  obtain ⟨T2, h2, k2, X2, e2, E2, A2, st2⟩ := newP X1 hx hZ (ow hw 23 rfl) e1 (g := (mkF m 4 #[.val (.int 4)] [(.int 8)])) rfl (hb hby d17_4) rfl (by decide) (cap := 8) (by decide) (by decide) (by decide) (by decide)
  obtain ⟨bR2, g2⟩ : ∃ z, z = h0.size := ⟨_, rfl⟩
  rw [← g2] at A2 st2
  have K3 : Keep h0 h2 [] := (Keep.refl h0 []).ext E2
  have Z4 : n0 ≤ h2.size := (Nat.le_trans Z0 E2.1)
  have V2 : Arv Z h2 bR2 k2 .byte (8 : Int32) [(.int 0), (.int 0), (.int 0), (.int 0), (.int 0), (.int 0), (.int 0), (.int 0)] (.int (0 : Int32)) := (Arv.new A2 (by decide)).pad (pad_rep [] (.int (0 : Int32)) 8)
  obtain ⟨fs, hr, hrun, hended, hW, hsame⟩ := X2.leave (v := some (.ref bR2)) (fun h => by rw [Bd.returns] at h; cases h)
  refine ⟨_, _, castTop (ef_nbf m ) ?_, hrun, hended, _, _, rfl, ?_, ⟨_, rfl⟩, hW, hsame.mono (by decide) (by decide)⟩
  · show oS p e below s₁ m 0 #[.val (.int 4)] [] _
    refine XS.iloadN X0.here hx rfl (hb hby d17_0) rfl ?_
    refine st1 _ ?_
    refine st2 _ ?_
    exact retOut X2 hx Bd.returns rfl (Or.inr (Or.inr (Or.inr (Or.inr ⟨rfl, rfl, rfl⟩)))) (hb hby d17_6) hr
  · show Qnbf Z  h0 n0 _ T2.heap _
    rw [e2]
    exact ⟨bR2, k2, rfl, N1, K3, (Nat.le_of_eq g2.symm), V2⟩
theorem d19_0 : decode jdk_52_method_4_code 0 = .ok (.getstatic 44, 3) := by decide +kernel
theorem d19_3 : decode jdk_52_method_4_code 3 = .ok (.ifCond .ne 25, 3) := by decide +kernel
theorem d19_28 : decode jdk_52_method_4_code 28 = .ok (.iload_n 1, 1) := by decide +kernel
theorem d19_29 : decode jdk_52_method_4_code 29 = .ok (.iconst 1, 1) := by decide +kernel
theorem d19_30 : decode jdk_52_method_4_code 30 = .ok (.ishl, 1) := by decide +kernel
theorem d19_31 : decode jdk_52_method_4_code 31 = .ok (.istore_n 1, 1) := by decide +kernel
theorem d19_32 : decode jdk_52_method_4_code 32 = .ok (.aload_n 0, 1) := by decide +kernel
theorem d19_33 : decode jdk_52_method_4_code 33 = .ok (.iload_n 1, 1) := by decide +kernel
theorem d19_34 : decode jdk_52_method_4_code 34 = .ok (.iinc 1 1, 3) := by decide +kernel
theorem d19_37 : decode jdk_52_method_4_code 37 = .ok (.iload_n 2, 1) := by decide +kernel
theorem d19_38 : decode jdk_52_method_4_code 38 = .ok (.getstatic 59, 3) := by decide +kernel
theorem d19_41 : decode jdk_52_method_4_code 41 = .ok (.ishr, 1) := by decide +kernel
theorem d19_42 : decode jdk_52_method_4_code 42 = .ok (.i2b, 1) := by decide +kernel
theorem d19_43 : decode jdk_52_method_4_code 43 = .ok (.bastore, 1) := by decide +kernel
theorem d19_44 : decode jdk_52_method_4_code 44 = .ok (.aload_n 0, 1) := by decide +kernel
theorem d19_45 : decode jdk_52_method_4_code 45 = .ok (.iload_n 1, 1) := by decide +kernel
theorem d19_46 : decode jdk_52_method_4_code 46 = .ok (.iload_n 2, 1) := by decide +kernel
theorem d19_47 : decode jdk_52_method_4_code 47 = .ok (.getstatic 63, 3) := by decide +kernel
theorem d19_50 : decode jdk_52_method_4_code 50 = .ok (.ishr, 1) := by decide +kernel
theorem d19_51 : decode jdk_52_method_4_code 51 = .ok (.i2b, 1) := by decide +kernel
theorem d19_52 : decode jdk_52_method_4_code 52 = .ok (.bastore, 1) := by decide +kernel
theorem d19_53 : decode jdk_52_method_4_code 53 = .ok (.return_, 1) := by decide +kernel
theorem ef_pc0 (m : MethodId) (pR1 : Addr) (pI2 : Int32) : entryFrame m #[(.ref pR1), (.int 0), (.int pI2)] 3 = mkF m 0 #[.val (.ref pR1), .val (.int 0), .val (.int pI2)] [] := by first | (simp [entryFrame, mkF, argsToLocals, Value.category]; done) | rfl
def Qpc0 (Z : State) (pR1 : Addr) (pI2 : Int32) (pI810 : Int32) (pI811 : Int32) (pI812 : Int32) (pI813 : Int32) (pI814 : Int32) (pI815 : Int32) (pI816 : Int32) (pI817 : Int32) (pK5 : ClassId) (h0 : Heap) (n0 : Nat) (v : Option Value) (h : Heap) (L : List Loc) : Prop := v = none ∧ Fr n0 L ∧ Keep h0 h [pR1] ∧ Arv Z h pR1 pK5 .byte (8 : Int32) [(.int ((pI2 >>> ((0 : Int32) &&& 31)).toInt8.toInt32)), (.int ((pI2 >>> ((8 : Int32) &&& 31)).toInt8.toInt32)), (.int pI812), (.int pI813), (.int pI814), (.int pI815), (.int pI816), (.int pI817)] (.int (0 : Int32))
set_option maxRecDepth 65536 in
set_option maxHeartbeats 40000000 in
theorem pc0 (l : Launch) (Z : State) (a0 : Array Value) (hw : ∀ d ∈ tables_1, d.before a0 Z = true) (ws : List Jvm.Cond) (pR1 : Addr) (pI2 : Int32) (pI810 : Int32) (pI811 : Int32) (pI812 : Int32) (pI813 : Int32) (pI814 : Int32) (pI815 : Int32) (pI816 : Int32) (pI817 : Int32) (pK5 : ClassId) (h0 : Heap) (n0 : Nat) (Z0 : n0 ≤ h0.size) (S_StringUTF16__assertionsDisabled : Sta Z h0 "java/lang/StringUTF16" "$assertionsDisabled" "Z" (.int 1)) (S_StringUTF16_HI_BYTE_SHIFT : Sta Z h0 "java/lang/StringUTF16" "HI_BYTE_SHIFT" "I" (.int 0)) (g_pR1 : n0 ≤ pR1) (V_pR1 : Arv Z h0 pR1 pK5 .byte (8 : Int32) [(.int pI810), (.int pI811), (.int pI812), (.int pI813), (.int pI814), (.int pI815), (.int pI816), (.int pI817)] (.int (0 : Int32))) (S_StringUTF16_LO_BYTE_SHIFT : Sta Z h0 "java/lang/StringUTF16" "LO_BYTE_SHIFT" "I" (.int 8)) :
    oM l yN5 jdk_52_method_4_code 3 none ws ({ frames := 0, cells := 0, slots := 0, locals := 0 } : Room) #[(.ref pR1), (.int 0), (.int pI2)] Z h0 (Qpc0 Z pR1 pI2 pI810 pI811 pI812 pI813 pI814 pI815 pI816 pI817 pK5 h0 n0) := by
  refine MetFree.of_bodySF (plainFor_of_name pn_1) hisR ?_
  intro p e s m args below meth c s₁ Bd hml0 hP hK
  obtain ⟨rfl, hZ, hh⟩ := hP
  have hx := Bd.exec
  have hby := Bd.bytes
  have hml : c.maxLocals = 3 := hml0
  have hown : s.vm.findClass "java/lang/StringUTF16" = some m.cls := findClass_of_methodNamed Bd.named
  have hnm := (name_of_methodNamed Bd.named Bd.method).1
  have X0 : Stand p l e ({ frames := 0, cells := 0, slots := 0, locals := 0 } : Room) s m #[(.ref pR1), (.int 0), (.int pI2)] below meth c s₁ [] 0 0 := Stand.of_body Bd
  have e0 : s₁.heap = h0 := by rw [← hh, Bd.state]; rfl
  have N0 := Fr.nil n0
  obtain ⟨T3, X3, e3, st3⟩ := getS2 X0 hx hZ hown (host := "") (Or.inl (ow hw 88 rfl)) Via.refl e0 S_StringUTF16__assertionsDisabled (g := (mkF m 0 #[.val (.ref pR1), .val (.int 0), .val (.int pI2)] [])) rfl (hb hby d19_0)
  obtain ⟨T4, X4, e4, st4⟩ := getS2 X3 hx hZ hown (host := "") (Or.inl (ow hw 89 rfl)) Via.refl e3 S_StringUTF16_HI_BYTE_SHIFT (g := (mkF m 38 #[.val (.ref pR1), .val (.int 1), .val (.int pI2)] [(.int pI2), (.int 0), (.ref pR1)])) rfl (hb hby d19_38)
  obtain ⟨clq6, Arq6, Akq6, Asq6, Anq6, Ahq6, Agq6⟩ := id V_pR1
  have hin7 : ¬ ((0 : Int32) < 0 ∨ clq6.slots.size ≤ ((0 : Int32)).toNatClampNeg) := inb_of Asq6 ⟨by decide, by decide⟩
  obtain ⟨T8, h8, X8, e8, W8, st8⟩ := stB X4 hx hZ e4 Arq6 (j := (0 : Int32)) hin7 (g := (mkF m 43 #[.val (.ref pR1), .val (.int 1), .val (.int pI2)] [(.int ((pI2 >>> ((0 : Int32) &&& 31)).toInt8.toInt32)), (.int 0), (.ref pR1)])) rfl rfl (hb hby d19_43)
  rw [own_bb] at W8
  have K9 : Keep h0 h8 [pR1] := (Keep.refl h0 [pR1]).wr W8 (Or.inl (List.mem_of_getElem? (i := 0) rfl))
  have Z10 : n0 ≤ h8.size := (Nat.le_trans Z0 (Keep.of_wr W8).1)
  have N8 := Fr.snoc X8 N0 g_pR1
  obtain ⟨Lh8, X8, N8⟩ := own_hide X8 N8
  have V8 : Arv Z h8 pR1 pK5 .byte (8 : Int32) [(.int ((pI2 >>> ((0 : Int32) &&& 31)).toInt8.toInt32)), (.int pI811), (.int pI812), (.int pI813), (.int pI814), (.int pI815), (.int pI816), (.int pI817)] (.int (0 : Int32)) := Arv.set Arq6 Akq6 Asq6 Anq6 Ahq6 Agq6 (by first | rfl | exact fits_nar_byte _) W8 0 rfl (Nat.le_of_ble_eq_true rfl)
  have c11 : Sta Z h8 "java/lang/StringUTF16" "LO_BYTE_SHIFT" "I" (.int 8) := S_StringUTF16_LO_BYTE_SHIFT.wr W8
  obtain ⟨T12, X12, e12, st12⟩ := getS2 X8 hx hZ hown (host := "") (Or.inl (ow hw 90 rfl)) Via.refl e8 c11 (g := (mkF m 47 #[.val (.ref pR1), .val (.int 1), .val (.int pI2)] [(.int pI2), (.int 1), (.ref pR1)])) rfl (hb hby d19_47)
  obtain ⟨clq13, Arq13, Akq13, Asq13, Anq13, Ahq13, Agq13⟩ := id V8
  have hin14 : ¬ ((1 : Int32) < 0 ∨ clq13.slots.size ≤ ((1 : Int32)).toNatClampNeg) := inb_of Asq13 ⟨by decide, by decide⟩
  obtain ⟨T15, h15, X15, e15, W15, st15⟩ := stB X12 hx hZ e12 Arq13 (j := (1 : Int32)) hin14 (g := (mkF m 52 #[.val (.ref pR1), .val (.int 1), .val (.int pI2)] [(.int ((pI2 >>> ((8 : Int32) &&& 31)).toInt8.toInt32)), (.int 1), (.ref pR1)])) rfl rfl (hb hby d19_52)
  rw [own_bb] at W15
  have K16 : Keep h0 h15 [pR1] := K9.wr W15 (Or.inl (List.mem_of_getElem? (i := 0) rfl))
  have Z17 : n0 ≤ h15.size := (Nat.le_trans Z10 (Keep.of_wr W15).1)
  have N15 := Fr.snoc X15 N8 g_pR1
  obtain ⟨Lh15, X15, N15⟩ := own_hide X15 N15
  have V15 : Arv Z h15 pR1 pK5 .byte (8 : Int32) [(.int ((pI2 >>> ((0 : Int32) &&& 31)).toInt8.toInt32)), (.int ((pI2 >>> ((8 : Int32) &&& 31)).toInt8.toInt32)), (.int pI812), (.int pI813), (.int pI814), (.int pI815), (.int pI816), (.int pI817)] (.int (0 : Int32)) := Arv.set Arq13 Akq13 Asq13 Anq13 Ahq13 Agq13 (by first | rfl | exact fits_nar_byte _) W15 1 rfl (Nat.le_of_ble_eq_true rfl)
  obtain ⟨fs, hr, hrun, hended, hW, hsame⟩ := X15.leave (v := none) (fun _ => rfl)
  refine ⟨_, _, castTop (ef_pc0 m pR1 pI2) ?_, hrun, hended, _, _, rfl, ?_, ⟨_, rfl⟩, hW, hsame.mono (by decide) (by decide)⟩
  · show oS p e below s₁ m 0 #[.val (.ref pR1), .val (.int 0), .val (.int pI2)] [] _
    refine st3 _ ?_
    refine XS.ifYes X3.here hx rfl (pc0 := 3) (pc' := 28) rfl (hb hby d19_3) rfl ((if0 _ _).trans (feq (by decide : ¬ ((1 : Int32) = (0 : Int32)))).2) (by decide) (by decide) ?_
    refine XS.iloadN X3.here hx rfl (hb hby d19_28) rfl ?_
    refine XS.iconst X3.here hx rfl (hb hby d19_29) ?_
    refine XS.ishl X3.here hx rfl (hb hby d19_30) rfl ?_
    refine XS.istoreN X3.here hx rfl (hb hby d19_31) rfl (l' := #[.val (.ref pR1), .val (.int 0), .val (.int pI2)]) rfl ?_
    show oS p e below T3 m 32 #[.val (.ref pR1), .val (.int 0), .val (.int pI2)] [] _
    refine XS.aloadN X3.here hx rfl (hb hby d19_32) rfl rfl ?_
    refine XS.iloadN X3.here hx rfl (hb hby d19_33) rfl ?_
    refine XS.iinc X3.here hx rfl (hb hby d19_34) rfl (l' := #[.val (.ref pR1), .val (.int 1), .val (.int pI2)]) rfl ?_
    refine XS.iloadN X3.here hx rfl (hb hby d19_37) rfl ?_
    refine st4 _ ?_
    refine XS.ishr X4.here hx rfl (hb hby d19_41) rfl ?_
    show oS p e below T4 m 42 #[.val (.ref pR1), .val (.int 1), .val (.int pI2)] [(.int (pI2 >>> ((0 : Int32) &&& 31))), (.int 0), (.ref pR1)] _
    refine XS.i2b X4.here hx rfl (hb hby d19_42) rfl ?_
    refine st8 _ ?_
    refine XS.aloadN X8.here hx rfl (hb hby d19_44) rfl rfl ?_
    refine XS.iloadN X8.here hx rfl (hb hby d19_45) rfl ?_
    refine XS.iloadN X8.here hx rfl (hb hby d19_46) rfl ?_
    refine st12 _ ?_
    show oS p e below T12 m 50 #[.val (.ref pR1), .val (.int 1), .val (.int pI2)] [(.int 8), (.int pI2), (.int 1), (.ref pR1)] _
    refine XS.ishr X12.here hx rfl (hb hby d19_50) rfl ?_
    refine XS.i2b X12.here hx rfl (hb hby d19_51) rfl ?_
    refine st15 _ ?_
    exact X15.returnOut hx Bd.returns (hb hby d19_53) hr
  · show Qpc0 Z pR1 pI2 pI810 pI811 pI812 pI813 pI814 pI815 pI816 pI817 pK5 h0 n0 _ T15.heap _
    rw [e15]
    exact ⟨rfl, N15, K16, V15⟩
theorem ef_pc1 (m : MethodId) (pR1 : Addr) (pI2 : Int32) : entryFrame m #[(.ref pR1), (.int 1), (.int pI2)] 3 = mkF m 0 #[.val (.ref pR1), .val (.int 1), .val (.int pI2)] [] := by first | (simp [entryFrame, mkF, argsToLocals, Value.category]; done) | rfl
def Qpc1 (Z : State) (pR1 : Addr) (pI2 : Int32) (pI810 : Int32) (pI811 : Int32) (pI812 : Int32) (pI813 : Int32) (pI814 : Int32) (pI815 : Int32) (pI816 : Int32) (pI817 : Int32) (pK5 : ClassId) (h0 : Heap) (n0 : Nat) (v : Option Value) (h : Heap) (L : List Loc) : Prop := v = none ∧ Fr n0 L ∧ Keep h0 h [pR1] ∧ Arv Z h pR1 pK5 .byte (8 : Int32) [(.int pI810), (.int pI811), (.int ((pI2 >>> ((0 : Int32) &&& 31)).toInt8.toInt32)), (.int ((pI2 >>> ((8 : Int32) &&& 31)).toInt8.toInt32)), (.int pI814), (.int pI815), (.int pI816), (.int pI817)] (.int (0 : Int32))
set_option maxRecDepth 65536 in
set_option maxHeartbeats 40000000 in
theorem pc1 (l : Launch) (Z : State) (a0 : Array Value) (hw : ∀ d ∈ tables_1, d.before a0 Z = true) (ws : List Jvm.Cond) (pR1 : Addr) (pI2 : Int32) (pI810 : Int32) (pI811 : Int32) (pI812 : Int32) (pI813 : Int32) (pI814 : Int32) (pI815 : Int32) (pI816 : Int32) (pI817 : Int32) (pK5 : ClassId) (h0 : Heap) (n0 : Nat) (Z0 : n0 ≤ h0.size) (S_StringUTF16__assertionsDisabled : Sta Z h0 "java/lang/StringUTF16" "$assertionsDisabled" "Z" (.int 1)) (S_StringUTF16_HI_BYTE_SHIFT : Sta Z h0 "java/lang/StringUTF16" "HI_BYTE_SHIFT" "I" (.int 0)) (g_pR1 : n0 ≤ pR1) (V_pR1 : Arv Z h0 pR1 pK5 .byte (8 : Int32) [(.int pI810), (.int pI811), (.int pI812), (.int pI813), (.int pI814), (.int pI815), (.int pI816), (.int pI817)] (.int (0 : Int32))) (S_StringUTF16_LO_BYTE_SHIFT : Sta Z h0 "java/lang/StringUTF16" "LO_BYTE_SHIFT" "I" (.int 8)) :
    oM l yN5 jdk_52_method_4_code 3 none ws ({ frames := 0, cells := 0, slots := 0, locals := 0 } : Room) #[(.ref pR1), (.int 1), (.int pI2)] Z h0 (Qpc1 Z pR1 pI2 pI810 pI811 pI812 pI813 pI814 pI815 pI816 pI817 pK5 h0 n0) := by
  refine MetFree.of_bodySF (plainFor_of_name pn_1) hisR ?_
  intro p e s m args below meth c s₁ Bd hml0 hP hK
  obtain ⟨rfl, hZ, hh⟩ := hP
  have hx := Bd.exec
  have hby := Bd.bytes
  have hml : c.maxLocals = 3 := hml0
  have hown : s.vm.findClass "java/lang/StringUTF16" = some m.cls := findClass_of_methodNamed Bd.named
  have hnm := (name_of_methodNamed Bd.named Bd.method).1
  have X0 : Stand p l e ({ frames := 0, cells := 0, slots := 0, locals := 0 } : Room) s m #[(.ref pR1), (.int 1), (.int pI2)] below meth c s₁ [] 0 0 := Stand.of_body Bd
  have e0 : s₁.heap = h0 := by rw [← hh, Bd.state]; rfl
  have N0 := Fr.nil n0
  obtain ⟨T3, X3, e3, st3⟩ := getS2 X0 hx hZ hown (host := "") (Or.inl (ow hw 88 rfl)) Via.refl e0 S_StringUTF16__assertionsDisabled (g := (mkF m 0 #[.val (.ref pR1), .val (.int 1), .val (.int pI2)] [])) rfl (hb hby d19_0)
  obtain ⟨T4, X4, e4, st4⟩ := getS2 X3 hx hZ hown (host := "") (Or.inl (ow hw 89 rfl)) Via.refl e3 S_StringUTF16_HI_BYTE_SHIFT (g := (mkF m 38 #[.val (.ref pR1), .val (.int 3), .val (.int pI2)] [(.int pI2), (.int 2), (.ref pR1)])) rfl (hb hby d19_38)
  obtain ⟨clq6, Arq6, Akq6, Asq6, Anq6, Ahq6, Agq6⟩ := id V_pR1
  have hin7 : ¬ ((2 : Int32) < 0 ∨ clq6.slots.size ≤ ((2 : Int32)).toNatClampNeg) := inb_of Asq6 ⟨by decide, by decide⟩
  obtain ⟨T8, h8, X8, e8, W8, st8⟩ := stB X4 hx hZ e4 Arq6 (j := (2 : Int32)) hin7 (g := (mkF m 43 #[.val (.ref pR1), .val (.int 3), .val (.int pI2)] [(.int ((pI2 >>> ((0 : Int32) &&& 31)).toInt8.toInt32)), (.int 2), (.ref pR1)])) rfl rfl (hb hby d19_43)
  rw [own_bb] at W8
  have K9 : Keep h0 h8 [pR1] := (Keep.refl h0 [pR1]).wr W8 (Or.inl (List.mem_of_getElem? (i := 0) rfl))
  have Z10 : n0 ≤ h8.size := (Nat.le_trans Z0 (Keep.of_wr W8).1)
  have N8 := Fr.snoc X8 N0 g_pR1
  obtain ⟨Lh8, X8, N8⟩ := own_hide X8 N8
  have V8 : Arv Z h8 pR1 pK5 .byte (8 : Int32) [(.int pI810), (.int pI811), (.int ((pI2 >>> ((0 : Int32) &&& 31)).toInt8.toInt32)), (.int pI813), (.int pI814), (.int pI815), (.int pI816), (.int pI817)] (.int (0 : Int32)) := Arv.set Arq6 Akq6 Asq6 Anq6 Ahq6 Agq6 (by first | rfl | exact fits_nar_byte _) W8 2 rfl (Nat.le_of_ble_eq_true rfl)
  have c11 : Sta Z h8 "java/lang/StringUTF16" "LO_BYTE_SHIFT" "I" (.int 8) := S_StringUTF16_LO_BYTE_SHIFT.wr W8
  obtain ⟨T12, X12, e12, st12⟩ := getS2 X8 hx hZ hown (host := "") (Or.inl (ow hw 90 rfl)) Via.refl e8 c11 (g := (mkF m 47 #[.val (.ref pR1), .val (.int 3), .val (.int pI2)] [(.int pI2), (.int 3), (.ref pR1)])) rfl (hb hby d19_47)
  obtain ⟨clq13, Arq13, Akq13, Asq13, Anq13, Ahq13, Agq13⟩ := id V8
  have hin14 : ¬ ((3 : Int32) < 0 ∨ clq13.slots.size ≤ ((3 : Int32)).toNatClampNeg) := inb_of Asq13 ⟨by decide, by decide⟩
  obtain ⟨T15, h15, X15, e15, W15, st15⟩ := stB X12 hx hZ e12 Arq13 (j := (3 : Int32)) hin14 (g := (mkF m 52 #[.val (.ref pR1), .val (.int 3), .val (.int pI2)] [(.int ((pI2 >>> ((8 : Int32) &&& 31)).toInt8.toInt32)), (.int 3), (.ref pR1)])) rfl rfl (hb hby d19_52)
  rw [own_bb] at W15
  have K16 : Keep h0 h15 [pR1] := K9.wr W15 (Or.inl (List.mem_of_getElem? (i := 0) rfl))
  have Z17 : n0 ≤ h15.size := (Nat.le_trans Z10 (Keep.of_wr W15).1)
  have N15 := Fr.snoc X15 N8 g_pR1
  obtain ⟨Lh15, X15, N15⟩ := own_hide X15 N15
  have V15 : Arv Z h15 pR1 pK5 .byte (8 : Int32) [(.int pI810), (.int pI811), (.int ((pI2 >>> ((0 : Int32) &&& 31)).toInt8.toInt32)), (.int ((pI2 >>> ((8 : Int32) &&& 31)).toInt8.toInt32)), (.int pI814), (.int pI815), (.int pI816), (.int pI817)] (.int (0 : Int32)) := Arv.set Arq13 Akq13 Asq13 Anq13 Ahq13 Agq13 (by first | rfl | exact fits_nar_byte _) W15 3 rfl (Nat.le_of_ble_eq_true rfl)
  obtain ⟨fs, hr, hrun, hended, hW, hsame⟩ := X15.leave (v := none) (fun _ => rfl)
  refine ⟨_, _, castTop (ef_pc1 m pR1 pI2) ?_, hrun, hended, _, _, rfl, ?_, ⟨_, rfl⟩, hW, hsame.mono (by decide) (by decide)⟩
  · show oS p e below s₁ m 0 #[.val (.ref pR1), .val (.int 1), .val (.int pI2)] [] _
    refine st3 _ ?_
    refine XS.ifYes X3.here hx rfl (pc0 := 3) (pc' := 28) rfl (hb hby d19_3) rfl ((if0 _ _).trans (feq (by decide : ¬ ((1 : Int32) = (0 : Int32)))).2) (by decide) (by decide) ?_
    refine XS.iloadN X3.here hx rfl (hb hby d19_28) rfl ?_
    refine XS.iconst X3.here hx rfl (hb hby d19_29) ?_
    refine XS.ishl X3.here hx rfl (hb hby d19_30) rfl ?_
    refine XS.istoreN X3.here hx rfl (hb hby d19_31) rfl (l' := #[.val (.ref pR1), .val (.int 2), .val (.int pI2)]) rfl ?_
    show oS p e below T3 m 32 #[.val (.ref pR1), .val (.int 2), .val (.int pI2)] [] _
    refine XS.aloadN X3.here hx rfl (hb hby d19_32) rfl rfl ?_
    refine XS.iloadN X3.here hx rfl (hb hby d19_33) rfl ?_
    refine XS.iinc X3.here hx rfl (hb hby d19_34) rfl (l' := #[.val (.ref pR1), .val (.int 3), .val (.int pI2)]) rfl ?_
    refine XS.iloadN X3.here hx rfl (hb hby d19_37) rfl ?_
    refine st4 _ ?_
    refine XS.ishr X4.here hx rfl (hb hby d19_41) rfl ?_
    show oS p e below T4 m 42 #[.val (.ref pR1), .val (.int 3), .val (.int pI2)] [(.int (pI2 >>> ((0 : Int32) &&& 31))), (.int 2), (.ref pR1)] _
    refine XS.i2b X4.here hx rfl (hb hby d19_42) rfl ?_
    refine st8 _ ?_
    refine XS.aloadN X8.here hx rfl (hb hby d19_44) rfl rfl ?_
    refine XS.iloadN X8.here hx rfl (hb hby d19_45) rfl ?_
    refine XS.iloadN X8.here hx rfl (hb hby d19_46) rfl ?_
    refine st12 _ ?_
    show oS p e below T12 m 50 #[.val (.ref pR1), .val (.int 3), .val (.int pI2)] [(.int 8), (.int pI2), (.int 3), (.ref pR1)] _
    refine XS.ishr X12.here hx rfl (hb hby d19_50) rfl ?_
    refine XS.i2b X12.here hx rfl (hb hby d19_51) rfl ?_
    refine st15 _ ?_
    exact X15.returnOut hx Bd.returns (hb hby d19_53) hr
  · show Qpc1 Z pR1 pI2 pI810 pI811 pI812 pI813 pI814 pI815 pI816 pI817 pK5 h0 n0 _ T15.heap _
    rw [e15]
    exact ⟨rfl, N15, K16, V15⟩
theorem ef_pc2 (m : MethodId) (pR1 : Addr) (pI2 : Int32) : entryFrame m #[(.ref pR1), (.int 2), (.int pI2)] 3 = mkF m 0 #[.val (.ref pR1), .val (.int 2), .val (.int pI2)] [] := by first | (simp [entryFrame, mkF, argsToLocals, Value.category]; done) | rfl
def Qpc2 (Z : State) (pR1 : Addr) (pI2 : Int32) (pI810 : Int32) (pI811 : Int32) (pI812 : Int32) (pI813 : Int32) (pI814 : Int32) (pI815 : Int32) (pI816 : Int32) (pI817 : Int32) (pK5 : ClassId) (h0 : Heap) (n0 : Nat) (v : Option Value) (h : Heap) (L : List Loc) : Prop := v = none ∧ Fr n0 L ∧ Keep h0 h [pR1] ∧ Arv Z h pR1 pK5 .byte (8 : Int32) [(.int pI810), (.int pI811), (.int pI812), (.int pI813), (.int ((pI2 >>> ((0 : Int32) &&& 31)).toInt8.toInt32)), (.int ((pI2 >>> ((8 : Int32) &&& 31)).toInt8.toInt32)), (.int pI816), (.int pI817)] (.int (0 : Int32))
set_option maxRecDepth 65536 in
set_option maxHeartbeats 40000000 in
theorem pc2 (l : Launch) (Z : State) (a0 : Array Value) (hw : ∀ d ∈ tables_1, d.before a0 Z = true) (ws : List Jvm.Cond) (pR1 : Addr) (pI2 : Int32) (pI810 : Int32) (pI811 : Int32) (pI812 : Int32) (pI813 : Int32) (pI814 : Int32) (pI815 : Int32) (pI816 : Int32) (pI817 : Int32) (pK5 : ClassId) (h0 : Heap) (n0 : Nat) (Z0 : n0 ≤ h0.size) (S_StringUTF16__assertionsDisabled : Sta Z h0 "java/lang/StringUTF16" "$assertionsDisabled" "Z" (.int 1)) (S_StringUTF16_HI_BYTE_SHIFT : Sta Z h0 "java/lang/StringUTF16" "HI_BYTE_SHIFT" "I" (.int 0)) (g_pR1 : n0 ≤ pR1) (V_pR1 : Arv Z h0 pR1 pK5 .byte (8 : Int32) [(.int pI810), (.int pI811), (.int pI812), (.int pI813), (.int pI814), (.int pI815), (.int pI816), (.int pI817)] (.int (0 : Int32))) (S_StringUTF16_LO_BYTE_SHIFT : Sta Z h0 "java/lang/StringUTF16" "LO_BYTE_SHIFT" "I" (.int 8)) :
    oM l yN5 jdk_52_method_4_code 3 none ws ({ frames := 0, cells := 0, slots := 0, locals := 0 } : Room) #[(.ref pR1), (.int 2), (.int pI2)] Z h0 (Qpc2 Z pR1 pI2 pI810 pI811 pI812 pI813 pI814 pI815 pI816 pI817 pK5 h0 n0) := by
  refine MetFree.of_bodySF (plainFor_of_name pn_1) hisR ?_
  intro p e s m args below meth c s₁ Bd hml0 hP hK
  obtain ⟨rfl, hZ, hh⟩ := hP
  have hx := Bd.exec
  have hby := Bd.bytes
  have hml : c.maxLocals = 3 := hml0
  have hown : s.vm.findClass "java/lang/StringUTF16" = some m.cls := findClass_of_methodNamed Bd.named
  have hnm := (name_of_methodNamed Bd.named Bd.method).1
  have X0 : Stand p l e ({ frames := 0, cells := 0, slots := 0, locals := 0 } : Room) s m #[(.ref pR1), (.int 2), (.int pI2)] below meth c s₁ [] 0 0 := Stand.of_body Bd
  have e0 : s₁.heap = h0 := by rw [← hh, Bd.state]; rfl
  have N0 := Fr.nil n0
  obtain ⟨T3, X3, e3, st3⟩ := getS2 X0 hx hZ hown (host := "") (Or.inl (ow hw 88 rfl)) Via.refl e0 S_StringUTF16__assertionsDisabled (g := (mkF m 0 #[.val (.ref pR1), .val (.int 2), .val (.int pI2)] [])) rfl (hb hby d19_0)
  obtain ⟨T4, X4, e4, st4⟩ := getS2 X3 hx hZ hown (host := "") (Or.inl (ow hw 89 rfl)) Via.refl e3 S_StringUTF16_HI_BYTE_SHIFT (g := (mkF m 38 #[.val (.ref pR1), .val (.int 5), .val (.int pI2)] [(.int pI2), (.int 4), (.ref pR1)])) rfl (hb hby d19_38)
  obtain ⟨clq6, Arq6, Akq6, Asq6, Anq6, Ahq6, Agq6⟩ := id V_pR1
  have hin7 : ¬ ((4 : Int32) < 0 ∨ clq6.slots.size ≤ ((4 : Int32)).toNatClampNeg) := inb_of Asq6 ⟨by decide, by decide⟩
  obtain ⟨T8, h8, X8, e8, W8, st8⟩ := stB X4 hx hZ e4 Arq6 (j := (4 : Int32)) hin7 (g := (mkF m 43 #[.val (.ref pR1), .val (.int 5), .val (.int pI2)] [(.int ((pI2 >>> ((0 : Int32) &&& 31)).toInt8.toInt32)), (.int 4), (.ref pR1)])) rfl rfl (hb hby d19_43)
  rw [own_bb] at W8
  have K9 : Keep h0 h8 [pR1] := (Keep.refl h0 [pR1]).wr W8 (Or.inl (List.mem_of_getElem? (i := 0) rfl))
  have Z10 : n0 ≤ h8.size := (Nat.le_trans Z0 (Keep.of_wr W8).1)
  have N8 := Fr.snoc X8 N0 g_pR1
  obtain ⟨Lh8, X8, N8⟩ := own_hide X8 N8
  have V8 : Arv Z h8 pR1 pK5 .byte (8 : Int32) [(.int pI810), (.int pI811), (.int pI812), (.int pI813), (.int ((pI2 >>> ((0 : Int32) &&& 31)).toInt8.toInt32)), (.int pI815), (.int pI816), (.int pI817)] (.int (0 : Int32)) := Arv.set Arq6 Akq6 Asq6 Anq6 Ahq6 Agq6 (by first | rfl | exact fits_nar_byte _) W8 4 rfl (Nat.le_of_ble_eq_true rfl)
  have c11 : Sta Z h8 "java/lang/StringUTF16" "LO_BYTE_SHIFT" "I" (.int 8) := S_StringUTF16_LO_BYTE_SHIFT.wr W8
  obtain ⟨T12, X12, e12, st12⟩ := getS2 X8 hx hZ hown (host := "") (Or.inl (ow hw 90 rfl)) Via.refl e8 c11 (g := (mkF m 47 #[.val (.ref pR1), .val (.int 5), .val (.int pI2)] [(.int pI2), (.int 5), (.ref pR1)])) rfl (hb hby d19_47)
  obtain ⟨clq13, Arq13, Akq13, Asq13, Anq13, Ahq13, Agq13⟩ := id V8
  have hin14 : ¬ ((5 : Int32) < 0 ∨ clq13.slots.size ≤ ((5 : Int32)).toNatClampNeg) := inb_of Asq13 ⟨by decide, by decide⟩
  obtain ⟨T15, h15, X15, e15, W15, st15⟩ := stB X12 hx hZ e12 Arq13 (j := (5 : Int32)) hin14 (g := (mkF m 52 #[.val (.ref pR1), .val (.int 5), .val (.int pI2)] [(.int ((pI2 >>> ((8 : Int32) &&& 31)).toInt8.toInt32)), (.int 5), (.ref pR1)])) rfl rfl (hb hby d19_52)
  rw [own_bb] at W15
  have K16 : Keep h0 h15 [pR1] := K9.wr W15 (Or.inl (List.mem_of_getElem? (i := 0) rfl))
  have Z17 : n0 ≤ h15.size := (Nat.le_trans Z10 (Keep.of_wr W15).1)
  have N15 := Fr.snoc X15 N8 g_pR1
  obtain ⟨Lh15, X15, N15⟩ := own_hide X15 N15
  have V15 : Arv Z h15 pR1 pK5 .byte (8 : Int32) [(.int pI810), (.int pI811), (.int pI812), (.int pI813), (.int ((pI2 >>> ((0 : Int32) &&& 31)).toInt8.toInt32)), (.int ((pI2 >>> ((8 : Int32) &&& 31)).toInt8.toInt32)), (.int pI816), (.int pI817)] (.int (0 : Int32)) := Arv.set Arq13 Akq13 Asq13 Anq13 Ahq13 Agq13 (by first | rfl | exact fits_nar_byte _) W15 5 rfl (Nat.le_of_ble_eq_true rfl)
  obtain ⟨fs, hr, hrun, hended, hW, hsame⟩ := X15.leave (v := none) (fun _ => rfl)
  refine ⟨_, _, castTop (ef_pc2 m pR1 pI2) ?_, hrun, hended, _, _, rfl, ?_, ⟨_, rfl⟩, hW, hsame.mono (by decide) (by decide)⟩
  · show oS p e below s₁ m 0 #[.val (.ref pR1), .val (.int 2), .val (.int pI2)] [] _
    refine st3 _ ?_
    refine XS.ifYes X3.here hx rfl (pc0 := 3) (pc' := 28) rfl (hb hby d19_3) rfl ((if0 _ _).trans (feq (by decide : ¬ ((1 : Int32) = (0 : Int32)))).2) (by decide) (by decide) ?_
    refine XS.iloadN X3.here hx rfl (hb hby d19_28) rfl ?_
    refine XS.iconst X3.here hx rfl (hb hby d19_29) ?_
    refine XS.ishl X3.here hx rfl (hb hby d19_30) rfl ?_
    refine XS.istoreN X3.here hx rfl (hb hby d19_31) rfl (l' := #[.val (.ref pR1), .val (.int 4), .val (.int pI2)]) rfl ?_
    show oS p e below T3 m 32 #[.val (.ref pR1), .val (.int 4), .val (.int pI2)] [] _
    refine XS.aloadN X3.here hx rfl (hb hby d19_32) rfl rfl ?_
    refine XS.iloadN X3.here hx rfl (hb hby d19_33) rfl ?_
    refine XS.iinc X3.here hx rfl (hb hby d19_34) rfl (l' := #[.val (.ref pR1), .val (.int 5), .val (.int pI2)]) rfl ?_
    refine XS.iloadN X3.here hx rfl (hb hby d19_37) rfl ?_
    refine st4 _ ?_
    refine XS.ishr X4.here hx rfl (hb hby d19_41) rfl ?_
    show oS p e below T4 m 42 #[.val (.ref pR1), .val (.int 5), .val (.int pI2)] [(.int (pI2 >>> ((0 : Int32) &&& 31))), (.int 4), (.ref pR1)] _
    refine XS.i2b X4.here hx rfl (hb hby d19_42) rfl ?_
    refine st8 _ ?_
    refine XS.aloadN X8.here hx rfl (hb hby d19_44) rfl rfl ?_
    refine XS.iloadN X8.here hx rfl (hb hby d19_45) rfl ?_
    refine XS.iloadN X8.here hx rfl (hb hby d19_46) rfl ?_
    refine st12 _ ?_
    show oS p e below T12 m 50 #[.val (.ref pR1), .val (.int 5), .val (.int pI2)] [(.int 8), (.int pI2), (.int 5), (.ref pR1)] _
    refine XS.ishr X12.here hx rfl (hb hby d19_50) rfl ?_
    refine XS.i2b X12.here hx rfl (hb hby d19_51) rfl ?_
    refine st15 _ ?_
    exact X15.returnOut hx Bd.returns (hb hby d19_53) hr
  · show Qpc2 Z pR1 pI2 pI810 pI811 pI812 pI813 pI814 pI815 pI816 pI817 pK5 h0 n0 _ T15.heap _
    rw [e15]
    exact ⟨rfl, N15, K16, V15⟩
theorem ef_pc3 (m : MethodId) (pR1 : Addr) (pI2 : Int32) : entryFrame m #[(.ref pR1), (.int 3), (.int pI2)] 3 = mkF m 0 #[.val (.ref pR1), .val (.int 3), .val (.int pI2)] [] := by first | (simp [entryFrame, mkF, argsToLocals, Value.category]; done) | rfl
def Qpc3 (Z : State) (pR1 : Addr) (pI2 : Int32) (pI810 : Int32) (pI811 : Int32) (pI812 : Int32) (pI813 : Int32) (pI814 : Int32) (pI815 : Int32) (pI816 : Int32) (pI817 : Int32) (pK5 : ClassId) (h0 : Heap) (n0 : Nat) (v : Option Value) (h : Heap) (L : List Loc) : Prop := v = none ∧ Fr n0 L ∧ Keep h0 h [pR1] ∧ Arv Z h pR1 pK5 .byte (8 : Int32) [(.int pI810), (.int pI811), (.int pI812), (.int pI813), (.int pI814), (.int pI815), (.int ((pI2 >>> ((0 : Int32) &&& 31)).toInt8.toInt32)), (.int ((pI2 >>> ((8 : Int32) &&& 31)).toInt8.toInt32))] (.int (0 : Int32))
set_option maxRecDepth 65536 in
set_option maxHeartbeats 40000000 in
theorem pc3 (l : Launch) (Z : State) (a0 : Array Value) (hw : ∀ d ∈ tables_1, d.before a0 Z = true) (ws : List Jvm.Cond) (pR1 : Addr) (pI2 : Int32) (pI810 : Int32) (pI811 : Int32) (pI812 : Int32) (pI813 : Int32) (pI814 : Int32) (pI815 : Int32) (pI816 : Int32) (pI817 : Int32) (pK5 : ClassId) (h0 : Heap) (n0 : Nat) (Z0 : n0 ≤ h0.size) (S_StringUTF16__assertionsDisabled : Sta Z h0 "java/lang/StringUTF16" "$assertionsDisabled" "Z" (.int 1)) (S_StringUTF16_HI_BYTE_SHIFT : Sta Z h0 "java/lang/StringUTF16" "HI_BYTE_SHIFT" "I" (.int 0)) (g_pR1 : n0 ≤ pR1) (V_pR1 : Arv Z h0 pR1 pK5 .byte (8 : Int32) [(.int pI810), (.int pI811), (.int pI812), (.int pI813), (.int pI814), (.int pI815), (.int pI816), (.int pI817)] (.int (0 : Int32))) (S_StringUTF16_LO_BYTE_SHIFT : Sta Z h0 "java/lang/StringUTF16" "LO_BYTE_SHIFT" "I" (.int 8)) :
    oM l yN5 jdk_52_method_4_code 3 none ws ({ frames := 0, cells := 0, slots := 0, locals := 0 } : Room) #[(.ref pR1), (.int 3), (.int pI2)] Z h0 (Qpc3 Z pR1 pI2 pI810 pI811 pI812 pI813 pI814 pI815 pI816 pI817 pK5 h0 n0) := by
  refine MetFree.of_bodySF (plainFor_of_name pn_1) hisR ?_
  intro p e s m args below meth c s₁ Bd hml0 hP hK
  obtain ⟨rfl, hZ, hh⟩ := hP
  have hx := Bd.exec
  have hby := Bd.bytes
  have hml : c.maxLocals = 3 := hml0
  have hown : s.vm.findClass "java/lang/StringUTF16" = some m.cls := findClass_of_methodNamed Bd.named
  have hnm := (name_of_methodNamed Bd.named Bd.method).1
  have X0 : Stand p l e ({ frames := 0, cells := 0, slots := 0, locals := 0 } : Room) s m #[(.ref pR1), (.int 3), (.int pI2)] below meth c s₁ [] 0 0 := Stand.of_body Bd
  have e0 : s₁.heap = h0 := by rw [← hh, Bd.state]; rfl
  have N0 := Fr.nil n0
  obtain ⟨T3, X3, e3, st3⟩ := getS2 X0 hx hZ hown (host := "") (Or.inl (ow hw 88 rfl)) Via.refl e0 S_StringUTF16__assertionsDisabled (g := (mkF m 0 #[.val (.ref pR1), .val (.int 3), .val (.int pI2)] [])) rfl (hb hby d19_0)
  obtain ⟨T4, X4, e4, st4⟩ := getS2 X3 hx hZ hown (host := "") (Or.inl (ow hw 89 rfl)) Via.refl e3 S_StringUTF16_HI_BYTE_SHIFT (g := (mkF m 38 #[.val (.ref pR1), .val (.int 7), .val (.int pI2)] [(.int pI2), (.int 6), (.ref pR1)])) rfl (hb hby d19_38)
  obtain ⟨clq6, Arq6, Akq6, Asq6, Anq6, Ahq6, Agq6⟩ := id V_pR1
  have hin7 : ¬ ((6 : Int32) < 0 ∨ clq6.slots.size ≤ ((6 : Int32)).toNatClampNeg) := inb_of Asq6 ⟨by decide, by decide⟩
  obtain ⟨T8, h8, X8, e8, W8, st8⟩ := stB X4 hx hZ e4 Arq6 (j := (6 : Int32)) hin7 (g := (mkF m 43 #[.val (.ref pR1), .val (.int 7), .val (.int pI2)] [(.int ((pI2 >>> ((0 : Int32) &&& 31)).toInt8.toInt32)), (.int 6), (.ref pR1)])) rfl rfl (hb hby d19_43)
  rw [own_bb] at W8
  have K9 : Keep h0 h8 [pR1] := (Keep.refl h0 [pR1]).wr W8 (Or.inl (List.mem_of_getElem? (i := 0) rfl))
  have Z10 : n0 ≤ h8.size := (Nat.le_trans Z0 (Keep.of_wr W8).1)
  have N8 := Fr.snoc X8 N0 g_pR1
  obtain ⟨Lh8, X8, N8⟩ := own_hide X8 N8
  have V8 : Arv Z h8 pR1 pK5 .byte (8 : Int32) [(.int pI810), (.int pI811), (.int pI812), (.int pI813), (.int pI814), (.int pI815), (.int ((pI2 >>> ((0 : Int32) &&& 31)).toInt8.toInt32)), (.int pI817)] (.int (0 : Int32)) := Arv.set Arq6 Akq6 Asq6 Anq6 Ahq6 Agq6 (by first | rfl | exact fits_nar_byte _) W8 6 rfl (Nat.le_of_ble_eq_true rfl)
  have c11 : Sta Z h8 "java/lang/StringUTF16" "LO_BYTE_SHIFT" "I" (.int 8) := S_StringUTF16_LO_BYTE_SHIFT.wr W8
  obtain ⟨T12, X12, e12, st12⟩ := getS2 X8 hx hZ hown (host := "") (Or.inl (ow hw 90 rfl)) Via.refl e8 c11 (g := (mkF m 47 #[.val (.ref pR1), .val (.int 7), .val (.int pI2)] [(.int pI2), (.int 7), (.ref pR1)])) rfl (hb hby d19_47)
  obtain ⟨clq13, Arq13, Akq13, Asq13, Anq13, Ahq13, Agq13⟩ := id V8
  have hin14 : ¬ ((7 : Int32) < 0 ∨ clq13.slots.size ≤ ((7 : Int32)).toNatClampNeg) := inb_of Asq13 ⟨by decide, by decide⟩
  obtain ⟨T15, h15, X15, e15, W15, st15⟩ := stB X12 hx hZ e12 Arq13 (j := (7 : Int32)) hin14 (g := (mkF m 52 #[.val (.ref pR1), .val (.int 7), .val (.int pI2)] [(.int ((pI2 >>> ((8 : Int32) &&& 31)).toInt8.toInt32)), (.int 7), (.ref pR1)])) rfl rfl (hb hby d19_52)
  rw [own_bb] at W15
  have K16 : Keep h0 h15 [pR1] := K9.wr W15 (Or.inl (List.mem_of_getElem? (i := 0) rfl))
  have Z17 : n0 ≤ h15.size := (Nat.le_trans Z10 (Keep.of_wr W15).1)
  have N15 := Fr.snoc X15 N8 g_pR1
  obtain ⟨Lh15, X15, N15⟩ := own_hide X15 N15
  have V15 : Arv Z h15 pR1 pK5 .byte (8 : Int32) [(.int pI810), (.int pI811), (.int pI812), (.int pI813), (.int pI814), (.int pI815), (.int ((pI2 >>> ((0 : Int32) &&& 31)).toInt8.toInt32)), (.int ((pI2 >>> ((8 : Int32) &&& 31)).toInt8.toInt32))] (.int (0 : Int32)) := Arv.set Arq13 Akq13 Asq13 Anq13 Ahq13 Agq13 (by first | rfl | exact fits_nar_byte _) W15 7 rfl (Nat.le_of_ble_eq_true rfl)
  obtain ⟨fs, hr, hrun, hended, hW, hsame⟩ := X15.leave (v := none) (fun _ => rfl)
  refine ⟨_, _, castTop (ef_pc3 m pR1 pI2) ?_, hrun, hended, _, _, rfl, ?_, ⟨_, rfl⟩, hW, hsame.mono (by decide) (by decide)⟩
  · show oS p e below s₁ m 0 #[.val (.ref pR1), .val (.int 3), .val (.int pI2)] [] _
    refine st3 _ ?_
    refine XS.ifYes X3.here hx rfl (pc0 := 3) (pc' := 28) rfl (hb hby d19_3) rfl ((if0 _ _).trans (feq (by decide : ¬ ((1 : Int32) = (0 : Int32)))).2) (by decide) (by decide) ?_
    refine XS.iloadN X3.here hx rfl (hb hby d19_28) rfl ?_
    refine XS.iconst X3.here hx rfl (hb hby d19_29) ?_
    refine XS.ishl X3.here hx rfl (hb hby d19_30) rfl ?_
    refine XS.istoreN X3.here hx rfl (hb hby d19_31) rfl (l' := #[.val (.ref pR1), .val (.int 6), .val (.int pI2)]) rfl ?_
    show oS p e below T3 m 32 #[.val (.ref pR1), .val (.int 6), .val (.int pI2)] [] _
    refine XS.aloadN X3.here hx rfl (hb hby d19_32) rfl rfl ?_
    refine XS.iloadN X3.here hx rfl (hb hby d19_33) rfl ?_
    refine XS.iinc X3.here hx rfl (hb hby d19_34) rfl (l' := #[.val (.ref pR1), .val (.int 7), .val (.int pI2)]) rfl ?_
    refine XS.iloadN X3.here hx rfl (hb hby d19_37) rfl ?_
    refine st4 _ ?_
    refine XS.ishr X4.here hx rfl (hb hby d19_41) rfl ?_
    show oS p e below T4 m 42 #[.val (.ref pR1), .val (.int 7), .val (.int pI2)] [(.int (pI2 >>> ((0 : Int32) &&& 31))), (.int 6), (.ref pR1)] _
    refine XS.i2b X4.here hx rfl (hb hby d19_42) rfl ?_
    refine st8 _ ?_
    refine XS.aloadN X8.here hx rfl (hb hby d19_44) rfl rfl ?_
    refine XS.iloadN X8.here hx rfl (hb hby d19_45) rfl ?_
    refine XS.iloadN X8.here hx rfl (hb hby d19_46) rfl ?_
    refine st12 _ ?_
    show oS p e below T12 m 50 #[.val (.ref pR1), .val (.int 7), .val (.int pI2)] [(.int 8), (.int pI2), (.int 7), (.ref pR1)] _
    refine XS.ishr X12.here hx rfl (hb hby d19_50) rfl ?_
    refine XS.i2b X12.here hx rfl (hb hby d19_51) rfl ?_
    refine st15 _ ?_
    exact X15.returnOut hx Bd.returns (hb hby d19_53) hr
  · show Qpc3 Z pR1 pI2 pI810 pI811 pI812 pI813 pI814 pI815 pI816 pI817 pK5 h0 n0 _ T15.heap _
    rw [e15]
    exact ⟨rfl, N15, K16, V15⟩
theorem d16_0 : decode jdk_52_method_14_code 0 = .ok (.iload_n 2, 1) := by decide +kernel
theorem d16_1 : decode jdk_52_method_14_code 1 = .ok (.invokestatic 107, 3) := by decide +kernel
theorem pd_1 : parseMethodDescriptor "(I)[B" = some ⟨[.int], some (.array .byte)⟩ := by decide +kernel
theorem d16_4 : decode jdk_52_method_14_code 4 = .ok (.astore_n 3, 1) := by decide +kernel
theorem d16_5 : decode jdk_52_method_14_code 5 = .ok (.iconst 0, 1) := by decide +kernel
theorem d16_6 : decode jdk_52_method_14_code 6 = .ok (.istore 4, 2) := by decide +kernel
theorem d16_8 : decode jdk_52_method_14_code 8 = .ok (.iload 4, 2) := by decide +kernel
theorem d16_10 : decode jdk_52_method_14_code 10 = .ok (.iload_n 2, 1) := by decide +kernel
theorem d16_11 : decode jdk_52_method_14_code 11 = .ok (.if_icmp .ge 21, 3) := by decide +kernel
theorem d16_14 : decode jdk_52_method_14_code 14 = .ok (.aload_n 3, 1) := by decide +kernel
theorem d16_15 : decode jdk_52_method_14_code 15 = .ok (.iload 4, 2) := by decide +kernel
theorem d16_17 : decode jdk_52_method_14_code 17 = .ok (.aload_n 0, 1) := by decide +kernel
theorem d16_18 : decode jdk_52_method_14_code 18 = .ok (.iload_n 1, 1) := by decide +kernel
theorem d16_19 : decode jdk_52_method_14_code 19 = .ok (.caload, 1) := by decide +kernel
theorem d16_20 : decode jdk_52_method_14_code 20 = .ok (.invokestatic 111, 3) := by decide +kernel
theorem pd_2 : parseMethodDescriptor "([BII)V" = some ⟨[(.array .byte), .int, .int], none⟩ := by decide +kernel
theorem d16_23 : decode jdk_52_method_14_code 23 = .ok (.iinc 1 1, 3) := by decide +kernel
theorem d16_26 : decode jdk_52_method_14_code 26 = .ok (.iinc 4 1, 3) := by decide +kernel
theorem d16_29 : decode jdk_52_method_14_code 29 = .ok (.goto (-21), 3) := by decide +kernel
theorem d16_32 : decode jdk_52_method_14_code 32 = .ok (.aload_n 3, 1) := by decide +kernel
theorem d16_33 : decode jdk_52_method_14_code 33 = .ok (.areturn, 1) := by decide +kernel
theorem ef_toB (m : MethodId) (pR1 : Addr) : entryFrame m #[(.ref pR1), (.int 0), (.int 4)] 5 = mkF m 0 #[.val (.ref pR1), .val (.int 0), .val (.int 4), .unset, .unset] [] := by first | (simp [entryFrame, mkF, argsToLocals, Value.category]; done) | rfl
def QtoB (Z : State) (pR1 : Addr) (pI801 : Int32) (pI802 : Int32) (pI803 : Int32) (pI804 : Int32) (pK5 : ClassId) (h0 : Heap) (n0 : Nat) (v : Option Value) (h : Heap) (L : List Loc) : Prop := ∃ bR2_0 : Addr, ∃ kK2_0 : ClassId, v = some (.ref bR2_0) ∧ Fr n0 L ∧ Keep h0 h [] ∧ h0.size ≤ bR2_0 ∧ Arv Z h bR2_0 kK2_0 .byte (8 : Int32) [(.int ((pI801 >>> ((0 : Int32) &&& 31)).toInt8.toInt32)), (.int ((pI801 >>> ((8 : Int32) &&& 31)).toInt8.toInt32)), (.int ((pI802 >>> ((0 : Int32) &&& 31)).toInt8.toInt32)), (.int ((pI802 >>> ((8 : Int32) &&& 31)).toInt8.toInt32)), (.int ((pI803 >>> ((0 : Int32) &&& 31)).toInt8.toInt32)), (.int ((pI803 >>> ((8 : Int32) &&& 31)).toInt8.toInt32)), (.int ((pI804 >>> ((0 : Int32) &&& 31)).toInt8.toInt32)), (.int ((pI804 >>> ((8 : Int32) &&& 31)).toInt8.toInt32))] (.int (0 : Int32))
set_option maxRecDepth 65536 in
set_option maxHeartbeats 40000000 in
theorem toB (l : Launch) (Z : State) (a0 : Array Value) (hw : ∀ d ∈ tables_1, d.before a0 Z = true) (ws : List Jvm.Cond) (pR1 : Addr) (pI801 : Int32) (pI802 : Int32) (pI803 : Int32) (pI804 : Int32) (pK5 : ClassId) (h0 : Heap) (n0 : Nat) (Z0 : n0 ≤ h0.size) (V_pR1 : Arv Z h0 pR1 pK5 .char (4 : Int32) [(.int pI801), (.int pI802), (.int pI803), (.int pI804)] (.int (0 : Int32))) (S_StringUTF16__assertionsDisabled : Sta Z h0 "java/lang/StringUTF16" "$assertionsDisabled" "Z" (.int 1)) (S_StringUTF16_HI_BYTE_SHIFT : Sta Z h0 "java/lang/StringUTF16" "HI_BYTE_SHIFT" "I" (.int 0)) (S_StringUTF16_LO_BYTE_SHIFT : Sta Z h0 "java/lang/StringUTF16" "LO_BYTE_SHIFT" "I" (.int 8)) :
    oM l yN6 jdk_52_method_14_code 5 (some (.array .byte)) ws ({ frames := 2, cells := 1, slots := 8, locals := 24 } : Room) #[(.ref pR1), (.int 0), (.int 4)] Z h0 (QtoB Z pR1 pI801 pI802 pI803 pI804 pK5 h0 n0) := by
  refine MetFree.of_bodySF (plainFor_of_name pn_1) hisR ?_
  intro p e s m args below meth c s₁ Bd hml0 hP hK
  obtain ⟨rfl, hZ, hh⟩ := hP
  have hx := Bd.exec
  have hby := Bd.bytes
  have hml : c.maxLocals = 5 := hml0
  have hown : s.vm.findClass "java/lang/StringUTF16" = some m.cls := findClass_of_methodNamed Bd.named
  have hnm := (name_of_methodNamed Bd.named Bd.method).1
  have X0 : Stand p l e ({ frames := 2, cells := 1, slots := 8, locals := 24 } : Room) s m #[(.ref pR1), (.int 0), (.int 4)] below meth c s₁ [] 0 0 := Stand.of_body Bd
  have e0 : s₁.heap = h0 := by rw [← hh, Bd.state]; rfl
  have N0 := Fr.nil n0
  obtain ⟨_, _, ⟨T2, L2, k2, n2⟩, -, X2, ⟨Lc2, hQ2, l2, y2, z2⟩, st2⟩ := Jvm.LawKit.callS X0 hx (y := yN4) hown (mvT hZ (ow hw 78 rfl)) (mvT hZ (ow hw 79 rfl)) (mvT hZ (ow hw 21 rfl)) (mvT hZ (ow hw 80 rfl)) (by decide) (backOf (W := 0) (nbf l Z a0 hw []  h0 n0 Z0 ) hZ (ow hw 80 rfl) (ow hw 21 rfl) (by decide) (by decide)) (g := (mkF m 1 #[.val (.ref pR1), .val (.int 0), .val (.int 4), .unset, .unset] [(.int 4)])) rfl (by rw [hml]; rfl) (argsL := [(.int 4)]) (rest := []) (lenOf pd_1 rfl) rfl (Nat.le_refl _) (hb hby d16_1) (fun _ _ => ⟨rfl, e0, (by decide : 0 + 1 ≤ _), (by decide : 0 + 8 ≤ _)⟩)
  dsimp only [Pt.U, Pt.locs, Pt.cells, Pt.slots] at X2 l2 y2 z2 st2 hQ2
  subst l2 y2 z2
  obtain ⟨bR2_0, kK2_0, rfl, Nq2, Kq2, sz2_0, x2_0⟩ := hQ2
  have N2 := Fr.app N0 Nq2
  obtain ⟨Lh2, X2, N2⟩ := own_hide X2 N2
  have K3 : Keep h0 T2.heap [] := (Keep.refl h0 []).trans Kq2 all0
  have Z4 : n0 ≤ T2.heap.size := (Nat.le_trans Z0 Kq2.1)
  have c7 : Arv Z T2.heap pR1 pK5 .char (4 : Int32) [(.int pI801), (.int pI802), (.int pI803), (.int pI804)] (.int (0 : Int32)) := V_pR1.keep Kq2 nin0
  obtain ⟨clq6, Arq6, Akq6, Asq6, Anq6, Ahq6, Agq6⟩ := id c7
  have hin8 : ¬ ((0 : Int32) < 0 ∨ clq6.slots.size ≤ ((0 : Int32)).toNatClampNeg) := inb_of Asq6 ⟨by decide, by decide⟩
  have c9 : Sta Z T2.heap "java/lang/StringUTF16" "$assertionsDisabled" "Z" (.int 1) := own_sta_keep S_StringUTF16__assertionsDisabled Kq2 all0
  have c10 : Sta Z T2.heap "java/lang/StringUTF16" "HI_BYTE_SHIFT" "I" (.int 0) := own_sta_keep S_StringUTF16_HI_BYTE_SHIFT Kq2 all0
  have g11 : n0 ≤ bR2_0 := Nat.le_trans Z0 sz2_0
  have c12 : Sta Z T2.heap "java/lang/StringUTF16" "LO_BYTE_SHIFT" "I" (.int 8) := own_sta_keep S_StringUTF16_LO_BYTE_SHIFT Kq2 all0
  obtain ⟨_, _, ⟨T13, L13, k13, n13⟩, -, X13, ⟨Lc13, hQ13, l13, y13, z13⟩, st13⟩ := Jvm.LawKit.callS X2 hx (y := yN5) hown (mvT hZ (ow hw 85 rfl)) (mvT hZ (ow hw 86 rfl)) (mvT hZ (ow hw 21 rfl)) (mvT hZ (ow hw 87 rfl)) (by decide) (backOf (W := 0) (pc0 l Z a0 hw [] bR2_0 pI801 (0 : Int32) (0 : Int32) (0 : Int32) (0 : Int32) (0 : Int32) (0 : Int32) (0 : Int32) (0 : Int32) kK2_0 T2.heap n0 Z4 c9 c10 g11 x2_0 c12) hZ (ow hw 87 rfl) (ow hw 21 rfl) (by decide) (by decide)) (g := (mkF m 20 #[.val (.ref pR1), .val (.int 0), .val (.int 4), .val (.ref bR2_0), .val (.int 0)] [(.int pI801), (.int 0), (.ref bR2_0)])) rfl (by rw [hml]; rfl) (argsL := [(.ref bR2_0), (.int 0), (.int pI801)]) (rest := []) (lenOf pd_2 rfl) rfl (Nat.le_refl _) (hb hby d16_20) (fun _ _ => ⟨rfl, rfl, (by decide : 1 + 0 ≤ _), (by decide : 8 + 0 ≤ _)⟩)
  dsimp only [Pt.U, Pt.locs, Pt.cells, Pt.slots] at X13 l13 y13 z13 st13 hQ13
  subst l13 y13 z13
  obtain ⟨rfl, Nq13, Kq13, x13_0⟩ := hQ13
  have N13 := Fr.app N2 Nq13
  obtain ⟨Lh13, X13, N13⟩ := own_hide X13 N13
  have K14 : Keep h0 T13.heap [] := K3.trans Kq13 (allS (Or.inr sz2_0) all0)
  have Z15 : n0 ≤ T13.heap.size := (Nat.le_trans Z4 Kq13.1)
  have c17 : Arv Z T13.heap pR1 pK5 .char (4 : Int32) [(.int pI801), (.int pI802), (.int pI803), (.int pI804)] (.int (0 : Int32)) := c7.keep Kq13 (ninS (Nat.ne_of_lt (Nat.lt_of_lt_of_le V_pR1.lt sz2_0)) nin0)
  obtain ⟨clq16, Arq16, Akq16, Asq16, Anq16, Ahq16, Agq16⟩ := id c17
  have hin18 : ¬ ((1 : Int32) < 0 ∨ clq16.slots.size ≤ ((1 : Int32)).toNatClampNeg) := inb_of Asq16 ⟨by decide, by decide⟩
  have c19 : Sta Z T13.heap "java/lang/StringUTF16" "$assertionsDisabled" "Z" (.int 1) := own_sta_keep c9 Kq13 (allS (own_plain_V x2_0) all0)
  have c20 : Sta Z T13.heap "java/lang/StringUTF16" "HI_BYTE_SHIFT" "I" (.int 0) := own_sta_keep c10 Kq13 (allS (own_plain_V x2_0) all0)
  have c21 : Sta Z T13.heap "java/lang/StringUTF16" "LO_BYTE_SHIFT" "I" (.int 8) := own_sta_keep c12 Kq13 (allS (own_plain_V x2_0) all0)
  obtain ⟨_, _, ⟨T22, L22, k22, n22⟩, -, X22, ⟨Lc22, hQ22, l22, y22, z22⟩, st22⟩ := Jvm.LawKit.callS X13 hx (y := yN5) hown (mvT hZ (ow hw 85 rfl)) (mvT hZ (ow hw 86 rfl)) (mvT hZ (ow hw 21 rfl)) (mvT hZ (ow hw 87 rfl)) (by decide) (backOf (W := 0) (pc1 l Z a0 hw [] bR2_0 pI802 ((pI801 >>> ((0 : Int32) &&& 31)).toInt8.toInt32) ((pI801 >>> ((8 : Int32) &&& 31)).toInt8.toInt32) (0 : Int32) (0 : Int32) (0 : Int32) (0 : Int32) (0 : Int32) (0 : Int32) kK2_0 T13.heap n0 Z15 c19 c20 g11 x13_0 c21) hZ (ow hw 87 rfl) (ow hw 21 rfl) (by decide) (by decide)) (g := (mkF m 20 #[.val (.ref pR1), .val (.int 1), .val (.int 4), .val (.ref bR2_0), .val (.int 1)] [(.int pI802), (.int 1), (.ref bR2_0)])) rfl (by rw [hml]; rfl) (argsL := [(.ref bR2_0), (.int 1), (.int pI802)]) (rest := []) (lenOf pd_2 rfl) rfl (Nat.le_refl _) (hb hby d16_20) (fun _ _ => ⟨rfl, rfl, (by decide : 1 + 0 ≤ _), (by decide : 8 + 0 ≤ _)⟩)
  dsimp only [Pt.U, Pt.locs, Pt.cells, Pt.slots] at X22 l22 y22 z22 st22 hQ22
  subst l22 y22 z22
  obtain ⟨rfl, Nq22, Kq22, x22_0⟩ := hQ22
  have N22 := Fr.app N13 Nq22
  obtain ⟨Lh22, X22, N22⟩ := own_hide X22 N22
  have K23 : Keep h0 T22.heap [] := K14.trans Kq22 (allS (Or.inr sz2_0) all0)
  have Z24 : n0 ≤ T22.heap.size := (Nat.le_trans Z15 Kq22.1)
  have c26 : Arv Z T22.heap pR1 pK5 .char (4 : Int32) [(.int pI801), (.int pI802), (.int pI803), (.int pI804)] (.int (0 : Int32)) := c17.keep Kq22 (ninS (Nat.ne_of_lt (Nat.lt_of_lt_of_le V_pR1.lt sz2_0)) nin0)
  obtain ⟨clq25, Arq25, Akq25, Asq25, Anq25, Ahq25, Agq25⟩ := id c26
  have hin27 : ¬ ((2 : Int32) < 0 ∨ clq25.slots.size ≤ ((2 : Int32)).toNatClampNeg) := inb_of Asq25 ⟨by decide, by decide⟩
  have c28 : Sta Z T22.heap "java/lang/StringUTF16" "$assertionsDisabled" "Z" (.int 1) := own_sta_keep c19 Kq22 (allS (own_plain_V x13_0) all0)
  have c29 : Sta Z T22.heap "java/lang/StringUTF16" "HI_BYTE_SHIFT" "I" (.int 0) := own_sta_keep c20 Kq22 (allS (own_plain_V x13_0) all0)
  have c30 : Sta Z T22.heap "java/lang/StringUTF16" "LO_BYTE_SHIFT" "I" (.int 8) := own_sta_keep c21 Kq22 (allS (own_plain_V x13_0) all0)
  obtain ⟨_, _, ⟨T31, L31, k31, n31⟩, -, X31, ⟨Lc31, hQ31, l31, y31, z31⟩, st31⟩ := Jvm.LawKit.callS X22 hx (y := yN5) hown (mvT hZ (ow hw 85 rfl)) (mvT hZ (ow hw 86 rfl)) (mvT hZ (ow hw 21 rfl)) (mvT hZ (ow hw 87 rfl)) (by decide) (backOf (W := 0) (pc2 l Z a0 hw [] bR2_0 pI803 ((pI801 >>> ((0 : Int32) &&& 31)).toInt8.toInt32) ((pI801 >>> ((8 : Int32) &&& 31)).toInt8.toInt32) ((pI802 >>> ((0 : Int32) &&& 31)).toInt8.toInt32) ((pI802 >>> ((8 : Int32) &&& 31)).toInt8.toInt32) (0 : Int32) (0 : Int32) (0 : Int32) (0 : Int32) kK2_0 T22.heap n0 Z24 c28 c29 g11 x22_0 c30) hZ (ow hw 87 rfl) (ow hw 21 rfl) (by decide) (by decide)) (g := (mkF m 20 #[.val (.ref pR1), .val (.int 2), .val (.int 4), .val (.ref bR2_0), .val (.int 2)] [(.int pI803), (.int 2), (.ref bR2_0)])) rfl (by rw [hml]; rfl) (argsL := [(.ref bR2_0), (.int 2), (.int pI803)]) (rest := []) (lenOf pd_2 rfl) rfl (Nat.le_refl _) (hb hby d16_20) (fun _ _ => ⟨rfl, rfl, (by decide : 1 + 0 ≤ _), (by decide : 8 + 0 ≤ _)⟩)
  dsimp only [Pt.U, Pt.locs, Pt.cells, Pt.slots] at X31 l31 y31 z31 st31 hQ31
  subst l31 y31 z31
  obtain ⟨rfl, Nq31, Kq31, x31_0⟩ := hQ31
  have N31 := Fr.app N22 Nq31
  obtain ⟨Lh31, X31, N31⟩ := own_hide X31 N31
  have K32 : Keep h0 T31.heap [] := K23.trans Kq31 (allS (Or.inr sz2_0) all0)
  have Z33 : n0 ≤ T31.heap.size := (Nat.le_trans Z24 Kq31.1)
  have c35 : Arv Z T31.heap pR1 pK5 .char (4 : Int32) [(.int pI801), (.int pI802), (.int pI803), (.int pI804)] (.int (0 : Int32)) := c26.keep Kq31 (ninS (Nat.ne_of_lt (Nat.lt_of_lt_of_le V_pR1.lt sz2_0)) nin0)
  obtain ⟨clq34, Arq34, Akq34, Asq34, Anq34, Ahq34, Agq34⟩ := id c35
  have hin36 : ¬ ((3 : Int32) < 0 ∨ clq34.slots.size ≤ ((3 : Int32)).toNatClampNeg) := inb_of Asq34 ⟨by decide, by decide⟩
  have c37 : Sta Z T31.heap "java/lang/StringUTF16" "$assertionsDisabled" "Z" (.int 1) := own_sta_keep c28 Kq31 (allS (own_plain_V x22_0) all0)
  have c38 : Sta Z T31.heap "java/lang/StringUTF16" "HI_BYTE_SHIFT" "I" (.int 0) := own_sta_keep c29 Kq31 (allS (own_plain_V x22_0) all0)
  have c39 : Sta Z T31.heap "java/lang/StringUTF16" "LO_BYTE_SHIFT" "I" (.int 8) := own_sta_keep c30 Kq31 (allS (own_plain_V x22_0) all0)
  obtain ⟨_, _, ⟨T40, L40, k40, n40⟩, -, X40, ⟨Lc40, hQ40, l40, y40, z40⟩, st40⟩ := Jvm.LawKit.callS X31 hx (y := yN5) hown (mvT hZ (ow hw 85 rfl)) (mvT hZ (ow hw 86 rfl)) (mvT hZ (ow hw 21 rfl)) (mvT hZ (ow hw 87 rfl)) (by decide) (backOf (W := 0) (pc3 l Z a0 hw [] bR2_0 pI804 ((pI801 >>> ((0 : Int32) &&& 31)).toInt8.toInt32) ((pI801 >>> ((8 : Int32) &&& 31)).toInt8.toInt32) ((pI802 >>> ((0 : Int32) &&& 31)).toInt8.toInt32) ((pI802 >>> ((8 : Int32) &&& 31)).toInt8.toInt32) ((pI803 >>> ((0 : Int32) &&& 31)).toInt8.toInt32) ((pI803 >>> ((8 : Int32) &&& 31)).toInt8.toInt32) (0 : Int32) (0 : Int32) kK2_0 T31.heap n0 Z33 c37 c38 g11 x31_0 c39) hZ (ow hw 87 rfl) (ow hw 21 rfl) (by decide) (by decide)) (g := (mkF m 20 #[.val (.ref pR1), .val (.int 3), .val (.int 4), .val (.ref bR2_0), .val (.int 3)] [(.int pI804), (.int 3), (.ref bR2_0)])) rfl (by rw [hml]; rfl) (argsL := [(.ref bR2_0), (.int 3), (.int pI804)]) (rest := []) (lenOf pd_2 rfl) rfl (Nat.le_refl _) (hb hby d16_20) (fun _ _ => ⟨rfl, rfl, (by decide : 1 + 0 ≤ _), (by decide : 8 + 0 ≤ _)⟩)
  dsimp only [Pt.U, Pt.locs, Pt.cells, Pt.slots] at X40 l40 y40 z40 st40 hQ40
  subst l40 y40 z40
  obtain ⟨rfl, Nq40, Kq40, x40_0⟩ := hQ40
  have N40 := Fr.app N31 Nq40
  obtain ⟨Lh40, X40, N40⟩ := own_hide X40 N40
  have K41 : Keep h0 T40.heap [] := K32.trans Kq40 (allS (Or.inr sz2_0) all0)
  have Z42 : n0 ≤ T40.heap.size := (Nat.le_trans Z33 Kq40.1)
  obtain ⟨fs, hr, hrun, hended, hW, hsame⟩ := X40.leave (v := some (.ref bR2_0)) (fun h => by rw [Bd.returns] at h; cases h)
  refine ⟨_, _, castTop (ef_toB m pR1) ?_, hrun, hended, _, _, rfl, ?_, ⟨_, rfl⟩, hW, hsame.mono (by decide) (by decide)⟩
  · show oS p e below s₁ m 0 #[.val (.ref pR1), .val (.int 0), .val (.int 4), .unset, .unset] [] _
    refine XS.iloadN X0.here hx rfl (hb hby d16_0) rfl ?_
    refine st2 _ ?_
    refine XS.astoreN X2.here hx rfl (hb hby d16_4) rfl rfl (l' := #[.val (.ref pR1), .val (.int 0), .val (.int 4), .val (.ref bR2_0), .unset]) rfl ?_
    refine XS.iconst X2.here hx rfl (hb hby d16_5) ?_
    refine XS.istore X2.here hx rfl (hb hby d16_6) rfl (l' := #[.val (.ref pR1), .val (.int 0), .val (.int 4), .val (.ref bR2_0), .val (.int 0)]) rfl ?_
    refine XS.iload X2.here hx rfl (hb hby d16_8) rfl ?_
    show oS p e below T2 m 10 #[.val (.ref pR1), .val (.int 0), .val (.int 4), .val (.ref bR2_0), .val (.int 0)] [(.int 0)] _
    refine XS.iloadN X2.here hx rfl (hb hby d16_10) rfl ?_
    refine XS.icmpNo X2.here hx rfl (hb hby d16_11) rfl (tlt (by decide : (0 : Int32) < (4 : Int32))).2.1 ?_
    refine XS.aloadN X2.here hx rfl (hb hby d16_14) rfl rfl ?_
    refine XS.iload X2.here hx rfl (hb hby d16_15) rfl ?_
    refine XS.aloadN X2.here hx rfl (hb hby d16_17) rfl rfl ?_
    refine XS.iloadN X2.here hx rfl (hb hby d16_18) rfl ?_
    show oS p e below T2 m 19 #[.val (.ref pR1), .val (.int 0), .val (.int 4), .val (.ref bR2_0), .val (.int 0)] [(.int 0), (.ref pR1), (.int 0), (.ref bR2_0)] _
    refine X2.caload hx (j := (0 : Int32)) (v := (.int pI801)) Arq6.1 (State.isArrayOf_alike hZ.alike Arq6.2.1) Arq6.2.2 hin8 (Has.at Ahq6 hin8 rfl) (g := (mkF m 19 #[.val (.ref pR1), .val (.int 0), .val (.int 4), .val (.ref bR2_0), .val (.int 0)] [(.int 0), (.ref pR1), (.int 0), (.ref bR2_0)])) rfl rfl (hb hby d16_19) _ ?_
    refine st13 _ ?_
    refine XS.iinc X13.here hx rfl (hb hby d16_23) rfl (l' := #[.val (.ref pR1), .val (.int 1), .val (.int 4), .val (.ref bR2_0), .val (.int 0)]) rfl ?_
    refine XS.iinc X13.here hx rfl (hb hby d16_26) rfl (l' := #[.val (.ref pR1), .val (.int 1), .val (.int 4), .val (.ref bR2_0), .val (.int 1)]) rfl ?_
    refine XS.goto X13.here hx rfl (pc0 := 29) (pc' := 8) rfl (hb hby d16_29) (by decide) (by decide) ?_
    refine XS.iload X13.here hx rfl (hb hby d16_8) rfl ?_
    show oS p e below T13 m 10 #[.val (.ref pR1), .val (.int 1), .val (.int 4), .val (.ref bR2_0), .val (.int 1)] [(.int 1)] _
    refine XS.iloadN X13.here hx rfl (hb hby d16_10) rfl ?_
    refine XS.icmpNo X13.here hx rfl (hb hby d16_11) rfl (tlt (by decide : (1 : Int32) < (4 : Int32))).2.1 ?_
    refine XS.aloadN X13.here hx rfl (hb hby d16_14) rfl rfl ?_
    refine XS.iload X13.here hx rfl (hb hby d16_15) rfl ?_
    refine XS.aloadN X13.here hx rfl (hb hby d16_17) rfl rfl ?_
    refine XS.iloadN X13.here hx rfl (hb hby d16_18) rfl ?_
    show oS p e below T13 m 19 #[.val (.ref pR1), .val (.int 1), .val (.int 4), .val (.ref bR2_0), .val (.int 1)] [(.int 1), (.ref pR1), (.int 1), (.ref bR2_0)] _
    refine X13.caload hx (j := (1 : Int32)) (v := (.int pI802)) Arq16.1 (State.isArrayOf_alike hZ.alike Arq16.2.1) Arq16.2.2 hin18 (Has.at Ahq16 hin18 rfl) (g := (mkF m 19 #[.val (.ref pR1), .val (.int 1), .val (.int 4), .val (.ref bR2_0), .val (.int 1)] [(.int 1), (.ref pR1), (.int 1), (.ref bR2_0)])) rfl rfl (hb hby d16_19) _ ?_
    refine st22 _ ?_
    refine XS.iinc X22.here hx rfl (hb hby d16_23) rfl (l' := #[.val (.ref pR1), .val (.int 2), .val (.int 4), .val (.ref bR2_0), .val (.int 1)]) rfl ?_
    refine XS.iinc X22.here hx rfl (hb hby d16_26) rfl (l' := #[.val (.ref pR1), .val (.int 2), .val (.int 4), .val (.ref bR2_0), .val (.int 2)]) rfl ?_
    refine XS.goto X22.here hx rfl (pc0 := 29) (pc' := 8) rfl (hb hby d16_29) (by decide) (by decide) ?_
    refine XS.iload X22.here hx rfl (hb hby d16_8) rfl ?_
    show oS p e below T22 m 10 #[.val (.ref pR1), .val (.int 2), .val (.int 4), .val (.ref bR2_0), .val (.int 2)] [(.int 2)] _
    refine XS.iloadN X22.here hx rfl (hb hby d16_10) rfl ?_
    refine XS.icmpNo X22.here hx rfl (hb hby d16_11) rfl (tlt (by decide : (2 : Int32) < (4 : Int32))).2.1 ?_
    refine XS.aloadN X22.here hx rfl (hb hby d16_14) rfl rfl ?_
    refine XS.iload X22.here hx rfl (hb hby d16_15) rfl ?_
    refine XS.aloadN X22.here hx rfl (hb hby d16_17) rfl rfl ?_
    refine XS.iloadN X22.here hx rfl (hb hby d16_18) rfl ?_
    show oS p e below T22 m 19 #[.val (.ref pR1), .val (.int 2), .val (.int 4), .val (.ref bR2_0), .val (.int 2)] [(.int 2), (.ref pR1), (.int 2), (.ref bR2_0)] _
    refine X22.caload hx (j := (2 : Int32)) (v := (.int pI803)) Arq25.1 (State.isArrayOf_alike hZ.alike Arq25.2.1) Arq25.2.2 hin27 (Has.at Ahq25 hin27 rfl) (g := (mkF m 19 #[.val (.ref pR1), .val (.int 2), .val (.int 4), .val (.ref bR2_0), .val (.int 2)] [(.int 2), (.ref pR1), (.int 2), (.ref bR2_0)])) rfl rfl (hb hby d16_19) _ ?_
    refine st31 _ ?_
    refine XS.iinc X31.here hx rfl (hb hby d16_23) rfl (l' := #[.val (.ref pR1), .val (.int 3), .val (.int 4), .val (.ref bR2_0), .val (.int 2)]) rfl ?_
    refine XS.iinc X31.here hx rfl (hb hby d16_26) rfl (l' := #[.val (.ref pR1), .val (.int 3), .val (.int 4), .val (.ref bR2_0), .val (.int 3)]) rfl ?_
    refine XS.goto X31.here hx rfl (pc0 := 29) (pc' := 8) rfl (hb hby d16_29) (by decide) (by decide) ?_
    refine XS.iload X31.here hx rfl (hb hby d16_8) rfl ?_
    show oS p e below T31 m 10 #[.val (.ref pR1), .val (.int 3), .val (.int 4), .val (.ref bR2_0), .val (.int 3)] [(.int 3)] _
    refine XS.iloadN X31.here hx rfl (hb hby d16_10) rfl ?_
    refine XS.icmpNo X31.here hx rfl (hb hby d16_11) rfl (tlt (by decide : (3 : Int32) < (4 : Int32))).2.1 ?_
    refine XS.aloadN X31.here hx rfl (hb hby d16_14) rfl rfl ?_
    refine XS.iload X31.here hx rfl (hb hby d16_15) rfl ?_
    refine XS.aloadN X31.here hx rfl (hb hby d16_17) rfl rfl ?_
    refine XS.iloadN X31.here hx rfl (hb hby d16_18) rfl ?_
    show oS p e below T31 m 19 #[.val (.ref pR1), .val (.int 3), .val (.int 4), .val (.ref bR2_0), .val (.int 3)] [(.int 3), (.ref pR1), (.int 3), (.ref bR2_0)] _
    refine X31.caload hx (j := (3 : Int32)) (v := (.int pI804)) Arq34.1 (State.isArrayOf_alike hZ.alike Arq34.2.1) Arq34.2.2 hin36 (Has.at Ahq34 hin36 rfl) (g := (mkF m 19 #[.val (.ref pR1), .val (.int 3), .val (.int 4), .val (.ref bR2_0), .val (.int 3)] [(.int 3), (.ref pR1), (.int 3), (.ref bR2_0)])) rfl rfl (hb hby d16_19) _ ?_
    refine st40 _ ?_
    refine XS.iinc X40.here hx rfl (hb hby d16_23) rfl (l' := #[.val (.ref pR1), .val (.int 4), .val (.int 4), .val (.ref bR2_0), .val (.int 3)]) rfl ?_
    refine XS.iinc X40.here hx rfl (hb hby d16_26) rfl (l' := #[.val (.ref pR1), .val (.int 4), .val (.int 4), .val (.ref bR2_0), .val (.int 4)]) rfl ?_
    refine XS.goto X40.here hx rfl (pc0 := 29) (pc' := 8) rfl (hb hby d16_29) (by decide) (by decide) ?_
    refine XS.iload X40.here hx rfl (hb hby d16_8) rfl ?_
    show oS p e below T40 m 10 #[.val (.ref pR1), .val (.int 4), .val (.int 4), .val (.ref bR2_0), .val (.int 4)] [(.int 4)] _
    refine XS.iloadN X40.here hx rfl (hb hby d16_10) rfl ?_
    refine XS.icmpYes X40.here hx rfl (pc0 := 11) (pc' := 32) rfl (hb hby d16_11) rfl (flt (by decide : ¬ ((4 : Int32) < (4 : Int32)))).2.1 (by decide) (by decide) ?_
    refine XS.aloadN X40.here hx rfl (hb hby d16_32) rfl rfl ?_
    exact retOut X40 hx Bd.returns rfl (Or.inr (Or.inr (Or.inr (Or.inr ⟨rfl, rfl, rfl⟩)))) (hb hby d16_33) hr
  · show QtoB Z pR1 pI801 pI802 pI803 pI804 pK5 h0 n0 _ T40.heap _
    exact ⟨bR2_0, kK2_0, rfl, N40, K41, sz2_0, x40_0⟩
theorem d20_0 : decode jdk_52_method_5_code 0 = .ok (.getstatic 44, 3) := by decide +kernel
theorem d20_3 : decode jdk_52_method_5_code 3 = .ok (.ifCond .ne 25, 3) := by decide +kernel
theorem d20_28 : decode jdk_52_method_5_code 28 = .ok (.iload_n 1, 1) := by decide +kernel
theorem d20_29 : decode jdk_52_method_5_code 29 = .ok (.iconst 1, 1) := by decide +kernel
theorem d20_30 : decode jdk_52_method_5_code 30 = .ok (.ishl, 1) := by decide +kernel
theorem d20_31 : decode jdk_52_method_5_code 31 = .ok (.istore_n 1, 1) := by decide +kernel
theorem d20_32 : decode jdk_52_method_5_code 32 = .ok (.aload_n 0, 1) := by decide +kernel
theorem d20_33 : decode jdk_52_method_5_code 33 = .ok (.iload_n 1, 1) := by decide +kernel
theorem d20_34 : decode jdk_52_method_5_code 34 = .ok (.iinc 1 1, 3) := by decide +kernel
theorem d20_37 : decode jdk_52_method_5_code 37 = .ok (.baload, 1) := by decide +kernel
theorem d20_38 : decode jdk_52_method_5_code 38 = .ok (.sipush 255, 3) := by decide +kernel
theorem d20_41 : decode jdk_52_method_5_code 41 = .ok (.iand, 1) := by decide +kernel
theorem d20_42 : decode jdk_52_method_5_code 42 = .ok (.getstatic 59, 3) := by decide +kernel
theorem d20_45 : decode jdk_52_method_5_code 45 = .ok (.ishl, 1) := by decide +kernel
theorem d20_46 : decode jdk_52_method_5_code 46 = .ok (.aload_n 0, 1) := by decide +kernel
theorem d20_47 : decode jdk_52_method_5_code 47 = .ok (.iload_n 1, 1) := by decide +kernel
theorem d20_48 : decode jdk_52_method_5_code 48 = .ok (.baload, 1) := by decide +kernel
theorem d20_49 : decode jdk_52_method_5_code 49 = .ok (.sipush 255, 3) := by decide +kernel
theorem d20_52 : decode jdk_52_method_5_code 52 = .ok (.iand, 1) := by decide +kernel
theorem d20_53 : decode jdk_52_method_5_code 53 = .ok (.getstatic 63, 3) := by decide +kernel
theorem d20_56 : decode jdk_52_method_5_code 56 = .ok (.ishl, 1) := by decide +kernel
theorem d20_57 : decode jdk_52_method_5_code 57 = .ok (.ior, 1) := by decide +kernel
theorem d20_58 : decode jdk_52_method_5_code 58 = .ok (.i2c, 1) := by decide +kernel
theorem d20_59 : decode jdk_52_method_5_code 59 = .ok (.ireturn, 1) := by decide +kernel
theorem ef_gc0 (m : MethodId) (pR1 : Addr) : entryFrame m #[(.ref pR1), (.int 0)] 2 = mkF m 0 #[.val (.ref pR1), .val (.int 0)] [] := by first | (simp [entryFrame, mkF, argsToLocals, Value.category]; done) | rfl
def Qgc0 (Z : State) (pR1 : Addr) (pI801 : Int32) (pI802 : Int32) (pI803 : Int32) (pI804 : Int32) (pK3 : ClassId) (h0 : Heap) (n0 : Nat) (v : Option Value) (h : Heap) (L : List Loc) : Prop := v = some (.int pI801) ∧ Fr n0 L ∧ h = h0
set_option maxRecDepth 65536 in
set_option maxHeartbeats 40000000 in
theorem gc0 (l : Launch) (Z : State) (a0 : Array Value) (hw : ∀ d ∈ tables_1, d.before a0 Z = true) (ws : List Jvm.Cond) (pR1 : Addr) (pI801 : Int32) (pI802 : Int32) (pI803 : Int32) (pI804 : Int32) (pK3 : ClassId) (h0 : Heap) (n0 : Nat) (Z0 : n0 ≤ h0.size) (S_StringUTF16__assertionsDisabled : Sta Z h0 "java/lang/StringUTF16" "$assertionsDisabled" "Z" (.int 1)) (V_pR1 : Arv Z h0 pR1 pK3 .byte (8 : Int32) [(.int ((pI801 >>> ((0 : Int32) &&& 31)).toInt8.toInt32)), (.int ((pI801 >>> ((8 : Int32) &&& 31)).toInt8.toInt32)), (.int ((pI802 >>> ((0 : Int32) &&& 31)).toInt8.toInt32)), (.int ((pI802 >>> ((8 : Int32) &&& 31)).toInt8.toInt32)), (.int ((pI803 >>> ((0 : Int32) &&& 31)).toInt8.toInt32)), (.int ((pI803 >>> ((8 : Int32) &&& 31)).toInt8.toInt32)), (.int ((pI804 >>> ((0 : Int32) &&& 31)).toInt8.toInt32)), (.int ((pI804 >>> ((8 : Int32) &&& 31)).toInt8.toInt32))] (.int (0 : Int32))) (S_StringUTF16_HI_BYTE_SHIFT : Sta Z h0 "java/lang/StringUTF16" "HI_BYTE_SHIFT" "I" (.int 0)) (S_StringUTF16_LO_BYTE_SHIFT : Sta Z h0 "java/lang/StringUTF16" "LO_BYTE_SHIFT" "I" (.int 8)) (hrg : 0 ≤ pI801.toInt ∧ pI801.toInt ≤ 65535) :
    oM l yN7 jdk_52_method_5_code 2 (some .char) ws ({ frames := 0, cells := 0, slots := 0, locals := 0 } : Room) #[(.ref pR1), (.int 0)] Z h0 (Qgc0 Z pR1 pI801 pI802 pI803 pI804 pK3 h0 n0) := by
  refine MetFree.of_bodySF (plainFor_of_name pn_1) hisR ?_
  intro p e s m args below meth c s₁ Bd hml0 hP hK
  obtain ⟨rfl, hZ, hh⟩ := hP
  have hx := Bd.exec
  have hby := Bd.bytes
  have hml : c.maxLocals = 2 := hml0
  have hown : s.vm.findClass "java/lang/StringUTF16" = some m.cls := findClass_of_methodNamed Bd.named
  have hnm := (name_of_methodNamed Bd.named Bd.method).1
  have X0 : Stand p l e ({ frames := 0, cells := 0, slots := 0, locals := 0 } : Room) s m #[(.ref pR1), (.int 0)] below meth c s₁ [] 0 0 := Stand.of_body Bd
  have e0 : s₁.heap = h0 := by rw [← hh, Bd.state]; rfl
  have N0 := Fr.nil n0
  obtain ⟨T2, X2, e2, st2⟩ := getS2 X0 hx hZ hown (host := "") (Or.inl (ow hw 88 rfl)) Via.refl e0 S_StringUTF16__assertionsDisabled (g := (mkF m 0 #[.val (.ref pR1), .val (.int 0)] [])) rfl (hb hby d20_0)
  obtain ⟨clq4, Arq4, Akq4, Asq4, Anq4, Ahq4, Agq4⟩ := id V_pR1
  have hin5 : ¬ ((0 : Int32) < 0 ∨ clq4.slots.size ≤ ((0 : Int32)).toNatClampNeg) := inb_of Asq4 ⟨by decide, by decide⟩
  obtain ⟨T6, X6, e6, st6⟩ := getS2 X2 hx hZ hown (host := "") (Or.inl (ow hw 89 rfl)) Via.refl e2 S_StringUTF16_HI_BYTE_SHIFT (g := (mkF m 42 #[.val (.ref pR1), .val (.int 1)] [(.int (((pI801 >>> ((0 : Int32) &&& 31)).toInt8.toInt32) &&& (255 : Int32)))])) rfl (hb hby d20_42)
  obtain ⟨clq7, Arq7, Akq7, Asq7, Anq7, Ahq7, Agq7⟩ := id V_pR1
  have hin8 : ¬ ((1 : Int32) < 0 ∨ clq7.slots.size ≤ ((1 : Int32)).toNatClampNeg) := inb_of Asq7 ⟨by decide, by decide⟩
  obtain ⟨T9, X9, e9, st9⟩ := getS2 X6 hx hZ hown (host := "") (Or.inl (ow hw 90 rfl)) Via.refl e6 S_StringUTF16_LO_BYTE_SHIFT (g := (mkF m 53 #[.val (.ref pR1), .val (.int 1)] [(.int (((pI801 >>> ((8 : Int32) &&& 31)).toInt8.toInt32) &&& (255 : Int32))), (.int ((((pI801 >>> ((0 : Int32) &&& 31)).toInt8.toInt32) &&& (255 : Int32)) <<< ((0 : Int32) &&& 31)))])) rfl (hb hby d20_53)
  obtain ⟨fs, hr, hrun, hended, hW, hsame⟩ := X9.leave (v := some (.int (nar .char ((((((pI801 >>> ((0 : Int32) &&& 31)).toInt8.toInt32) &&& (255 : Int32)) <<< ((0 : Int32) &&& 31)) ||| ((((pI801 >>> ((8 : Int32) &&& 31)).toInt8.toInt32) &&& (255 : Int32)) <<< ((8 : Int32) &&& 31))).toUInt32.toUInt16.toUInt32.toInt32)))) (fun h => by rw [Bd.returns] at h; cases h)
  refine ⟨_, _, castTop (ef_gc0 m pR1) ?_, hrun, hended, _, _, rfl, ?_, ⟨_, rfl⟩, hW, hsame.mono (by decide) (by decide)⟩
  · show oS p e below s₁ m 0 #[.val (.ref pR1), .val (.int 0)] [] _
    refine st2 _ ?_
    refine XS.ifYes X2.here hx rfl (pc0 := 3) (pc' := 28) rfl (hb hby d20_3) rfl ((if0 _ _).trans (feq (by decide : ¬ ((1 : Int32) = (0 : Int32)))).2) (by decide) (by decide) ?_
    refine XS.iloadN X2.here hx rfl (hb hby d20_28) rfl ?_
    refine XS.iconst X2.here hx rfl (hb hby d20_29) ?_
    refine XS.ishl X2.here hx rfl (hb hby d20_30) rfl ?_
    refine XS.istoreN X2.here hx rfl (hb hby d20_31) rfl (l' := #[.val (.ref pR1), .val (.int 0)]) rfl ?_
    show oS p e below T2 m 32 #[.val (.ref pR1), .val (.int 0)] [] _
    refine XS.aloadN X2.here hx rfl (hb hby d20_32) rfl rfl ?_
    refine XS.iloadN X2.here hx rfl (hb hby d20_33) rfl ?_
    refine XS.iinc X2.here hx rfl (hb hby d20_34) rfl (l' := #[.val (.ref pR1), .val (.int 1)]) rfl ?_
    refine X2.baloadBytes hx (j := (0 : Int32)) (v := (.int ((pI801 >>> ((0 : Int32) &&& 31)).toInt8.toInt32))) (by rw [e2]; exact Arq4.1) (State.isArrayOf_alike hZ.alike Arq4.2.1) Arq4.2.2 hin5 (Has.at Ahq4 hin5 rfl) (g := (mkF m 37 #[.val (.ref pR1), .val (.int 1)] [(.int 0), (.ref pR1)])) rfl rfl (hb hby d20_37) _ ?_
    refine XS.sipush X2.here hx rfl (hb hby d20_38) ?_
    refine XS.iand X2.here hx rfl (hb hby d20_41) rfl ?_
    show oS p e below T2 m 42 #[.val (.ref pR1), .val (.int 1)] [(.int (((pI801 >>> ((0 : Int32) &&& 31)).toInt8.toInt32) &&& (255 : Int32)))] _
    refine st6 _ ?_
    refine XS.ishl X6.here hx rfl (hb hby d20_45) rfl ?_
    refine XS.aloadN X6.here hx rfl (hb hby d20_46) rfl rfl ?_
    refine XS.iloadN X6.here hx rfl (hb hby d20_47) rfl ?_
    refine X6.baloadBytes hx (j := (1 : Int32)) (v := (.int ((pI801 >>> ((8 : Int32) &&& 31)).toInt8.toInt32))) (by rw [e6]; exact Arq7.1) (State.isArrayOf_alike hZ.alike Arq7.2.1) Arq7.2.2 hin8 (Has.at Ahq7 hin8 rfl) (g := (mkF m 48 #[.val (.ref pR1), .val (.int 1)] [(.int 1), (.ref pR1), (.int ((((pI801 >>> ((0 : Int32) &&& 31)).toInt8.toInt32) &&& (255 : Int32)) <<< ((0 : Int32) &&& 31)))])) rfl rfl (hb hby d20_48) _ ?_
    refine XS.sipush X6.here hx rfl (hb hby d20_49) ?_
    show oS p e below T6 m 52 #[.val (.ref pR1), .val (.int 1)] [(.int 255), (.int ((pI801 >>> ((8 : Int32) &&& 31)).toInt8.toInt32)), (.int ((((pI801 >>> ((0 : Int32) &&& 31)).toInt8.toInt32) &&& (255 : Int32)) <<< ((0 : Int32) &&& 31)))] _
    refine XS.iand X6.here hx rfl (hb hby d20_52) rfl ?_
    refine st9 _ ?_
    refine XS.ishl X9.here hx rfl (hb hby d20_56) rfl ?_
    refine XS.ior X9.here hx rfl (hb hby d20_57) rfl ?_
    refine XS.i2c X9.here hx rfl (hb hby d20_58) rfl ?_
    exact retN X9 hx (t := .char) Bd.returns (by simp) (hb hby d20_59) hr
  · show Qgc0 Z pR1 pI801 pI802 pI803 pI804 pK3 h0 n0 _ T9.heap _
    rw [e9]
    exact ⟨(by rw [own_utf hrg]), N0, rfl⟩
theorem ef_gc1 (m : MethodId) (pR1 : Addr) : entryFrame m #[(.ref pR1), (.int 1)] 2 = mkF m 0 #[.val (.ref pR1), .val (.int 1)] [] := by first | (simp [entryFrame, mkF, argsToLocals, Value.category]; done) | rfl
def Qgc1 (Z : State) (pR1 : Addr) (pI801 : Int32) (pI802 : Int32) (pI803 : Int32) (pI804 : Int32) (pK3 : ClassId) (h0 : Heap) (n0 : Nat) (v : Option Value) (h : Heap) (L : List Loc) : Prop := v = some (.int pI802) ∧ Fr n0 L ∧ h = h0
set_option maxRecDepth 65536 in
set_option maxHeartbeats 40000000 in
theorem gc1 (l : Launch) (Z : State) (a0 : Array Value) (hw : ∀ d ∈ tables_1, d.before a0 Z = true) (ws : List Jvm.Cond) (pR1 : Addr) (pI801 : Int32) (pI802 : Int32) (pI803 : Int32) (pI804 : Int32) (pK3 : ClassId) (h0 : Heap) (n0 : Nat) (Z0 : n0 ≤ h0.size) (S_StringUTF16__assertionsDisabled : Sta Z h0 "java/lang/StringUTF16" "$assertionsDisabled" "Z" (.int 1)) (V_pR1 : Arv Z h0 pR1 pK3 .byte (8 : Int32) [(.int ((pI801 >>> ((0 : Int32) &&& 31)).toInt8.toInt32)), (.int ((pI801 >>> ((8 : Int32) &&& 31)).toInt8.toInt32)), (.int ((pI802 >>> ((0 : Int32) &&& 31)).toInt8.toInt32)), (.int ((pI802 >>> ((8 : Int32) &&& 31)).toInt8.toInt32)), (.int ((pI803 >>> ((0 : Int32) &&& 31)).toInt8.toInt32)), (.int ((pI803 >>> ((8 : Int32) &&& 31)).toInt8.toInt32)), (.int ((pI804 >>> ((0 : Int32) &&& 31)).toInt8.toInt32)), (.int ((pI804 >>> ((8 : Int32) &&& 31)).toInt8.toInt32))] (.int (0 : Int32))) (S_StringUTF16_HI_BYTE_SHIFT : Sta Z h0 "java/lang/StringUTF16" "HI_BYTE_SHIFT" "I" (.int 0)) (S_StringUTF16_LO_BYTE_SHIFT : Sta Z h0 "java/lang/StringUTF16" "LO_BYTE_SHIFT" "I" (.int 8)) (hrg : 0 ≤ pI802.toInt ∧ pI802.toInt ≤ 65535) :
    oM l yN7 jdk_52_method_5_code 2 (some .char) ws ({ frames := 0, cells := 0, slots := 0, locals := 0 } : Room) #[(.ref pR1), (.int 1)] Z h0 (Qgc1 Z pR1 pI801 pI802 pI803 pI804 pK3 h0 n0) := by
  refine MetFree.of_bodySF (plainFor_of_name pn_1) hisR ?_
  intro p e s m args below meth c s₁ Bd hml0 hP hK
  obtain ⟨rfl, hZ, hh⟩ := hP
  have hx := Bd.exec
  have hby := Bd.bytes
  have hml : c.maxLocals = 2 := hml0
  have hown : s.vm.findClass "java/lang/StringUTF16" = some m.cls := findClass_of_methodNamed Bd.named
  have hnm := (name_of_methodNamed Bd.named Bd.method).1
  have X0 : Stand p l e ({ frames := 0, cells := 0, slots := 0, locals := 0 } : Room) s m #[(.ref pR1), (.int 1)] below meth c s₁ [] 0 0 := Stand.of_body Bd
  have e0 : s₁.heap = h0 := by rw [← hh, Bd.state]; rfl
  have N0 := Fr.nil n0
  obtain ⟨T2, X2, e2, st2⟩ := getS2 X0 hx hZ hown (host := "") (Or.inl (ow hw 88 rfl)) Via.refl e0 S_StringUTF16__assertionsDisabled (g := (mkF m 0 #[.val (.ref pR1), .val (.int 1)] [])) rfl (hb hby d20_0)
  obtain ⟨clq4, Arq4, Akq4, Asq4, Anq4, Ahq4, Agq4⟩ := id V_pR1
  have hin5 : ¬ ((2 : Int32) < 0 ∨ clq4.slots.size ≤ ((2 : Int32)).toNatClampNeg) := inb_of Asq4 ⟨by decide, by decide⟩
  obtain ⟨T6, X6, e6, st6⟩ := getS2 X2 hx hZ hown (host := "") (Or.inl (ow hw 89 rfl)) Via.refl e2 S_StringUTF16_HI_BYTE_SHIFT (g := (mkF m 42 #[.val (.ref pR1), .val (.int 3)] [(.int (((pI802 >>> ((0 : Int32) &&& 31)).toInt8.toInt32) &&& (255 : Int32)))])) rfl (hb hby d20_42)
  obtain ⟨clq7, Arq7, Akq7, Asq7, Anq7, Ahq7, Agq7⟩ := id V_pR1
  have hin8 : ¬ ((3 : Int32) < 0 ∨ clq7.slots.size ≤ ((3 : Int32)).toNatClampNeg) := inb_of Asq7 ⟨by decide, by decide⟩
  obtain ⟨T9, X9, e9, st9⟩ := getS2 X6 hx hZ hown (host := "") (Or.inl (ow hw 90 rfl)) Via.refl e6 S_StringUTF16_LO_BYTE_SHIFT (g := (mkF m 53 #[.val (.ref pR1), .val (.int 3)] [(.int (((pI802 >>> ((8 : Int32) &&& 31)).toInt8.toInt32) &&& (255 : Int32))), (.int ((((pI802 >>> ((0 : Int32) &&& 31)).toInt8.toInt32) &&& (255 : Int32)) <<< ((0 : Int32) &&& 31)))])) rfl (hb hby d20_53)
  obtain ⟨fs, hr, hrun, hended, hW, hsame⟩ := X9.leave (v := some (.int (nar .char ((((((pI802 >>> ((0 : Int32) &&& 31)).toInt8.toInt32) &&& (255 : Int32)) <<< ((0 : Int32) &&& 31)) ||| ((((pI802 >>> ((8 : Int32) &&& 31)).toInt8.toInt32) &&& (255 : Int32)) <<< ((8 : Int32) &&& 31))).toUInt32.toUInt16.toUInt32.toInt32)))) (fun h => by rw [Bd.returns] at h; cases h)
  refine ⟨_, _, castTop (ef_gc1 m pR1) ?_, hrun, hended, _, _, rfl, ?_, ⟨_, rfl⟩, hW, hsame.mono (by decide) (by decide)⟩
  · show oS p e below s₁ m 0 #[.val (.ref pR1), .val (.int 1)] [] _
    refine st2 _ ?_
    refine XS.ifYes X2.here hx rfl (pc0 := 3) (pc' := 28) rfl (hb hby d20_3) rfl ((if0 _ _).trans (feq (by decide : ¬ ((1 : Int32) = (0 : Int32)))).2) (by decide) (by decide) ?_
    refine XS.iloadN X2.here hx rfl (hb hby d20_28) rfl ?_
    refine XS.iconst X2.here hx rfl (hb hby d20_29) ?_
    refine XS.ishl X2.here hx rfl (hb hby d20_30) rfl ?_
    refine XS.istoreN X2.here hx rfl (hb hby d20_31) rfl (l' := #[.val (.ref pR1), .val (.int 2)]) rfl ?_
    show oS p e below T2 m 32 #[.val (.ref pR1), .val (.int 2)] [] _
    refine XS.aloadN X2.here hx rfl (hb hby d20_32) rfl rfl ?_
    refine XS.iloadN X2.here hx rfl (hb hby d20_33) rfl ?_
    refine XS.iinc X2.here hx rfl (hb hby d20_34) rfl (l' := #[.val (.ref pR1), .val (.int 3)]) rfl ?_
    refine X2.baloadBytes hx (j := (2 : Int32)) (v := (.int ((pI802 >>> ((0 : Int32) &&& 31)).toInt8.toInt32))) (by rw [e2]; exact Arq4.1) (State.isArrayOf_alike hZ.alike Arq4.2.1) Arq4.2.2 hin5 (Has.at Ahq4 hin5 rfl) (g := (mkF m 37 #[.val (.ref pR1), .val (.int 3)] [(.int 2), (.ref pR1)])) rfl rfl (hb hby d20_37) _ ?_
    refine XS.sipush X2.here hx rfl (hb hby d20_38) ?_
    refine XS.iand X2.here hx rfl (hb hby d20_41) rfl ?_
    show oS p e below T2 m 42 #[.val (.ref pR1), .val (.int 3)] [(.int (((pI802 >>> ((0 : Int32) &&& 31)).toInt8.toInt32) &&& (255 : Int32)))] _
    refine st6 _ ?_
    refine XS.ishl X6.here hx rfl (hb hby d20_45) rfl ?_
    refine XS.aloadN X6.here hx rfl (hb hby d20_46) rfl rfl ?_
    refine XS.iloadN X6.here hx rfl (hb hby d20_47) rfl ?_
    refine X6.baloadBytes hx (j := (3 : Int32)) (v := (.int ((pI802 >>> ((8 : Int32) &&& 31)).toInt8.toInt32))) (by rw [e6]; exact Arq7.1) (State.isArrayOf_alike hZ.alike Arq7.2.1) Arq7.2.2 hin8 (Has.at Ahq7 hin8 rfl) (g := (mkF m 48 #[.val (.ref pR1), .val (.int 3)] [(.int 3), (.ref pR1), (.int ((((pI802 >>> ((0 : Int32) &&& 31)).toInt8.toInt32) &&& (255 : Int32)) <<< ((0 : Int32) &&& 31)))])) rfl rfl (hb hby d20_48) _ ?_
    refine XS.sipush X6.here hx rfl (hb hby d20_49) ?_
    show oS p e below T6 m 52 #[.val (.ref pR1), .val (.int 3)] [(.int 255), (.int ((pI802 >>> ((8 : Int32) &&& 31)).toInt8.toInt32)), (.int ((((pI802 >>> ((0 : Int32) &&& 31)).toInt8.toInt32) &&& (255 : Int32)) <<< ((0 : Int32) &&& 31)))] _
    refine XS.iand X6.here hx rfl (hb hby d20_52) rfl ?_
    refine st9 _ ?_
    refine XS.ishl X9.here hx rfl (hb hby d20_56) rfl ?_
    refine XS.ior X9.here hx rfl (hb hby d20_57) rfl ?_
    refine XS.i2c X9.here hx rfl (hb hby d20_58) rfl ?_
    exact retN X9 hx (t := .char) Bd.returns (by simp) (hb hby d20_59) hr
  · show Qgc1 Z pR1 pI801 pI802 pI803 pI804 pK3 h0 n0 _ T9.heap _
    rw [e9]
    exact ⟨(by rw [own_utf hrg]), N0, rfl⟩
theorem ef_gc2 (m : MethodId) (pR1 : Addr) : entryFrame m #[(.ref pR1), (.int 2)] 2 = mkF m 0 #[.val (.ref pR1), .val (.int 2)] [] := by first | (simp [entryFrame, mkF, argsToLocals, Value.category]; done) | rfl
def Qgc2 (Z : State) (pR1 : Addr) (pI801 : Int32) (pI802 : Int32) (pI803 : Int32) (pI804 : Int32) (pK3 : ClassId) (h0 : Heap) (n0 : Nat) (v : Option Value) (h : Heap) (L : List Loc) : Prop := v = some (.int pI803) ∧ Fr n0 L ∧ h = h0
set_option maxRecDepth 65536 in
set_option maxHeartbeats 40000000 in
theorem gc2 (l : Launch) (Z : State) (a0 : Array Value) (hw : ∀ d ∈ tables_1, d.before a0 Z = true) (ws : List Jvm.Cond) (pR1 : Addr) (pI801 : Int32) (pI802 : Int32) (pI803 : Int32) (pI804 : Int32) (pK3 : ClassId) (h0 : Heap) (n0 : Nat) (Z0 : n0 ≤ h0.size) (S_StringUTF16__assertionsDisabled : Sta Z h0 "java/lang/StringUTF16" "$assertionsDisabled" "Z" (.int 1)) (V_pR1 : Arv Z h0 pR1 pK3 .byte (8 : Int32) [(.int ((pI801 >>> ((0 : Int32) &&& 31)).toInt8.toInt32)), (.int ((pI801 >>> ((8 : Int32) &&& 31)).toInt8.toInt32)), (.int ((pI802 >>> ((0 : Int32) &&& 31)).toInt8.toInt32)), (.int ((pI802 >>> ((8 : Int32) &&& 31)).toInt8.toInt32)), (.int ((pI803 >>> ((0 : Int32) &&& 31)).toInt8.toInt32)), (.int ((pI803 >>> ((8 : Int32) &&& 31)).toInt8.toInt32)), (.int ((pI804 >>> ((0 : Int32) &&& 31)).toInt8.toInt32)), (.int ((pI804 >>> ((8 : Int32) &&& 31)).toInt8.toInt32))] (.int (0 : Int32))) (S_StringUTF16_HI_BYTE_SHIFT : Sta Z h0 "java/lang/StringUTF16" "HI_BYTE_SHIFT" "I" (.int 0)) (S_StringUTF16_LO_BYTE_SHIFT : Sta Z h0 "java/lang/StringUTF16" "LO_BYTE_SHIFT" "I" (.int 8)) (hrg : 0 ≤ pI803.toInt ∧ pI803.toInt ≤ 65535) :
    oM l yN7 jdk_52_method_5_code 2 (some .char) ws ({ frames := 0, cells := 0, slots := 0, locals := 0 } : Room) #[(.ref pR1), (.int 2)] Z h0 (Qgc2 Z pR1 pI801 pI802 pI803 pI804 pK3 h0 n0) := by
  refine MetFree.of_bodySF (plainFor_of_name pn_1) hisR ?_
  intro p e s m args below meth c s₁ Bd hml0 hP hK
  obtain ⟨rfl, hZ, hh⟩ := hP
  have hx := Bd.exec
  have hby := Bd.bytes
  have hml : c.maxLocals = 2 := hml0
  have hown : s.vm.findClass "java/lang/StringUTF16" = some m.cls := findClass_of_methodNamed Bd.named
  have hnm := (name_of_methodNamed Bd.named Bd.method).1
  have X0 : Stand p l e ({ frames := 0, cells := 0, slots := 0, locals := 0 } : Room) s m #[(.ref pR1), (.int 2)] below meth c s₁ [] 0 0 := Stand.of_body Bd
  have e0 : s₁.heap = h0 := by rw [← hh, Bd.state]; rfl
  have N0 := Fr.nil n0
  obtain ⟨T2, X2, e2, st2⟩ := getS2 X0 hx hZ hown (host := "") (Or.inl (ow hw 88 rfl)) Via.refl e0 S_StringUTF16__assertionsDisabled (g := (mkF m 0 #[.val (.ref pR1), .val (.int 2)] [])) rfl (hb hby d20_0)
  obtain ⟨clq4, Arq4, Akq4, Asq4, Anq4, Ahq4, Agq4⟩ := id V_pR1
  have hin5 : ¬ ((4 : Int32) < 0 ∨ clq4.slots.size ≤ ((4 : Int32)).toNatClampNeg) := inb_of Asq4 ⟨by decide, by decide⟩
  obtain ⟨T6, X6, e6, st6⟩ := getS2 X2 hx hZ hown (host := "") (Or.inl (ow hw 89 rfl)) Via.refl e2 S_StringUTF16_HI_BYTE_SHIFT (g := (mkF m 42 #[.val (.ref pR1), .val (.int 5)] [(.int (((pI803 >>> ((0 : Int32) &&& 31)).toInt8.toInt32) &&& (255 : Int32)))])) rfl (hb hby d20_42)
  obtain ⟨clq7, Arq7, Akq7, Asq7, Anq7, Ahq7, Agq7⟩ := id V_pR1
  have hin8 : ¬ ((5 : Int32) < 0 ∨ clq7.slots.size ≤ ((5 : Int32)).toNatClampNeg) := inb_of Asq7 ⟨by decide, by decide⟩
  obtain ⟨T9, X9, e9, st9⟩ := getS2 X6 hx hZ hown (host := "") (Or.inl (ow hw 90 rfl)) Via.refl e6 S_StringUTF16_LO_BYTE_SHIFT (g := (mkF m 53 #[.val (.ref pR1), .val (.int 5)] [(.int (((pI803 >>> ((8 : Int32) &&& 31)).toInt8.toInt32) &&& (255 : Int32))), (.int ((((pI803 >>> ((0 : Int32) &&& 31)).toInt8.toInt32) &&& (255 : Int32)) <<< ((0 : Int32) &&& 31)))])) rfl (hb hby d20_53)
  obtain ⟨fs, hr, hrun, hended, hW, hsame⟩ := X9.leave (v := some (.int (nar .char ((((((pI803 >>> ((0 : Int32) &&& 31)).toInt8.toInt32) &&& (255 : Int32)) <<< ((0 : Int32) &&& 31)) ||| ((((pI803 >>> ((8 : Int32) &&& 31)).toInt8.toInt32) &&& (255 : Int32)) <<< ((8 : Int32) &&& 31))).toUInt32.toUInt16.toUInt32.toInt32)))) (fun h => by rw [Bd.returns] at h; cases h)
  refine ⟨_, _, castTop (ef_gc2 m pR1) ?_, hrun, hended, _, _, rfl, ?_, ⟨_, rfl⟩, hW, hsame.mono (by decide) (by decide)⟩
  · show oS p e below s₁ m 0 #[.val (.ref pR1), .val (.int 2)] [] _
    refine st2 _ ?_
    refine XS.ifYes X2.here hx rfl (pc0 := 3) (pc' := 28) rfl (hb hby d20_3) rfl ((if0 _ _).trans (feq (by decide : ¬ ((1 : Int32) = (0 : Int32)))).2) (by decide) (by decide) ?_
    refine XS.iloadN X2.here hx rfl (hb hby d20_28) rfl ?_
    refine XS.iconst X2.here hx rfl (hb hby d20_29) ?_
    refine XS.ishl X2.here hx rfl (hb hby d20_30) rfl ?_
    refine XS.istoreN X2.here hx rfl (hb hby d20_31) rfl (l' := #[.val (.ref pR1), .val (.int 4)]) rfl ?_
    show oS p e below T2 m 32 #[.val (.ref pR1), .val (.int 4)] [] _
    refine XS.aloadN X2.here hx rfl (hb hby d20_32) rfl rfl ?_
    refine XS.iloadN X2.here hx rfl (hb hby d20_33) rfl ?_
    refine XS.iinc X2.here hx rfl (hb hby d20_34) rfl (l' := #[.val (.ref pR1), .val (.int 5)]) rfl ?_
    refine X2.baloadBytes hx (j := (4 : Int32)) (v := (.int ((pI803 >>> ((0 : Int32) &&& 31)).toInt8.toInt32))) (by rw [e2]; exact Arq4.1) (State.isArrayOf_alike hZ.alike Arq4.2.1) Arq4.2.2 hin5 (Has.at Ahq4 hin5 rfl) (g := (mkF m 37 #[.val (.ref pR1), .val (.int 5)] [(.int 4), (.ref pR1)])) rfl rfl (hb hby d20_37) _ ?_
    refine XS.sipush X2.here hx rfl (hb hby d20_38) ?_
    refine XS.iand X2.here hx rfl (hb hby d20_41) rfl ?_
    show oS p e below T2 m 42 #[.val (.ref pR1), .val (.int 5)] [(.int (((pI803 >>> ((0 : Int32) &&& 31)).toInt8.toInt32) &&& (255 : Int32)))] _
    refine st6 _ ?_
    refine XS.ishl X6.here hx rfl (hb hby d20_45) rfl ?_
    refine XS.aloadN X6.here hx rfl (hb hby d20_46) rfl rfl ?_
    refine XS.iloadN X6.here hx rfl (hb hby d20_47) rfl ?_
    refine X6.baloadBytes hx (j := (5 : Int32)) (v := (.int ((pI803 >>> ((8 : Int32) &&& 31)).toInt8.toInt32))) (by rw [e6]; exact Arq7.1) (State.isArrayOf_alike hZ.alike Arq7.2.1) Arq7.2.2 hin8 (Has.at Ahq7 hin8 rfl) (g := (mkF m 48 #[.val (.ref pR1), .val (.int 5)] [(.int 5), (.ref pR1), (.int ((((pI803 >>> ((0 : Int32) &&& 31)).toInt8.toInt32) &&& (255 : Int32)) <<< ((0 : Int32) &&& 31)))])) rfl rfl (hb hby d20_48) _ ?_
    refine XS.sipush X6.here hx rfl (hb hby d20_49) ?_
    show oS p e below T6 m 52 #[.val (.ref pR1), .val (.int 5)] [(.int 255), (.int ((pI803 >>> ((8 : Int32) &&& 31)).toInt8.toInt32)), (.int ((((pI803 >>> ((0 : Int32) &&& 31)).toInt8.toInt32) &&& (255 : Int32)) <<< ((0 : Int32) &&& 31)))] _
    refine XS.iand X6.here hx rfl (hb hby d20_52) rfl ?_
    refine st9 _ ?_
    refine XS.ishl X9.here hx rfl (hb hby d20_56) rfl ?_
    refine XS.ior X9.here hx rfl (hb hby d20_57) rfl ?_
    refine XS.i2c X9.here hx rfl (hb hby d20_58) rfl ?_
    exact retN X9 hx (t := .char) Bd.returns (by simp) (hb hby d20_59) hr
  · show Qgc2 Z pR1 pI801 pI802 pI803 pI804 pK3 h0 n0 _ T9.heap _
    rw [e9]
    exact ⟨(by rw [own_utf hrg]), N0, rfl⟩
theorem ef_gc3 (m : MethodId) (pR1 : Addr) : entryFrame m #[(.ref pR1), (.int 3)] 2 = mkF m 0 #[.val (.ref pR1), .val (.int 3)] [] := by first | (simp [entryFrame, mkF, argsToLocals, Value.category]; done) | rfl
def Qgc3 (Z : State) (pR1 : Addr) (pI801 : Int32) (pI802 : Int32) (pI803 : Int32) (pI804 : Int32) (pK3 : ClassId) (h0 : Heap) (n0 : Nat) (v : Option Value) (h : Heap) (L : List Loc) : Prop := v = some (.int pI804) ∧ Fr n0 L ∧ h = h0
set_option maxRecDepth 65536 in
set_option maxHeartbeats 40000000 in
theorem gc3 (l : Launch) (Z : State) (a0 : Array Value) (hw : ∀ d ∈ tables_1, d.before a0 Z = true) (ws : List Jvm.Cond) (pR1 : Addr) (pI801 : Int32) (pI802 : Int32) (pI803 : Int32) (pI804 : Int32) (pK3 : ClassId) (h0 : Heap) (n0 : Nat) (Z0 : n0 ≤ h0.size) (S_StringUTF16__assertionsDisabled : Sta Z h0 "java/lang/StringUTF16" "$assertionsDisabled" "Z" (.int 1)) (V_pR1 : Arv Z h0 pR1 pK3 .byte (8 : Int32) [(.int ((pI801 >>> ((0 : Int32) &&& 31)).toInt8.toInt32)), (.int ((pI801 >>> ((8 : Int32) &&& 31)).toInt8.toInt32)), (.int ((pI802 >>> ((0 : Int32) &&& 31)).toInt8.toInt32)), (.int ((pI802 >>> ((8 : Int32) &&& 31)).toInt8.toInt32)), (.int ((pI803 >>> ((0 : Int32) &&& 31)).toInt8.toInt32)), (.int ((pI803 >>> ((8 : Int32) &&& 31)).toInt8.toInt32)), (.int ((pI804 >>> ((0 : Int32) &&& 31)).toInt8.toInt32)), (.int ((pI804 >>> ((8 : Int32) &&& 31)).toInt8.toInt32))] (.int (0 : Int32))) (S_StringUTF16_HI_BYTE_SHIFT : Sta Z h0 "java/lang/StringUTF16" "HI_BYTE_SHIFT" "I" (.int 0)) (S_StringUTF16_LO_BYTE_SHIFT : Sta Z h0 "java/lang/StringUTF16" "LO_BYTE_SHIFT" "I" (.int 8)) (hrg : 0 ≤ pI804.toInt ∧ pI804.toInt ≤ 65535) :
    oM l yN7 jdk_52_method_5_code 2 (some .char) ws ({ frames := 0, cells := 0, slots := 0, locals := 0 } : Room) #[(.ref pR1), (.int 3)] Z h0 (Qgc3 Z pR1 pI801 pI802 pI803 pI804 pK3 h0 n0) := by
  refine MetFree.of_bodySF (plainFor_of_name pn_1) hisR ?_
  intro p e s m args below meth c s₁ Bd hml0 hP hK
  obtain ⟨rfl, hZ, hh⟩ := hP
  have hx := Bd.exec
  have hby := Bd.bytes
  have hml : c.maxLocals = 2 := hml0
  have hown : s.vm.findClass "java/lang/StringUTF16" = some m.cls := findClass_of_methodNamed Bd.named
  have hnm := (name_of_methodNamed Bd.named Bd.method).1
  have X0 : Stand p l e ({ frames := 0, cells := 0, slots := 0, locals := 0 } : Room) s m #[(.ref pR1), (.int 3)] below meth c s₁ [] 0 0 := Stand.of_body Bd
  have e0 : s₁.heap = h0 := by rw [← hh, Bd.state]; rfl
  have N0 := Fr.nil n0
  obtain ⟨T2, X2, e2, st2⟩ := getS2 X0 hx hZ hown (host := "") (Or.inl (ow hw 88 rfl)) Via.refl e0 S_StringUTF16__assertionsDisabled (g := (mkF m 0 #[.val (.ref pR1), .val (.int 3)] [])) rfl (hb hby d20_0)
  obtain ⟨clq4, Arq4, Akq4, Asq4, Anq4, Ahq4, Agq4⟩ := id V_pR1
  have hin5 : ¬ ((6 : Int32) < 0 ∨ clq4.slots.size ≤ ((6 : Int32)).toNatClampNeg) := inb_of Asq4 ⟨by decide, by decide⟩
  obtain ⟨T6, X6, e6, st6⟩ := getS2 X2 hx hZ hown (host := "") (Or.inl (ow hw 89 rfl)) Via.refl e2 S_StringUTF16_HI_BYTE_SHIFT (g := (mkF m 42 #[.val (.ref pR1), .val (.int 7)] [(.int (((pI804 >>> ((0 : Int32) &&& 31)).toInt8.toInt32) &&& (255 : Int32)))])) rfl (hb hby d20_42)
  obtain ⟨clq7, Arq7, Akq7, Asq7, Anq7, Ahq7, Agq7⟩ := id V_pR1
  have hin8 : ¬ ((7 : Int32) < 0 ∨ clq7.slots.size ≤ ((7 : Int32)).toNatClampNeg) := inb_of Asq7 ⟨by decide, by decide⟩
  obtain ⟨T9, X9, e9, st9⟩ := getS2 X6 hx hZ hown (host := "") (Or.inl (ow hw 90 rfl)) Via.refl e6 S_StringUTF16_LO_BYTE_SHIFT (g := (mkF m 53 #[.val (.ref pR1), .val (.int 7)] [(.int (((pI804 >>> ((8 : Int32) &&& 31)).toInt8.toInt32) &&& (255 : Int32))), (.int ((((pI804 >>> ((0 : Int32) &&& 31)).toInt8.toInt32) &&& (255 : Int32)) <<< ((0 : Int32) &&& 31)))])) rfl (hb hby d20_53)
  obtain ⟨fs, hr, hrun, hended, hW, hsame⟩ := X9.leave (v := some (.int (nar .char ((((((pI804 >>> ((0 : Int32) &&& 31)).toInt8.toInt32) &&& (255 : Int32)) <<< ((0 : Int32) &&& 31)) ||| ((((pI804 >>> ((8 : Int32) &&& 31)).toInt8.toInt32) &&& (255 : Int32)) <<< ((8 : Int32) &&& 31))).toUInt32.toUInt16.toUInt32.toInt32)))) (fun h => by rw [Bd.returns] at h; cases h)
  refine ⟨_, _, castTop (ef_gc3 m pR1) ?_, hrun, hended, _, _, rfl, ?_, ⟨_, rfl⟩, hW, hsame.mono (by decide) (by decide)⟩
  · show oS p e below s₁ m 0 #[.val (.ref pR1), .val (.int 3)] [] _
    refine st2 _ ?_
    refine XS.ifYes X2.here hx rfl (pc0 := 3) (pc' := 28) rfl (hb hby d20_3) rfl ((if0 _ _).trans (feq (by decide : ¬ ((1 : Int32) = (0 : Int32)))).2) (by decide) (by decide) ?_
    refine XS.iloadN X2.here hx rfl (hb hby d20_28) rfl ?_
    refine XS.iconst X2.here hx rfl (hb hby d20_29) ?_
    refine XS.ishl X2.here hx rfl (hb hby d20_30) rfl ?_
    refine XS.istoreN X2.here hx rfl (hb hby d20_31) rfl (l' := #[.val (.ref pR1), .val (.int 6)]) rfl ?_
    show oS p e below T2 m 32 #[.val (.ref pR1), .val (.int 6)] [] _
    refine XS.aloadN X2.here hx rfl (hb hby d20_32) rfl rfl ?_
    refine XS.iloadN X2.here hx rfl (hb hby d20_33) rfl ?_
    refine XS.iinc X2.here hx rfl (hb hby d20_34) rfl (l' := #[.val (.ref pR1), .val (.int 7)]) rfl ?_
    refine X2.baloadBytes hx (j := (6 : Int32)) (v := (.int ((pI804 >>> ((0 : Int32) &&& 31)).toInt8.toInt32))) (by rw [e2]; exact Arq4.1) (State.isArrayOf_alike hZ.alike Arq4.2.1) Arq4.2.2 hin5 (Has.at Ahq4 hin5 rfl) (g := (mkF m 37 #[.val (.ref pR1), .val (.int 7)] [(.int 6), (.ref pR1)])) rfl rfl (hb hby d20_37) _ ?_
    refine XS.sipush X2.here hx rfl (hb hby d20_38) ?_
    refine XS.iand X2.here hx rfl (hb hby d20_41) rfl ?_
    show oS p e below T2 m 42 #[.val (.ref pR1), .val (.int 7)] [(.int (((pI804 >>> ((0 : Int32) &&& 31)).toInt8.toInt32) &&& (255 : Int32)))] _
    refine st6 _ ?_
    refine XS.ishl X6.here hx rfl (hb hby d20_45) rfl ?_
    refine XS.aloadN X6.here hx rfl (hb hby d20_46) rfl rfl ?_
    refine XS.iloadN X6.here hx rfl (hb hby d20_47) rfl ?_
    refine X6.baloadBytes hx (j := (7 : Int32)) (v := (.int ((pI804 >>> ((8 : Int32) &&& 31)).toInt8.toInt32))) (by rw [e6]; exact Arq7.1) (State.isArrayOf_alike hZ.alike Arq7.2.1) Arq7.2.2 hin8 (Has.at Ahq7 hin8 rfl) (g := (mkF m 48 #[.val (.ref pR1), .val (.int 7)] [(.int 7), (.ref pR1), (.int ((((pI804 >>> ((0 : Int32) &&& 31)).toInt8.toInt32) &&& (255 : Int32)) <<< ((0 : Int32) &&& 31)))])) rfl rfl (hb hby d20_48) _ ?_
    refine XS.sipush X6.here hx rfl (hb hby d20_49) ?_
    show oS p e below T6 m 52 #[.val (.ref pR1), .val (.int 7)] [(.int 255), (.int ((pI804 >>> ((8 : Int32) &&& 31)).toInt8.toInt32)), (.int ((((pI804 >>> ((0 : Int32) &&& 31)).toInt8.toInt32) &&& (255 : Int32)) <<< ((0 : Int32) &&& 31)))] _
    refine XS.iand X6.here hx rfl (hb hby d20_52) rfl ?_
    refine st9 _ ?_
    refine XS.ishl X9.here hx rfl (hb hby d20_56) rfl ?_
    refine XS.ior X9.here hx rfl (hb hby d20_57) rfl ?_
    refine XS.i2c X9.here hx rfl (hb hby d20_58) rfl ?_
    exact retN X9 hx (t := .char) Bd.returns (by simp) (hb hby d20_59) hr
  · show Qgc3 Z pR1 pI801 pI802 pI803 pI804 pK3 h0 n0 _ T9.heap _
    rw [e9]
    exact ⟨(by rw [own_utf hrg]), N0, rfl⟩
theorem d5_0 : decode jdk_52_method_16_code 0 = .ok (.iload_n 2, 1) := by decide +kernel
theorem d5_1 : decode jdk_52_method_16_code 1 = .ok (.newarray .byte, 2) := by decide +kernel
theorem d5_3 : decode jdk_52_method_16_code 3 = .ok (.astore_n 3, 1) := by decide +kernel
theorem d5_4 : decode jdk_52_method_16_code 4 = .ok (.aload_n 0, 1) := by decide +kernel
theorem d5_5 : decode jdk_52_method_16_code 5 = .ok (.iload_n 1, 1) := by decide +kernel
theorem d5_6 : decode jdk_52_method_16_code 6 = .ok (.aload_n 3, 1) := by decide +kernel
theorem d5_7 : decode jdk_52_method_16_code 7 = .ok (.iconst 0, 1) := by decide +kernel
theorem d5_8 : decode jdk_52_method_16_code 8 = .ok (.iload_n 2, 1) := by decide +kernel
theorem d5_9 : decode jdk_52_method_16_code 9 = .ok (.invokestatic 115, 3) := by decide +kernel
theorem pd_3 : parseMethodDescriptor "([CI[BII)I" = some ⟨[(.array .char), .int, (.array .byte), .int, .int], some .int⟩ := by decide +kernel
theorem d5_12 : decode jdk_52_method_16_code 12 = .ok (.istore 4, 2) := by decide +kernel
theorem d5_14 : decode jdk_52_method_16_code 14 = .ok (.iload 4, 2) := by decide +kernel
theorem d5_16 : decode jdk_52_method_16_code 16 = .ok (.iload_n 2, 1) := by decide +kernel
theorem d5_17 : decode jdk_52_method_16_code 17 = .ok (.if_icmp .eq 40, 3) := by decide +kernel
theorem d5_57 : decode jdk_52_method_16_code 57 = .ok (.aload_n 3, 1) := by decide +kernel
theorem d5_58 : decode jdk_52_method_16_code 58 = .ok (.areturn, 1) := by decide +kernel
theorem ef_cmp3L (m : MethodId) (pR1 : Addr) : entryFrame m #[(.ref pR1), (.int 0), (.int 4)] 6 = mkF m 0 #[.val (.ref pR1), .val (.int 0), .val (.int 4), .unset, .unset, .unset] [] := by first | (simp [entryFrame, mkF, argsToLocals, Value.category]; done) | rfl
def Qcmp3L (Z : State) (pR1 : Addr) (pI801 : Int32) (pI802 : Int32) (pI803 : Int32) (pI804 : Int32) (pK5 : ClassId) (h0 : Heap) (n0 : Nat) (v : Option Value) (h : Heap) (L : List Loc) : Prop := ∃ bR2 : Addr, ∃ k2 : ClassId, v = some (.ref bR2) ∧ Fr n0 L ∧ Keep h0 h [] ∧ h0.size ≤ bR2 ∧ Arv Z h bR2 k2 .byte (4 : Int32) [(.int (pI801.toInt8.toInt32)), (.int (pI802.toInt8.toInt32)), (.int (pI803.toInt8.toInt32)), (.int (pI804.toInt8.toInt32))] (.int (0 : Int32))
set_option maxRecDepth 65536 in
set_option maxHeartbeats 40000000 in
theorem cmp3L (l : Launch) (Z : State) (a0 : Array Value) (hw : ∀ d ∈ tables_1, d.before a0 Z = true) (ws : List Jvm.Cond) (pR1 : Addr) (pI801 : Int32) (pI802 : Int32) (pI803 : Int32) (pI804 : Int32) (pK5 : ClassId) (h0 : Heap) (n0 : Nat) (Z0 : n0 ≤ h0.size) (V_pR1 : Arv Z h0 pR1 pK5 .char (4 : Int32) [(.int pI801), (.int pI802), (.int pI803), (.int pI804)] (.int (0 : Int32))) (hc9 : ¬ ((255 : Int32) < pI801)) (hc9' : ¬ ((255 : Int32) < pI802)) (hc9'' : ¬ ((255 : Int32) < pI803)) (hc9''' : ¬ ((255 : Int32) < pI804)) :
    oM l yN8 jdk_52_method_16_code 6 (some (.array .byte)) ws ({ frames := 1, cells := 1, slots := 4, locals := 18 } : Room) #[(.ref pR1), (.int 0), (.int 4)] Z h0 (Qcmp3L Z pR1 pI801 pI802 pI803 pI804 pK5 h0 n0) := by
  refine MetFree.of_bodySF (plainFor_of_name pn_1) hisR ?_
  intro p e s m args below meth c s₁ Bd hml0 hP hK
  obtain ⟨rfl, hZ, hh⟩ := hP
  have hx := Bd.exec
  have hby := Bd.bytes
  have hml : c.maxLocals = 6 := hml0
  have hown : s.vm.findClass "java/lang/StringUTF16" = some m.cls := findClass_of_methodNamed Bd.named
  have hnm := (name_of_methodNamed Bd.named Bd.method).1
  have X0 : Stand p l e ({ frames := 1, cells := 1, slots := 4, locals := 18 } : Room) s m #[(.ref pR1), (.int 0), (.int 4)] below meth c s₁ [] 0 0 := Stand.of_body Bd
  have e0 : s₁.heap = h0 := by rw [← hh, Bd.state]; rfl
  have N0 := Fr.nil n0
  obtain ⟨T2, h2, k2, X2, e2, E2, A2, st2⟩ := newP X0 hx hZ (ow hw 23 rfl) e0 (g := (mkF m 1 #[.val (.ref pR1), .val (.int 0), .val (.int 4), .unset, .unset, .unset] [(.int 4)])) rfl (hb hby d5_1) rfl (by decide) (cap := 4) (by decide) (by decide) (by decide) (by decide)
  obtain ⟨bR2, g2⟩ : ∃ z, z = h0.size := ⟨_, rfl⟩
  rw [← g2] at A2 st2
  have K3 : Keep h0 h2 [] := (Keep.refl h0 []).ext E2
  have Z4 : n0 ≤ h2.size := (Nat.le_trans Z0 E2.1)
  have V2 : Arv Z h2 bR2 k2 .byte (4 : Int32) [(.int 0), (.int 0), (.int 0), (.int 0)] (.int (0 : Int32)) := (Arv.new A2 (by decide)).pad (pad_rep [] (.int (0 : Int32)) 4)
  have c6 : Arv Z h2 pR1 pK5 .char (4 : Int32) [(.int pI801), (.int pI802), (.int pI803), (.int pI804)] (.int (0 : Int32)) := V_pR1.ext E2
  have g7 : n0 ≤ bR2 := Nat.le_trans Z0 (Nat.le_of_eq g2.symm)
  obtain ⟨_, _, ⟨T8, L8, k8, n8⟩, -, X8, ⟨Lc8, hQ8, l8, y8, z8⟩, st8⟩ := Jvm.LawKit.callS X2 hx (y := yN2) hown (mvT hZ (ow hw 24 rfl)) (mvT hZ (ow hw 25 rfl)) (mvT hZ (ow hw 21 rfl)) (mvT hZ (ow hw 26 rfl)) (by decide) (backOf (W := 0) (cmp5_4 l Z a0 hw [] pR1 bR2 pI801 pI802 pI803 pI804 pK5 k2 h2 n0 Z4 c6 g7 V2 (Nat.ne_of_lt (Nat.lt_of_lt_of_le V_pR1.lt (Nat.le_of_eq g2.symm))) hc9 hc9' hc9'' hc9''') hZ (ow hw 26 rfl) (ow hw 21 rfl) (by decide) (by decide)) (g := (mkF m 9 #[.val (.ref pR1), .val (.int 0), .val (.int 4), .val (.ref bR2), .unset, .unset] [(.int 4), (.int 0), (.ref bR2), (.int 0), (.ref pR1)])) rfl (by rw [hml]; rfl) (argsL := [(.ref pR1), (.int 0), (.ref bR2), (.int 0), (.int 4)]) (rest := []) (lenOf pd_3 rfl) rfl (Nat.le_refl _) (hb hby d5_9) (fun _ _ => ⟨rfl, e2, (by decide : 1 + 0 ≤ _), (by decide : 4 + 0 ≤ _)⟩)
  dsimp only [Pt.U, Pt.locs, Pt.cells, Pt.slots] at X8 l8 y8 z8 st8 hQ8
  subst l8 y8 z8
  obtain ⟨rfl, Nq8, Kq8, x8_0⟩ := hQ8
  have N8 := Fr.app N0 Nq8
  obtain ⟨Lh8, X8, N8⟩ := own_hide X8 N8
  have K9 : Keep h0 T8.heap [] := K3.trans Kq8 (allS (Or.inr (Nat.le_of_eq g2.symm)) all0)
  have Z10 : n0 ≤ T8.heap.size := (Nat.le_trans Z4 Kq8.1)
  obtain ⟨fs, hr, hrun, hended, hW, hsame⟩ := X8.leave (v := some (.ref bR2)) (fun h => by rw [Bd.returns] at h; cases h)
  refine ⟨_, _, castTop (ef_cmp3L m pR1) ?_, hrun, hended, _, _, rfl, ?_, ⟨_, rfl⟩, hW, hsame.mono (by decide) (by decide)⟩
  · show oS p e below s₁ m 0 #[.val (.ref pR1), .val (.int 0), .val (.int 4), .unset, .unset, .unset] [] _
    refine XS.iloadN X0.here hx rfl (hb hby d5_0) rfl ?_
    refine st2 _ ?_
    refine XS.astoreN X2.here hx rfl (hb hby d5_3) rfl rfl (l' := #[.val (.ref pR1), .val (.int 0), .val (.int 4), .val (.ref bR2), .unset, .unset]) rfl ?_
    refine XS.aloadN X2.here hx rfl (hb hby d5_4) rfl rfl ?_
    refine XS.iloadN X2.here hx rfl (hb hby d5_5) rfl ?_
    refine XS.aloadN X2.here hx rfl (hb hby d5_6) rfl rfl ?_
    show oS p e below T2 m 7 #[.val (.ref pR1), .val (.int 0), .val (.int 4), .val (.ref bR2), .unset, .unset] [(.ref bR2), (.int 0), (.ref pR1)] _
    refine XS.iconst X2.here hx rfl (hb hby d5_7) ?_
    refine XS.iloadN X2.here hx rfl (hb hby d5_8) rfl ?_
    refine st8 _ ?_
    refine XS.istore X8.here hx rfl (hb hby d5_12) rfl (l' := #[.val (.ref pR1), .val (.int 0), .val (.int 4), .val (.ref bR2), .val (.int 4), .unset]) rfl ?_
    refine XS.iload X8.here hx rfl (hb hby d5_14) rfl ?_
    refine XS.iloadN X8.here hx rfl (hb hby d5_16) rfl ?_
    show oS p e below T8 m 17 #[.val (.ref pR1), .val (.int 0), .val (.int 4), .val (.ref bR2), .val (.int 4), .unset] [(.int 4), (.int 4)] _
    refine XS.icmpYes X8.here hx rfl (pc0 := 17) (pc' := 57) rfl (hb hby d5_17) rfl (teq (by decide : (4 : Int32) = (4 : Int32))).1 (by decide) (by decide) ?_
    refine XS.aloadN X8.here hx rfl (hb hby d5_57) rfl rfl ?_
    exact retOut X8 hx Bd.returns rfl (Or.inr (Or.inr (Or.inr (Or.inr ⟨rfl, rfl, rfl⟩)))) (hb hby d5_58) hr
  · show Qcmp3L Z pR1 pI801 pI802 pI803 pI804 pK5 h0 n0 _ T8.heap _
    exact ⟨bR2, k2, rfl, N8, K9, (Nat.le_of_eq g2.symm), x8_0⟩
theorem d5_20 : decode jdk_52_method_16_code 20 = .ok (.aload_n 0, 1) := by decide +kernel
theorem d5_21 : decode jdk_52_method_16_code 21 = .ok (.iload_n 1, 1) := by decide +kernel
theorem d5_22 : decode jdk_52_method_16_code 22 = .ok (.iload_n 2, 1) := by decide +kernel
theorem d5_23 : decode jdk_52_method_16_code 23 = .ok (.invokestatic 119, 3) := by decide +kernel
theorem pd_4 : parseMethodDescriptor "([CII)[B" = some ⟨[(.array .char), .int, .int], some (.array .byte)⟩ := by decide +kernel
theorem d5_26 : decode jdk_52_method_16_code 26 = .ok (.astore 5, 2) := by decide +kernel
theorem d5_28 : decode jdk_52_method_16_code 28 = .ok (.aload 5, 2) := by decide +kernel
theorem d5_30 : decode jdk_52_method_16_code 30 = .ok (.iload 4, 2) := by decide +kernel
theorem d5_32 : decode jdk_52_method_16_code 32 = .ok (.invokestatic 71, 3) := by decide +kernel
theorem pd_5 : parseMethodDescriptor "([BI)C" = some ⟨[(.array .byte), .int], some .char⟩ := by decide +kernel
theorem d5_35 : decode jdk_52_method_16_code 35 = .ok (.sipush 255, 3) := by decide +kernel
theorem d5_38 : decode jdk_52_method_16_code 38 = .ok (.if_icmp .gt 16, 3) := by decide +kernel
theorem d5_54 : decode jdk_52_method_16_code 54 = .ok (.aload 5, 2) := by decide +kernel
theorem d5_56 : decode jdk_52_method_16_code 56 = .ok (.areturn, 1) := by decide +kernel
theorem ef_cmp3_0 (m : MethodId) (pR1 : Addr) : entryFrame m #[(.ref pR1), (.int 0), (.int 4)] 6 = mkF m 0 #[.val (.ref pR1), .val (.int 0), .val (.int 4), .unset, .unset, .unset] [] := by first | (simp [entryFrame, mkF, argsToLocals, Value.category]; done) | rfl
def Qcmp3U (Z : State) (pI801 : Int32) (pI802 : Int32) (pI803 : Int32) (pI804 : Int32) (h0 : Heap) (n0 : Nat) (v : Option Value) (h : Heap) (L : List Loc) : Prop := ∃ b : Addr, ∃ k : ClassId, v = some (.ref b) ∧ Fr n0 L ∧ Keep h0 h [] ∧ h0.size ≤ b ∧ Arv Z h b k .byte (8 : Int32) [(.int ((pI801 >>> ((0 : Int32) &&& 31)).toInt8.toInt32)), (.int ((pI801 >>> ((8 : Int32) &&& 31)).toInt8.toInt32)), (.int ((pI802 >>> ((0 : Int32) &&& 31)).toInt8.toInt32)), (.int ((pI802 >>> ((8 : Int32) &&& 31)).toInt8.toInt32)), (.int ((pI803 >>> ((0 : Int32) &&& 31)).toInt8.toInt32)), (.int ((pI803 >>> ((8 : Int32) &&& 31)).toInt8.toInt32)), (.int ((pI804 >>> ((0 : Int32) &&& 31)).toInt8.toInt32)), (.int ((pI804 >>> ((8 : Int32) &&& 31)).toInt8.toInt32))] (.int (0 : Int32))
set_option maxRecDepth 65536 in
set_option maxHeartbeats 40000000 in
theorem cmp3_0 (l : Launch) (Z : State) (a0 : Array Value) (hw : ∀ d ∈ tables_1, d.before a0 Z = true) (ws : List Jvm.Cond) (pR1 : Addr) (pI801 : Int32) (pI802 : Int32) (pI803 : Int32) (pI804 : Int32) (pK5 : ClassId) (h0 : Heap) (n0 : Nat) (Z0 : n0 ≤ h0.size) (V_pR1 : Arv Z h0 pR1 pK5 .char (4 : Int32) [(.int pI801), (.int pI802), (.int pI803), (.int pI804)] (.int (0 : Int32))) (S_StringUTF16__assertionsDisabled : Sta Z h0 "java/lang/StringUTF16" "$assertionsDisabled" "Z" (.int 1)) (S_StringUTF16_HI_BYTE_SHIFT : Sta Z h0 "java/lang/StringUTF16" "HI_BYTE_SHIFT" "I" (.int 0)) (S_StringUTF16_LO_BYTE_SHIFT : Sta Z h0 "java/lang/StringUTF16" "LO_BYTE_SHIFT" "I" (.int 8)) (hc9 : (255 : Int32) < pI801) (hc32 : 0 ≤ pI801.toInt ∧ pI801.toInt ≤ 65535) :
    oM l yN8 jdk_52_method_16_code 6 (some (.array .byte)) ws ({ frames := 3, cells := 2, slots := 12, locals := 40 } : Room) #[(.ref pR1), (.int 0), (.int 4)] Z h0 (Qcmp3U Z pI801 pI802 pI803 pI804 h0 n0) := by
  refine MetFree.of_bodySF (plainFor_of_name pn_1) hisR ?_
  intro p e s m args below meth c s₁ Bd hml0 hP hK
  obtain ⟨rfl, hZ, hh⟩ := hP
  have hx := Bd.exec
  have hby := Bd.bytes
  have hml : c.maxLocals = 6 := hml0
  have hown : s.vm.findClass "java/lang/StringUTF16" = some m.cls := findClass_of_methodNamed Bd.named
  have hnm := (name_of_methodNamed Bd.named Bd.method).1
  have X0 : Stand p l e ({ frames := 3, cells := 2, slots := 12, locals := 40 } : Room) s m #[(.ref pR1), (.int 0), (.int 4)] below meth c s₁ [] 0 0 := Stand.of_body Bd
  have e0 : s₁.heap = h0 := by rw [← hh, Bd.state]; rfl
  have N0 := Fr.nil n0
  obtain ⟨T2, h2, k2, X2, e2, E2, A2, st2⟩ := newP X0 hx hZ (ow hw 23 rfl) e0 (g := (mkF m 1 #[.val (.ref pR1), .val (.int 0), .val (.int 4), .unset, .unset, .unset] [(.int 4)])) rfl (hb hby d5_1) rfl (by decide) (cap := 4) (by decide) (by decide) (by decide) (by decide)
  obtain ⟨bR2, g2⟩ : ∃ z, z = h0.size := ⟨_, rfl⟩
  rw [← g2] at A2 st2
  have K3 : Keep h0 h2 [] := (Keep.refl h0 []).ext E2
  have Z4 : n0 ≤ h2.size := (Nat.le_trans Z0 E2.1)
  have V2 : Arv Z h2 bR2 k2 .byte (4 : Int32) [(.int 0), (.int 0), (.int 0), (.int 0)] (.int (0 : Int32)) := (Arv.new A2 (by decide)).pad (pad_rep [] (.int (0 : Int32)) 4)
  have c6 : Arv Z h2 pR1 pK5 .char (4 : Int32) [(.int pI801), (.int pI802), (.int pI803), (.int pI804)] (.int (0 : Int32)) := V_pR1.ext E2
  obtain ⟨_, _, ⟨T7, L7, k7, n7⟩, -, X7, ⟨Lc7, hQ7, l7, y7, z7⟩, st7⟩ := Jvm.LawKit.callS X2 hx (y := yN2) hown (mvT hZ (ow hw 24 rfl)) (mvT hZ (ow hw 25 rfl)) (mvT hZ (ow hw 21 rfl)) (mvT hZ (ow hw 26 rfl)) (by decide) (backOf (W := 0) (cmp5_0 l Z a0 hw [] pR1 bR2 pI801 pI802 pI803 pI804 pK5 h2 n0 Z4 c6 hc9) hZ (ow hw 26 rfl) (ow hw 21 rfl) (by decide) (by decide)) (g := (mkF m 9 #[.val (.ref pR1), .val (.int 0), .val (.int 4), .val (.ref bR2), .unset, .unset] [(.int 4), (.int 0), (.ref bR2), (.int 0), (.ref pR1)])) rfl (by rw [hml]; rfl) (argsL := [(.ref pR1), (.int 0), (.ref bR2), (.int 0), (.int 4)]) (rest := []) (lenOf pd_3 rfl) rfl (Nat.le_refl _) (hb hby d5_9) (fun _ _ => ⟨rfl, e2, (by decide : 1 + 0 ≤ _), (by decide : 4 + 0 ≤ _)⟩)
  dsimp only [Pt.U, Pt.locs, Pt.cells, Pt.slots] at X7 l7 y7 z7 st7 hQ7
  subst l7 y7 z7
  obtain ⟨rfl, Nq7, e7⟩ := hQ7
  have N7 := Fr.app N0 Nq7
  have c8 : Sta Z h2 "java/lang/StringUTF16" "$assertionsDisabled" "Z" (.int 1) := S_StringUTF16__assertionsDisabled.ext E2
  have c9 : Sta Z h2 "java/lang/StringUTF16" "HI_BYTE_SHIFT" "I" (.int 0) := S_StringUTF16_HI_BYTE_SHIFT.ext E2
  have c10 : Sta Z h2 "java/lang/StringUTF16" "LO_BYTE_SHIFT" "I" (.int 8) := S_StringUTF16_LO_BYTE_SHIFT.ext E2
  obtain ⟨_, _, ⟨T11, L11, k11, n11⟩, -, X11, ⟨Lc11, hQ11, l11, y11, z11⟩, st11⟩ := Jvm.LawKit.callS X7 hx (y := yN6) hown (mvT hZ (ow hw 75 rfl)) (mvT hZ (ow hw 76 rfl)) (mvT hZ (ow hw 21 rfl)) (mvT hZ (ow hw 77 rfl)) (by decide) (backOf (W := 0) (toB l Z a0 hw [] pR1 pI801 pI802 pI803 pI804 pK5 h2 n0 Z4 c6 c8 c9 c10) hZ (ow hw 77 rfl) (ow hw 21 rfl) (by decide) (by decide)) (g := (mkF m 23 #[.val (.ref pR1), .val (.int 0), .val (.int 4), .val (.ref bR2), .val (.int 0), .unset] [(.int 4), (.int 0), (.ref pR1)])) rfl (by rw [hml]; rfl) (argsL := [(.ref pR1), (.int 0), (.int 4)]) (rest := []) (lenOf pd_4 rfl) rfl (Nat.le_refl _) (hb hby d5_23) (fun _ _ => ⟨rfl, e7, (by decide : 1 + 1 ≤ _), (by decide : 4 + 8 ≤ _)⟩)
  dsimp only [Pt.U, Pt.locs, Pt.cells, Pt.slots] at X11 l11 y11 z11 st11 hQ11
  subst l11 y11 z11
  obtain ⟨bR11_0, kK11_0, rfl, Nq11, Kq11, sz11_0, x11_0⟩ := hQ11
  have N11 := Fr.app N7 Nq11
  obtain ⟨Lh11, X11, N11⟩ := own_hide X11 N11
  have K12 : Keep h0 T11.heap [] := K3.trans Kq11 all0
  have Z13 : n0 ≤ T11.heap.size := (Nat.le_trans Z4 Kq11.1)
  have c14 : Sta Z T11.heap "java/lang/StringUTF16" "$assertionsDisabled" "Z" (.int 1) := own_sta_keep c8 Kq11 all0
  have c15 : Sta Z T11.heap "java/lang/StringUTF16" "HI_BYTE_SHIFT" "I" (.int 0) := own_sta_keep c9 Kq11 all0
  have c16 : Sta Z T11.heap "java/lang/StringUTF16" "LO_BYTE_SHIFT" "I" (.int 8) := own_sta_keep c10 Kq11 all0
  obtain ⟨_, _, ⟨T17, L17, k17, n17⟩, -, X17, ⟨Lc17, hQ17, l17, y17, z17⟩, st17⟩ := Jvm.LawKit.callS X11 hx (y := yN7) hown (mvT hZ (ow hw 91 rfl)) (mvT hZ (ow hw 92 rfl)) (mvT hZ (ow hw 21 rfl)) (mvT hZ (ow hw 93 rfl)) (by decide) (backOf (W := 0) (gc0 l Z a0 hw [] bR11_0 pI801 pI802 pI803 pI804 kK11_0 T11.heap n0 Z13 c14 x11_0 c15 c16 hc32) hZ (ow hw 93 rfl) (ow hw 21 rfl) (by decide) (by decide)) (g := (mkF m 32 #[.val (.ref pR1), .val (.int 0), .val (.int 4), .val (.ref bR2), .val (.int 0), .val (.ref bR11_0)] [(.int 0), (.ref bR11_0)])) rfl (by rw [hml]; rfl) (argsL := [(.ref bR11_0), (.int 0)]) (rest := []) (lenOf pd_5 rfl) rfl (Nat.le_refl _) (hb hby d5_32) (fun _ _ => ⟨rfl, rfl, (by decide : 2 + 0 ≤ _), (by decide : 12 + 0 ≤ _)⟩)
  dsimp only [Pt.U, Pt.locs, Pt.cells, Pt.slots] at X17 l17 y17 z17 st17 hQ17
  subst l17 y17 z17
  obtain ⟨rfl, Nq17, e17⟩ := hQ17
  have N17 := Fr.app N11 Nq17
  obtain ⟨fs, hr, hrun, hended, hW, hsame⟩ := X17.leave (v := some (.ref bR11_0)) (fun h => by rw [Bd.returns] at h; cases h)
  refine ⟨_, _, castTop (ef_cmp3_0 m pR1) ?_, hrun, hended, _, _, rfl, ?_, ⟨_, rfl⟩, hW, hsame.mono (by decide) (by decide)⟩
  · show oS p e below s₁ m 0 #[.val (.ref pR1), .val (.int 0), .val (.int 4), .unset, .unset, .unset] [] _
    refine XS.iloadN X0.here hx rfl (hb hby d5_0) rfl ?_
    refine st2 _ ?_
    refine XS.astoreN X2.here hx rfl (hb hby d5_3) rfl rfl (l' := #[.val (.ref pR1), .val (.int 0), .val (.int 4), .val (.ref bR2), .unset, .unset]) rfl ?_
    refine XS.aloadN X2.here hx rfl (hb hby d5_4) rfl rfl ?_
    refine XS.iloadN X2.here hx rfl (hb hby d5_5) rfl ?_
    refine XS.aloadN X2.here hx rfl (hb hby d5_6) rfl rfl ?_
    show oS p e below T2 m 7 #[.val (.ref pR1), .val (.int 0), .val (.int 4), .val (.ref bR2), .unset, .unset] [(.ref bR2), (.int 0), (.ref pR1)] _
    refine XS.iconst X2.here hx rfl (hb hby d5_7) ?_
    refine XS.iloadN X2.here hx rfl (hb hby d5_8) rfl ?_
    refine st7 _ ?_
    refine XS.istore X7.here hx rfl (hb hby d5_12) rfl (l' := #[.val (.ref pR1), .val (.int 0), .val (.int 4), .val (.ref bR2), .val (.int 0), .unset]) rfl ?_
    refine XS.iload X7.here hx rfl (hb hby d5_14) rfl ?_
    refine XS.iloadN X7.here hx rfl (hb hby d5_16) rfl ?_
    show oS p e below T7 m 17 #[.val (.ref pR1), .val (.int 0), .val (.int 4), .val (.ref bR2), .val (.int 0), .unset] [(.int 4), (.int 0)] _
    refine XS.icmpNo X7.here hx rfl (hb hby d5_17) rfl (feq (by decide : ¬ ((0 : Int32) = (4 : Int32)))).1 ?_
    refine XS.aloadN X7.here hx rfl (hb hby d5_20) rfl rfl ?_
    refine XS.iloadN X7.here hx rfl (hb hby d5_21) rfl ?_
    refine XS.iloadN X7.here hx rfl (hb hby d5_22) rfl ?_
    refine st11 _ ?_
    refine XS.astore X11.here hx rfl (hb hby d5_26) rfl rfl (l' := #[.val (.ref pR1), .val (.int 0), .val (.int 4), .val (.ref bR2), .val (.int 0), .val (.ref bR11_0)]) rfl ?_
    show oS p e below T11 m 28 #[.val (.ref pR1), .val (.int 0), .val (.int 4), .val (.ref bR2), .val (.int 0), .val (.ref bR11_0)] [] _
    refine XS.aload X11.here hx rfl (hb hby d5_28) rfl rfl ?_
    refine XS.iload X11.here hx rfl (hb hby d5_30) rfl ?_
    refine st17 _ ?_
    refine XS.sipush X17.here hx rfl (hb hby d5_35) ?_
    refine XS.icmpYes X17.here hx rfl (pc0 := 38) (pc' := 54) rfl (hb hby d5_38) rfl (tlt hc9).2.2.1 (by decide) (by decide) ?_
    refine XS.aload X17.here hx rfl (hb hby d5_54) rfl rfl ?_
    show oS p e below T17 m 56 #[.val (.ref pR1), .val (.int 0), .val (.int 4), .val (.ref bR2), .val (.int 0), .val (.ref bR11_0)] [(.ref bR11_0)] _
    exact retOut X17 hx Bd.returns rfl (Or.inr (Or.inr (Or.inr (Or.inr ⟨rfl, rfl, rfl⟩)))) (hb hby d5_56) hr
  · show Qcmp3U Z pI801 pI802 pI803 pI804 h0 n0 _ T17.heap _
    rw [e17]
    exact ⟨bR11_0, kK11_0, rfl, N17, K12, (Nat.le_trans K3.1 sz11_0), x11_0⟩
theorem ef_cmp3_1 (m : MethodId) (pR1 : Addr) : entryFrame m #[(.ref pR1), (.int 0), (.int 4)] 6 = mkF m 0 #[.val (.ref pR1), .val (.int 0), .val (.int 4), .unset, .unset, .unset] [] := by first | (simp [entryFrame, mkF, argsToLocals, Value.category]; done) | rfl
set_option maxRecDepth 65536 in
set_option maxHeartbeats 40000000 in
theorem cmp3_1 (l : Launch) (Z : State) (a0 : Array Value) (hw : ∀ d ∈ tables_1, d.before a0 Z = true) (ws : List Jvm.Cond) (pR1 : Addr) (pI801 : Int32) (pI802 : Int32) (pI803 : Int32) (pI804 : Int32) (pK5 : ClassId) (h0 : Heap) (n0 : Nat) (Z0 : n0 ≤ h0.size) (V_pR1 : Arv Z h0 pR1 pK5 .char (4 : Int32) [(.int pI801), (.int pI802), (.int pI803), (.int pI804)] (.int (0 : Int32))) (S_StringUTF16__assertionsDisabled : Sta Z h0 "java/lang/StringUTF16" "$assertionsDisabled" "Z" (.int 1)) (S_StringUTF16_HI_BYTE_SHIFT : Sta Z h0 "java/lang/StringUTF16" "HI_BYTE_SHIFT" "I" (.int 0)) (S_StringUTF16_LO_BYTE_SHIFT : Sta Z h0 "java/lang/StringUTF16" "LO_BYTE_SHIFT" "I" (.int 8)) (hc9 : ¬ ((255 : Int32) < pI801)) (hc9' : (255 : Int32) < pI802) (hc32 : 0 ≤ pI802.toInt ∧ pI802.toInt ≤ 65535) :
    oM l yN8 jdk_52_method_16_code 6 (some (.array .byte)) ws ({ frames := 3, cells := 2, slots := 12, locals := 40 } : Room) #[(.ref pR1), (.int 0), (.int 4)] Z h0 (Qcmp3U Z pI801 pI802 pI803 pI804 h0 n0) := by
  refine MetFree.of_bodySF (plainFor_of_name pn_1) hisR ?_
  intro p e s m args below meth c s₁ Bd hml0 hP hK
  obtain ⟨rfl, hZ, hh⟩ := hP
  have hx := Bd.exec
  have hby := Bd.bytes
  have hml : c.maxLocals = 6 := hml0
  have hown : s.vm.findClass "java/lang/StringUTF16" = some m.cls := findClass_of_methodNamed Bd.named
  have hnm := (name_of_methodNamed Bd.named Bd.method).1
  have X0 : Stand p l e ({ frames := 3, cells := 2, slots := 12, locals := 40 } : Room) s m #[(.ref pR1), (.int 0), (.int 4)] below meth c s₁ [] 0 0 := Stand.of_body Bd
  have e0 : s₁.heap = h0 := by rw [← hh, Bd.state]; rfl
  have N0 := Fr.nil n0
  obtain ⟨T2, h2, k2, X2, e2, E2, A2, st2⟩ := newP X0 hx hZ (ow hw 23 rfl) e0 (g := (mkF m 1 #[.val (.ref pR1), .val (.int 0), .val (.int 4), .unset, .unset, .unset] [(.int 4)])) rfl (hb hby d5_1) rfl (by decide) (cap := 4) (by decide) (by decide) (by decide) (by decide)
  obtain ⟨bR2, g2⟩ : ∃ z, z = h0.size := ⟨_, rfl⟩
  rw [← g2] at A2 st2
  have K3 : Keep h0 h2 [] := (Keep.refl h0 []).ext E2
  have Z4 : n0 ≤ h2.size := (Nat.le_trans Z0 E2.1)
  have V2 : Arv Z h2 bR2 k2 .byte (4 : Int32) [(.int 0), (.int 0), (.int 0), (.int 0)] (.int (0 : Int32)) := (Arv.new A2 (by decide)).pad (pad_rep [] (.int (0 : Int32)) 4)
  have c6 : Arv Z h2 pR1 pK5 .char (4 : Int32) [(.int pI801), (.int pI802), (.int pI803), (.int pI804)] (.int (0 : Int32)) := V_pR1.ext E2
  have g7 : n0 ≤ bR2 := Nat.le_trans Z0 (Nat.le_of_eq g2.symm)
  obtain ⟨_, _, ⟨T8, L8, k8, n8⟩, -, X8, ⟨Lc8, hQ8, l8, y8, z8⟩, st8⟩ := Jvm.LawKit.callS X2 hx (y := yN2) hown (mvT hZ (ow hw 24 rfl)) (mvT hZ (ow hw 25 rfl)) (mvT hZ (ow hw 21 rfl)) (mvT hZ (ow hw 26 rfl)) (by decide) (backOf (W := 0) (cmp5_1 l Z a0 hw [] pR1 bR2 pI801 pI802 pI803 pI804 pK5 k2 h2 n0 Z4 c6 g7 V2 (Nat.ne_of_lt (Nat.lt_of_lt_of_le V_pR1.lt (Nat.le_of_eq g2.symm))) hc9 hc9') hZ (ow hw 26 rfl) (ow hw 21 rfl) (by decide) (by decide)) (g := (mkF m 9 #[.val (.ref pR1), .val (.int 0), .val (.int 4), .val (.ref bR2), .unset, .unset] [(.int 4), (.int 0), (.ref bR2), (.int 0), (.ref pR1)])) rfl (by rw [hml]; rfl) (argsL := [(.ref pR1), (.int 0), (.ref bR2), (.int 0), (.int 4)]) (rest := []) (lenOf pd_3 rfl) rfl (Nat.le_refl _) (hb hby d5_9) (fun _ _ => ⟨rfl, e2, (by decide : 1 + 0 ≤ _), (by decide : 4 + 0 ≤ _)⟩)
  dsimp only [Pt.U, Pt.locs, Pt.cells, Pt.slots] at X8 l8 y8 z8 st8 hQ8
  subst l8 y8 z8
  obtain ⟨rfl, Nq8, Kq8, x8_0⟩ := hQ8
  have N8 := Fr.app N0 Nq8
  obtain ⟨Lh8, X8, N8⟩ := own_hide X8 N8
  have K9 : Keep h0 T8.heap [] := K3.trans Kq8 (allS (Or.inr (Nat.le_of_eq g2.symm)) all0)
  have Z10 : n0 ≤ T8.heap.size := (Nat.le_trans Z4 Kq8.1)
  have c11 : Arv Z T8.heap pR1 pK5 .char (4 : Int32) [(.int pI801), (.int pI802), (.int pI803), (.int pI804)] (.int (0 : Int32)) := c6.keep Kq8 (ninS (Nat.ne_of_lt (Nat.lt_of_lt_of_le V_pR1.lt (Nat.le_of_eq g2.symm))) nin0)
  have c12 : Sta Z h2 "java/lang/StringUTF16" "$assertionsDisabled" "Z" (.int 1) := S_StringUTF16__assertionsDisabled.ext E2
  have c13 : Sta Z T8.heap "java/lang/StringUTF16" "$assertionsDisabled" "Z" (.int 1) := own_sta_keep c12 Kq8 (allS (own_plain_V V2) all0)
  have c14 : Sta Z h2 "java/lang/StringUTF16" "HI_BYTE_SHIFT" "I" (.int 0) := S_StringUTF16_HI_BYTE_SHIFT.ext E2
  have c15 : Sta Z T8.heap "java/lang/StringUTF16" "HI_BYTE_SHIFT" "I" (.int 0) := own_sta_keep c14 Kq8 (allS (own_plain_V V2) all0)
  have c16 : Sta Z h2 "java/lang/StringUTF16" "LO_BYTE_SHIFT" "I" (.int 8) := S_StringUTF16_LO_BYTE_SHIFT.ext E2
  have c17 : Sta Z T8.heap "java/lang/StringUTF16" "LO_BYTE_SHIFT" "I" (.int 8) := own_sta_keep c16 Kq8 (allS (own_plain_V V2) all0)
  obtain ⟨_, _, ⟨T18, L18, k18, n18⟩, -, X18, ⟨Lc18, hQ18, l18, y18, z18⟩, st18⟩ := Jvm.LawKit.callS X8 hx (y := yN6) hown (mvT hZ (ow hw 75 rfl)) (mvT hZ (ow hw 76 rfl)) (mvT hZ (ow hw 21 rfl)) (mvT hZ (ow hw 77 rfl)) (by decide) (backOf (W := 0) (toB l Z a0 hw [] pR1 pI801 pI802 pI803 pI804 pK5 T8.heap n0 Z10 c11 c13 c15 c17) hZ (ow hw 77 rfl) (ow hw 21 rfl) (by decide) (by decide)) (g := (mkF m 23 #[.val (.ref pR1), .val (.int 0), .val (.int 4), .val (.ref bR2), .val (.int 1), .unset] [(.int 4), (.int 0), (.ref pR1)])) rfl (by rw [hml]; rfl) (argsL := [(.ref pR1), (.int 0), (.int 4)]) (rest := []) (lenOf pd_4 rfl) rfl (Nat.le_refl _) (hb hby d5_23) (fun _ _ => ⟨rfl, rfl, (by decide : 1 + 1 ≤ _), (by decide : 4 + 8 ≤ _)⟩)
  dsimp only [Pt.U, Pt.locs, Pt.cells, Pt.slots] at X18 l18 y18 z18 st18 hQ18
  subst l18 y18 z18
  obtain ⟨bR18_0, kK18_0, rfl, Nq18, Kq18, sz18_0, x18_0⟩ := hQ18
  have N18 := Fr.app N8 Nq18
  obtain ⟨Lh18, X18, N18⟩ := own_hide X18 N18
  have K19 : Keep h0 T18.heap [] := K9.trans Kq18 all0
  have Z20 : n0 ≤ T18.heap.size := (Nat.le_trans Z10 Kq18.1)
  have c21 : Sta Z T18.heap "java/lang/StringUTF16" "$assertionsDisabled" "Z" (.int 1) := own_sta_keep c13 Kq18 all0
  have c22 : Sta Z T18.heap "java/lang/StringUTF16" "HI_BYTE_SHIFT" "I" (.int 0) := own_sta_keep c15 Kq18 all0
  have c23 : Sta Z T18.heap "java/lang/StringUTF16" "LO_BYTE_SHIFT" "I" (.int 8) := own_sta_keep c17 Kq18 all0
  obtain ⟨_, _, ⟨T24, L24, k24, n24⟩, -, X24, ⟨Lc24, hQ24, l24, y24, z24⟩, st24⟩ := Jvm.LawKit.callS X18 hx (y := yN7) hown (mvT hZ (ow hw 91 rfl)) (mvT hZ (ow hw 92 rfl)) (mvT hZ (ow hw 21 rfl)) (mvT hZ (ow hw 93 rfl)) (by decide) (backOf (W := 0) (gc1 l Z a0 hw [] bR18_0 pI801 pI802 pI803 pI804 kK18_0 T18.heap n0 Z20 c21 x18_0 c22 c23 hc32) hZ (ow hw 93 rfl) (ow hw 21 rfl) (by decide) (by decide)) (g := (mkF m 32 #[.val (.ref pR1), .val (.int 0), .val (.int 4), .val (.ref bR2), .val (.int 1), .val (.ref bR18_0)] [(.int 1), (.ref bR18_0)])) rfl (by rw [hml]; rfl) (argsL := [(.ref bR18_0), (.int 1)]) (rest := []) (lenOf pd_5 rfl) rfl (Nat.le_refl _) (hb hby d5_32) (fun _ _ => ⟨rfl, rfl, (by decide : 2 + 0 ≤ _), (by decide : 12 + 0 ≤ _)⟩)
  dsimp only [Pt.U, Pt.locs, Pt.cells, Pt.slots] at X24 l24 y24 z24 st24 hQ24
  subst l24 y24 z24
  obtain ⟨rfl, Nq24, e24⟩ := hQ24
  have N24 := Fr.app N18 Nq24
  obtain ⟨fs, hr, hrun, hended, hW, hsame⟩ := X24.leave (v := some (.ref bR18_0)) (fun h => by rw [Bd.returns] at h; cases h)
  refine ⟨_, _, castTop (ef_cmp3_1 m pR1) ?_, hrun, hended, _, _, rfl, ?_, ⟨_, rfl⟩, hW, hsame.mono (by decide) (by decide)⟩
  · show oS p e below s₁ m 0 #[.val (.ref pR1), .val (.int 0), .val (.int 4), .unset, .unset, .unset] [] _
    refine XS.iloadN X0.here hx rfl (hb hby d5_0) rfl ?_
    refine st2 _ ?_
    refine XS.astoreN X2.here hx rfl (hb hby d5_3) rfl rfl (l' := #[.val (.ref pR1), .val (.int 0), .val (.int 4), .val (.ref bR2), .unset, .unset]) rfl ?_
    refine XS.aloadN X2.here hx rfl (hb hby d5_4) rfl rfl ?_
    refine XS.iloadN X2.here hx rfl (hb hby d5_5) rfl ?_
    refine XS.aloadN X2.here hx rfl (hb hby d5_6) rfl rfl ?_
    show oS p e below T2 m 7 #[.val (.ref pR1), .val (.int 0), .val (.int 4), .val (.ref bR2), .unset, .unset] [(.ref bR2), (.int 0), (.ref pR1)] _
    refine XS.iconst X2.here hx rfl (hb hby d5_7) ?_
    refine XS.iloadN X2.here hx rfl (hb hby d5_8) rfl ?_
    refine st8 _ ?_
    refine XS.istore X8.here hx rfl (hb hby d5_12) rfl (l' := #[.val (.ref pR1), .val (.int 0), .val (.int 4), .val (.ref bR2), .val (.int 1), .unset]) rfl ?_
    refine XS.iload X8.here hx rfl (hb hby d5_14) rfl ?_
    refine XS.iloadN X8.here hx rfl (hb hby d5_16) rfl ?_
    show oS p e below T8 m 17 #[.val (.ref pR1), .val (.int 0), .val (.int 4), .val (.ref bR2), .val (.int 1), .unset] [(.int 4), (.int 1)] _
    refine XS.icmpNo X8.here hx rfl (hb hby d5_17) rfl (feq (by decide : ¬ ((1 : Int32) = (4 : Int32)))).1 ?_
    refine XS.aloadN X8.here hx rfl (hb hby d5_20) rfl rfl ?_
    refine XS.iloadN X8.here hx rfl (hb hby d5_21) rfl ?_
    refine XS.iloadN X8.here hx rfl (hb hby d5_22) rfl ?_
    refine st18 _ ?_
    refine XS.astore X18.here hx rfl (hb hby d5_26) rfl rfl (l' := #[.val (.ref pR1), .val (.int 0), .val (.int 4), .val (.ref bR2), .val (.int 1), .val (.ref bR18_0)]) rfl ?_
    show oS p e below T18 m 28 #[.val (.ref pR1), .val (.int 0), .val (.int 4), .val (.ref bR2), .val (.int 1), .val (.ref bR18_0)] [] _
    refine XS.aload X18.here hx rfl (hb hby d5_28) rfl rfl ?_
    refine XS.iload X18.here hx rfl (hb hby d5_30) rfl ?_
    refine st24 _ ?_
    refine XS.sipush X24.here hx rfl (hb hby d5_35) ?_
    refine XS.icmpYes X24.here hx rfl (pc0 := 38) (pc' := 54) rfl (hb hby d5_38) rfl (tlt hc9').2.2.1 (by decide) (by decide) ?_
    refine XS.aload X24.here hx rfl (hb hby d5_54) rfl rfl ?_
    show oS p e below T24 m 56 #[.val (.ref pR1), .val (.int 0), .val (.int 4), .val (.ref bR2), .val (.int 1), .val (.ref bR18_0)] [(.ref bR18_0)] _
    exact retOut X24 hx Bd.returns rfl (Or.inr (Or.inr (Or.inr (Or.inr ⟨rfl, rfl, rfl⟩)))) (hb hby d5_56) hr
  · show Qcmp3U Z pI801 pI802 pI803 pI804 h0 n0 _ T24.heap _
    rw [e24]
    exact ⟨bR18_0, kK18_0, rfl, N24, K19, (Nat.le_trans K9.1 sz18_0), x18_0⟩
theorem ef_cmp3_2 (m : MethodId) (pR1 : Addr) : entryFrame m #[(.ref pR1), (.int 0), (.int 4)] 6 = mkF m 0 #[.val (.ref pR1), .val (.int 0), .val (.int 4), .unset, .unset, .unset] [] := by first | (simp [entryFrame, mkF, argsToLocals, Value.category]; done) | rfl
set_option maxRecDepth 65536 in
set_option maxHeartbeats 40000000 in
theorem cmp3_2 (l : Launch) (Z : State) (a0 : Array Value) (hw : ∀ d ∈ tables_1, d.before a0 Z = true) (ws : List Jvm.Cond) (pR1 : Addr) (pI801 : Int32) (pI802 : Int32) (pI803 : Int32) (pI804 : Int32) (pK5 : ClassId) (h0 : Heap) (n0 : Nat) (Z0 : n0 ≤ h0.size) (V_pR1 : Arv Z h0 pR1 pK5 .char (4 : Int32) [(.int pI801), (.int pI802), (.int pI803), (.int pI804)] (.int (0 : Int32))) (S_StringUTF16__assertionsDisabled : Sta Z h0 "java/lang/StringUTF16" "$assertionsDisabled" "Z" (.int 1)) (S_StringUTF16_HI_BYTE_SHIFT : Sta Z h0 "java/lang/StringUTF16" "HI_BYTE_SHIFT" "I" (.int 0)) (S_StringUTF16_LO_BYTE_SHIFT : Sta Z h0 "java/lang/StringUTF16" "LO_BYTE_SHIFT" "I" (.int 8)) (hc9 : ¬ ((255 : Int32) < pI801)) (hc9' : ¬ ((255 : Int32) < pI802)) (hc9'' : (255 : Int32) < pI803) (hc32 : 0 ≤ pI803.toInt ∧ pI803.toInt ≤ 65535) :
    oM l yN8 jdk_52_method_16_code 6 (some (.array .byte)) ws ({ frames := 3, cells := 2, slots := 12, locals := 40 } : Room) #[(.ref pR1), (.int 0), (.int 4)] Z h0 (Qcmp3U Z pI801 pI802 pI803 pI804 h0 n0) := by
  refine MetFree.of_bodySF (plainFor_of_name pn_1) hisR ?_
  intro p e s m args below meth c s₁ Bd hml0 hP hK
  obtain ⟨rfl, hZ, hh⟩ := hP
  have hx := Bd.exec
  have hby := Bd.bytes
  have hml : c.maxLocals = 6 := hml0
  have hown : s.vm.findClass "java/lang/StringUTF16" = some m.cls := findClass_of_methodNamed Bd.named
  have hnm := (name_of_methodNamed Bd.named Bd.method).1
  have X0 : Stand p l e ({ frames := 3, cells := 2, slots := 12, locals := 40 } : Room) s m #[(.ref pR1), (.int 0), (.int 4)] below meth c s₁ [] 0 0 := Stand.of_body Bd
  have e0 : s₁.heap = h0 := by rw [← hh, Bd.state]; rfl
  have N0 := Fr.nil n0
  obtain ⟨T2, h2, k2, X2, e2, E2, A2, st2⟩ := newP X0 hx hZ (ow hw 23 rfl) e0 (g := (mkF m 1 #[.val (.ref pR1), .val (.int 0), .val (.int 4), .unset, .unset, .unset] [(.int 4)])) rfl (hb hby d5_1) rfl (by decide) (cap := 4) (by decide) (by decide) (by decide) (by decide)
  obtain ⟨bR2, g2⟩ : ∃ z, z = h0.size := ⟨_, rfl⟩
  rw [← g2] at A2 st2
  have K3 : Keep h0 h2 [] := (Keep.refl h0 []).ext E2
  have Z4 : n0 ≤ h2.size := (Nat.le_trans Z0 E2.1)
  have V2 : Arv Z h2 bR2 k2 .byte (4 : Int32) [(.int 0), (.int 0), (.int 0), (.int 0)] (.int (0 : Int32)) := (Arv.new A2 (by decide)).pad (pad_rep [] (.int (0 : Int32)) 4)
  have c6 : Arv Z h2 pR1 pK5 .char (4 : Int32) [(.int pI801), (.int pI802), (.int pI803), (.int pI804)] (.int (0 : Int32)) := V_pR1.ext E2
  have g7 : n0 ≤ bR2 := Nat.le_trans Z0 (Nat.le_of_eq g2.symm)
  obtain ⟨_, _, ⟨T8, L8, k8, n8⟩, -, X8, ⟨Lc8, hQ8, l8, y8, z8⟩, st8⟩ := Jvm.LawKit.callS X2 hx (y := yN2) hown (mvT hZ (ow hw 24 rfl)) (mvT hZ (ow hw 25 rfl)) (mvT hZ (ow hw 21 rfl)) (mvT hZ (ow hw 26 rfl)) (by decide) (backOf (W := 0) (cmp5_2 l Z a0 hw [] pR1 bR2 pI801 pI802 pI803 pI804 pK5 k2 h2 n0 Z4 c6 g7 V2 (Nat.ne_of_lt (Nat.lt_of_lt_of_le V_pR1.lt (Nat.le_of_eq g2.symm))) hc9 hc9' hc9'') hZ (ow hw 26 rfl) (ow hw 21 rfl) (by decide) (by decide)) (g := (mkF m 9 #[.val (.ref pR1), .val (.int 0), .val (.int 4), .val (.ref bR2), .unset, .unset] [(.int 4), (.int 0), (.ref bR2), (.int 0), (.ref pR1)])) rfl (by rw [hml]; rfl) (argsL := [(.ref pR1), (.int 0), (.ref bR2), (.int 0), (.int 4)]) (rest := []) (lenOf pd_3 rfl) rfl (Nat.le_refl _) (hb hby d5_9) (fun _ _ => ⟨rfl, e2, (by decide : 1 + 0 ≤ _), (by decide : 4 + 0 ≤ _)⟩)
  dsimp only [Pt.U, Pt.locs, Pt.cells, Pt.slots] at X8 l8 y8 z8 st8 hQ8
  subst l8 y8 z8
  obtain ⟨rfl, Nq8, Kq8, x8_0⟩ := hQ8
  have N8 := Fr.app N0 Nq8
  obtain ⟨Lh8, X8, N8⟩ := own_hide X8 N8
  have K9 : Keep h0 T8.heap [] := K3.trans Kq8 (allS (Or.inr (Nat.le_of_eq g2.symm)) all0)
  have Z10 : n0 ≤ T8.heap.size := (Nat.le_trans Z4 Kq8.1)
  have c11 : Arv Z T8.heap pR1 pK5 .char (4 : Int32) [(.int pI801), (.int pI802), (.int pI803), (.int pI804)] (.int (0 : Int32)) := c6.keep Kq8 (ninS (Nat.ne_of_lt (Nat.lt_of_lt_of_le V_pR1.lt (Nat.le_of_eq g2.symm))) nin0)
  have c12 : Sta Z h2 "java/lang/StringUTF16" "$assertionsDisabled" "Z" (.int 1) := S_StringUTF16__assertionsDisabled.ext E2
  have c13 : Sta Z T8.heap "java/lang/StringUTF16" "$assertionsDisabled" "Z" (.int 1) := own_sta_keep c12 Kq8 (allS (own_plain_V V2) all0)
  have c14 : Sta Z h2 "java/lang/StringUTF16" "HI_BYTE_SHIFT" "I" (.int 0) := S_StringUTF16_HI_BYTE_SHIFT.ext E2
  have c15 : Sta Z T8.heap "java/lang/StringUTF16" "HI_BYTE_SHIFT" "I" (.int 0) := own_sta_keep c14 Kq8 (allS (own_plain_V V2) all0)
  have c16 : Sta Z h2 "java/lang/StringUTF16" "LO_BYTE_SHIFT" "I" (.int 8) := S_StringUTF16_LO_BYTE_SHIFT.ext E2
  have c17 : Sta Z T8.heap "java/lang/StringUTF16" "LO_BYTE_SHIFT" "I" (.int 8) := own_sta_keep c16 Kq8 (allS (own_plain_V V2) all0)
  obtain ⟨_, _, ⟨T18, L18, k18, n18⟩, -, X18, ⟨Lc18, hQ18, l18, y18, z18⟩, st18⟩ := Jvm.LawKit.callS X8 hx (y := yN6) hown (mvT hZ (ow hw 75 rfl)) (mvT hZ (ow hw 76 rfl)) (mvT hZ (ow hw 21 rfl)) (mvT hZ (ow hw 77 rfl)) (by decide) (backOf (W := 0) (toB l Z a0 hw [] pR1 pI801 pI802 pI803 pI804 pK5 T8.heap n0 Z10 c11 c13 c15 c17) hZ (ow hw 77 rfl) (ow hw 21 rfl) (by decide) (by decide)) (g := (mkF m 23 #[.val (.ref pR1), .val (.int 0), .val (.int 4), .val (.ref bR2), .val (.int 2), .unset] [(.int 4), (.int 0), (.ref pR1)])) rfl (by rw [hml]; rfl) (argsL := [(.ref pR1), (.int 0), (.int 4)]) (rest := []) (lenOf pd_4 rfl) rfl (Nat.le_refl _) (hb hby d5_23) (fun _ _ => ⟨rfl, rfl, (by decide : 1 + 1 ≤ _), (by decide : 4 + 8 ≤ _)⟩)
  dsimp only [Pt.U, Pt.locs, Pt.cells, Pt.slots] at X18 l18 y18 z18 st18 hQ18
  subst l18 y18 z18
  obtain ⟨bR18_0, kK18_0, rfl, Nq18, Kq18, sz18_0, x18_0⟩ := hQ18
  have N18 := Fr.app N8 Nq18
  obtain ⟨Lh18, X18, N18⟩ := own_hide X18 N18
  have K19 : Keep h0 T18.heap [] := K9.trans Kq18 all0
  have Z20 : n0 ≤ T18.heap.size := (Nat.le_trans Z10 Kq18.1)
  have c21 : Sta Z T18.heap "java/lang/StringUTF16" "$assertionsDisabled" "Z" (.int 1) := own_sta_keep c13 Kq18 all0
  have c22 : Sta Z T18.heap "java/lang/StringUTF16" "HI_BYTE_SHIFT" "I" (.int 0) := own_sta_keep c15 Kq18 all0
  have c23 : Sta Z T18.heap "java/lang/StringUTF16" "LO_BYTE_SHIFT" "I" (.int 8) := own_sta_keep c17 Kq18 all0
  obtain ⟨_, _, ⟨T24, L24, k24, n24⟩, -, X24, ⟨Lc24, hQ24, l24, y24, z24⟩, st24⟩ := Jvm.LawKit.callS X18 hx (y := yN7) hown (mvT hZ (ow hw 91 rfl)) (mvT hZ (ow hw 92 rfl)) (mvT hZ (ow hw 21 rfl)) (mvT hZ (ow hw 93 rfl)) (by decide) (backOf (W := 0) (gc2 l Z a0 hw [] bR18_0 pI801 pI802 pI803 pI804 kK18_0 T18.heap n0 Z20 c21 x18_0 c22 c23 hc32) hZ (ow hw 93 rfl) (ow hw 21 rfl) (by decide) (by decide)) (g := (mkF m 32 #[.val (.ref pR1), .val (.int 0), .val (.int 4), .val (.ref bR2), .val (.int 2), .val (.ref bR18_0)] [(.int 2), (.ref bR18_0)])) rfl (by rw [hml]; rfl) (argsL := [(.ref bR18_0), (.int 2)]) (rest := []) (lenOf pd_5 rfl) rfl (Nat.le_refl _) (hb hby d5_32) (fun _ _ => ⟨rfl, rfl, (by decide : 2 + 0 ≤ _), (by decide : 12 + 0 ≤ _)⟩)
  dsimp only [Pt.U, Pt.locs, Pt.cells, Pt.slots] at X24 l24 y24 z24 st24 hQ24
  subst l24 y24 z24
  obtain ⟨rfl, Nq24, e24⟩ := hQ24
  have N24 := Fr.app N18 Nq24
  obtain ⟨fs, hr, hrun, hended, hW, hsame⟩ := X24.leave (v := some (.ref bR18_0)) (fun h => by rw [Bd.returns] at h; cases h)
  refine ⟨_, _, castTop (ef_cmp3_2 m pR1) ?_, hrun, hended, _, _, rfl, ?_, ⟨_, rfl⟩, hW, hsame.mono (by decide) (by decide)⟩
  · show oS p e below s₁ m 0 #[.val (.ref pR1), .val (.int 0), .val (.int 4), .unset, .unset, .unset] [] _
    refine XS.iloadN X0.here hx rfl (hb hby d5_0) rfl ?_
    refine st2 _ ?_
    refine XS.astoreN X2.here hx rfl (hb hby d5_3) rfl rfl (l' := #[.val (.ref pR1), .val (.int 0), .val (.int 4), .val (.ref bR2), .unset, .unset]) rfl ?_
    refine XS.aloadN X2.here hx rfl (hb hby d5_4) rfl rfl ?_
    refine XS.iloadN X2.here hx rfl (hb hby d5_5) rfl ?_
    refine XS.aloadN X2.here hx rfl (hb hby d5_6) rfl rfl ?_
    show oS p e below T2 m 7 #[.val (.ref pR1), .val (.int 0), .val (.int 4), .val (.ref bR2), .unset, .unset] [(.ref bR2), (.int 0), (.ref pR1)] _
    refine XS.iconst X2.here hx rfl (hb hby d5_7) ?_
    refine XS.iloadN X2.here hx rfl (hb hby d5_8) rfl ?_
    refine st8 _ ?_
    refine XS.istore X8.here hx rfl (hb hby d5_12) rfl (l' := #[.val (.ref pR1), .val (.int 0), .val (.int 4), .val (.ref bR2), .val (.int 2), .unset]) rfl ?_
    refine XS.iload X8.here hx rfl (hb hby d5_14) rfl ?_
    refine XS.iloadN X8.here hx rfl (hb hby d5_16) rfl ?_
    show oS p e below T8 m 17 #[.val (.ref pR1), .val (.int 0), .val (.int 4), .val (.ref bR2), .val (.int 2), .unset] [(.int 4), (.int 2)] _
    refine XS.icmpNo X8.here hx rfl (hb hby d5_17) rfl (feq (by decide : ¬ ((2 : Int32) = (4 : Int32)))).1 ?_
    refine XS.aloadN X8.here hx rfl (hb hby d5_20) rfl rfl ?_
    refine XS.iloadN X8.here hx rfl (hb hby d5_21) rfl ?_
    refine XS.iloadN X8.here hx rfl (hb hby d5_22) rfl ?_
    refine st18 _ ?_
    refine XS.astore X18.here hx rfl (hb hby d5_26) rfl rfl (l' := #[.val (.ref pR1), .val (.int 0), .val (.int 4), .val (.ref bR2), .val (.int 2), .val (.ref bR18_0)]) rfl ?_
    show oS p e below T18 m 28 #[.val (.ref pR1), .val (.int 0), .val (.int 4), .val (.ref bR2), .val (.int 2), .val (.ref bR18_0)] [] _
    refine XS.aload X18.here hx rfl (hb hby d5_28) rfl rfl ?_
    refine XS.iload X18.here hx rfl (hb hby d5_30) rfl ?_
    refine st24 _ ?_
    refine XS.sipush X24.here hx rfl (hb hby d5_35) ?_
    refine XS.icmpYes X24.here hx rfl (pc0 := 38) (pc' := 54) rfl (hb hby d5_38) rfl (tlt hc9'').2.2.1 (by decide) (by decide) ?_
    refine XS.aload X24.here hx rfl (hb hby d5_54) rfl rfl ?_
    show oS p e below T24 m 56 #[.val (.ref pR1), .val (.int 0), .val (.int 4), .val (.ref bR2), .val (.int 2), .val (.ref bR18_0)] [(.ref bR18_0)] _
    exact retOut X24 hx Bd.returns rfl (Or.inr (Or.inr (Or.inr (Or.inr ⟨rfl, rfl, rfl⟩)))) (hb hby d5_56) hr
  · show Qcmp3U Z pI801 pI802 pI803 pI804 h0 n0 _ T24.heap _
    rw [e24]
    exact ⟨bR18_0, kK18_0, rfl, N24, K19, (Nat.le_trans K9.1 sz18_0), x18_0⟩
theorem ef_cmp3_3 (m : MethodId) (pR1 : Addr) : entryFrame m #[(.ref pR1), (.int 0), (.int 4)] 6 = mkF m 0 #[.val (.ref pR1), .val (.int 0), .val (.int 4), .unset, .unset, .unset] [] := by first | (simp [entryFrame, mkF, argsToLocals, Value.category]; done) | rfl
set_option maxRecDepth 65536 in
set_option maxHeartbeats 40000000 in
theorem cmp3_3 (l : Launch) (Z : State) (a0 : Array Value) (hw : ∀ d ∈ tables_1, d.before a0 Z = true) (ws : List Jvm.Cond) (pR1 : Addr) (pI801 : Int32) (pI802 : Int32) (pI803 : Int32) (pI804 : Int32) (pK5 : ClassId) (h0 : Heap) (n0 : Nat) (Z0 : n0 ≤ h0.size) (V_pR1 : Arv Z h0 pR1 pK5 .char (4 : Int32) [(.int pI801), (.int pI802), (.int pI803), (.int pI804)] (.int (0 : Int32))) (S_StringUTF16__assertionsDisabled : Sta Z h0 "java/lang/StringUTF16" "$assertionsDisabled" "Z" (.int 1)) (S_StringUTF16_HI_BYTE_SHIFT : Sta Z h0 "java/lang/StringUTF16" "HI_BYTE_SHIFT" "I" (.int 0)) (S_StringUTF16_LO_BYTE_SHIFT : Sta Z h0 "java/lang/StringUTF16" "LO_BYTE_SHIFT" "I" (.int 8)) (hc9 : ¬ ((255 : Int32) < pI801)) (hc9' : ¬ ((255 : Int32) < pI802)) (hc9'' : ¬ ((255 : Int32) < pI803)) (hc9''' : (255 : Int32) < pI804) (hc32 : 0 ≤ pI804.toInt ∧ pI804.toInt ≤ 65535) :
    oM l yN8 jdk_52_method_16_code 6 (some (.array .byte)) ws ({ frames := 3, cells := 2, slots := 12, locals := 40 } : Room) #[(.ref pR1), (.int 0), (.int 4)] Z h0 (Qcmp3U Z pI801 pI802 pI803 pI804 h0 n0) := by
  refine MetFree.of_bodySF (plainFor_of_name pn_1) hisR ?_
  intro p e s m args below meth c s₁ Bd hml0 hP hK
  obtain ⟨rfl, hZ, hh⟩ := hP
  have hx := Bd.exec
  have hby := Bd.bytes
  have hml : c.maxLocals = 6 := hml0
  have hown : s.vm.findClass "java/lang/StringUTF16" = some m.cls := findClass_of_methodNamed Bd.named
  have hnm := (name_of_methodNamed Bd.named Bd.method).1
  have X0 : Stand p l e ({ frames := 3, cells := 2, slots := 12, locals := 40 } : Room) s m #[(.ref pR1), (.int 0), (.int 4)] below meth c s₁ [] 0 0 := Stand.of_body Bd
  have e0 : s₁.heap = h0 := by rw [← hh, Bd.state]; rfl
  have N0 := Fr.nil n0
  obtain ⟨T2, h2, k2, X2, e2, E2, A2, st2⟩ := newP X0 hx hZ (ow hw 23 rfl) e0 (g := (mkF m 1 #[.val (.ref pR1), .val (.int 0), .val (.int 4), .unset, .unset, .unset] [(.int 4)])) rfl (hb hby d5_1) rfl (by decide) (cap := 4) (by decide) (by decide) (by decide) (by decide)
  obtain ⟨bR2, g2⟩ : ∃ z, z = h0.size := ⟨_, rfl⟩
  rw [← g2] at A2 st2
  have K3 : Keep h0 h2 [] := (Keep.refl h0 []).ext E2
  have Z4 : n0 ≤ h2.size := (Nat.le_trans Z0 E2.1)
  have V2 : Arv Z h2 bR2 k2 .byte (4 : Int32) [(.int 0), (.int 0), (.int 0), (.int 0)] (.int (0 : Int32)) := (Arv.new A2 (by decide)).pad (pad_rep [] (.int (0 : Int32)) 4)
  have c6 : Arv Z h2 pR1 pK5 .char (4 : Int32) [(.int pI801), (.int pI802), (.int pI803), (.int pI804)] (.int (0 : Int32)) := V_pR1.ext E2
  have g7 : n0 ≤ bR2 := Nat.le_trans Z0 (Nat.le_of_eq g2.symm)
  obtain ⟨_, _, ⟨T8, L8, k8, n8⟩, -, X8, ⟨Lc8, hQ8, l8, y8, z8⟩, st8⟩ := Jvm.LawKit.callS X2 hx (y := yN2) hown (mvT hZ (ow hw 24 rfl)) (mvT hZ (ow hw 25 rfl)) (mvT hZ (ow hw 21 rfl)) (mvT hZ (ow hw 26 rfl)) (by decide) (backOf (W := 0) (cmp5_3 l Z a0 hw [] pR1 bR2 pI801 pI802 pI803 pI804 pK5 k2 h2 n0 Z4 c6 g7 V2 (Nat.ne_of_lt (Nat.lt_of_lt_of_le V_pR1.lt (Nat.le_of_eq g2.symm))) hc9 hc9' hc9'' hc9''') hZ (ow hw 26 rfl) (ow hw 21 rfl) (by decide) (by decide)) (g := (mkF m 9 #[.val (.ref pR1), .val (.int 0), .val (.int 4), .val (.ref bR2), .unset, .unset] [(.int 4), (.int 0), (.ref bR2), (.int 0), (.ref pR1)])) rfl (by rw [hml]; rfl) (argsL := [(.ref pR1), (.int 0), (.ref bR2), (.int 0), (.int 4)]) (rest := []) (lenOf pd_3 rfl) rfl (Nat.le_refl _) (hb hby d5_9) (fun _ _ => ⟨rfl, e2, (by decide : 1 + 0 ≤ _), (by decide : 4 + 0 ≤ _)⟩)
  dsimp only [Pt.U, Pt.locs, Pt.cells, Pt.slots] at X8 l8 y8 z8 st8 hQ8
  subst l8 y8 z8
  obtain ⟨rfl, Nq8, Kq8, x8_0⟩ := hQ8
  have N8 := Fr.app N0 Nq8
  obtain ⟨Lh8, X8, N8⟩ := own_hide X8 N8
  have K9 : Keep h0 T8.heap [] := K3.trans Kq8 (allS (Or.inr (Nat.le_of_eq g2.symm)) all0)
  have Z10 : n0 ≤ T8.heap.size := (Nat.le_trans Z4 Kq8.1)
  have c11 : Arv Z T8.heap pR1 pK5 .char (4 : Int32) [(.int pI801), (.int pI802), (.int pI803), (.int pI804)] (.int (0 : Int32)) := c6.keep Kq8 (ninS (Nat.ne_of_lt (Nat.lt_of_lt_of_le V_pR1.lt (Nat.le_of_eq g2.symm))) nin0)
  have c12 : Sta Z h2 "java/lang/StringUTF16" "$assertionsDisabled" "Z" (.int 1) := S_StringUTF16__assertionsDisabled.ext E2
  have c13 : Sta Z T8.heap "java/lang/StringUTF16" "$assertionsDisabled" "Z" (.int 1) := own_sta_keep c12 Kq8 (allS (own_plain_V V2) all0)
  have c14 : Sta Z h2 "java/lang/StringUTF16" "HI_BYTE_SHIFT" "I" (.int 0) := S_StringUTF16_HI_BYTE_SHIFT.ext E2
  have c15 : Sta Z T8.heap "java/lang/StringUTF16" "HI_BYTE_SHIFT" "I" (.int 0) := own_sta_keep c14 Kq8 (allS (own_plain_V V2) all0)
  have c16 : Sta Z h2 "java/lang/StringUTF16" "LO_BYTE_SHIFT" "I" (.int 8) := S_StringUTF16_LO_BYTE_SHIFT.ext E2
  have c17 : Sta Z T8.heap "java/lang/StringUTF16" "LO_BYTE_SHIFT" "I" (.int 8) := own_sta_keep c16 Kq8 (allS (own_plain_V V2) all0)
  obtain ⟨_, _, ⟨T18, L18, k18, n18⟩, -, X18, ⟨Lc18, hQ18, l18, y18, z18⟩, st18⟩ := Jvm.LawKit.callS X8 hx (y := yN6) hown (mvT hZ (ow hw 75 rfl)) (mvT hZ (ow hw 76 rfl)) (mvT hZ (ow hw 21 rfl)) (mvT hZ (ow hw 77 rfl)) (by decide) (backOf (W := 0) (toB l Z a0 hw [] pR1 pI801 pI802 pI803 pI804 pK5 T8.heap n0 Z10 c11 c13 c15 c17) hZ (ow hw 77 rfl) (ow hw 21 rfl) (by decide) (by decide)) (g := (mkF m 23 #[.val (.ref pR1), .val (.int 0), .val (.int 4), .val (.ref bR2), .val (.int 3), .unset] [(.int 4), (.int 0), (.ref pR1)])) rfl (by rw [hml]; rfl) (argsL := [(.ref pR1), (.int 0), (.int 4)]) (rest := []) (lenOf pd_4 rfl) rfl (Nat.le_refl _) (hb hby d5_23) (fun _ _ => ⟨rfl, rfl, (by decide : 1 + 1 ≤ _), (by decide : 4 + 8 ≤ _)⟩)
  dsimp only [Pt.U, Pt.locs, Pt.cells, Pt.slots] at X18 l18 y18 z18 st18 hQ18
  subst l18 y18 z18
  obtain ⟨bR18_0, kK18_0, rfl, Nq18, Kq18, sz18_0, x18_0⟩ := hQ18
  have N18 := Fr.app N8 Nq18
  obtain ⟨Lh18, X18, N18⟩ := own_hide X18 N18
  have K19 : Keep h0 T18.heap [] := K9.trans Kq18 all0
  have Z20 : n0 ≤ T18.heap.size := (Nat.le_trans Z10 Kq18.1)
  have c21 : Sta Z T18.heap "java/lang/StringUTF16" "$assertionsDisabled" "Z" (.int 1) := own_sta_keep c13 Kq18 all0
  have c22 : Sta Z T18.heap "java/lang/StringUTF16" "HI_BYTE_SHIFT" "I" (.int 0) := own_sta_keep c15 Kq18 all0
  have c23 : Sta Z T18.heap "java/lang/StringUTF16" "LO_BYTE_SHIFT" "I" (.int 8) := own_sta_keep c17 Kq18 all0
  obtain ⟨_, _, ⟨T24, L24, k24, n24⟩, -, X24, ⟨Lc24, hQ24, l24, y24, z24⟩, st24⟩ := Jvm.LawKit.callS X18 hx (y := yN7) hown (mvT hZ (ow hw 91 rfl)) (mvT hZ (ow hw 92 rfl)) (mvT hZ (ow hw 21 rfl)) (mvT hZ (ow hw 93 rfl)) (by decide) (backOf (W := 0) (gc3 l Z a0 hw [] bR18_0 pI801 pI802 pI803 pI804 kK18_0 T18.heap n0 Z20 c21 x18_0 c22 c23 hc32) hZ (ow hw 93 rfl) (ow hw 21 rfl) (by decide) (by decide)) (g := (mkF m 32 #[.val (.ref pR1), .val (.int 0), .val (.int 4), .val (.ref bR2), .val (.int 3), .val (.ref bR18_0)] [(.int 3), (.ref bR18_0)])) rfl (by rw [hml]; rfl) (argsL := [(.ref bR18_0), (.int 3)]) (rest := []) (lenOf pd_5 rfl) rfl (Nat.le_refl _) (hb hby d5_32) (fun _ _ => ⟨rfl, rfl, (by decide : 2 + 0 ≤ _), (by decide : 12 + 0 ≤ _)⟩)
  dsimp only [Pt.U, Pt.locs, Pt.cells, Pt.slots] at X24 l24 y24 z24 st24 hQ24
  subst l24 y24 z24
  obtain ⟨rfl, Nq24, e24⟩ := hQ24
  have N24 := Fr.app N18 Nq24
  obtain ⟨fs, hr, hrun, hended, hW, hsame⟩ := X24.leave (v := some (.ref bR18_0)) (fun h => by rw [Bd.returns] at h; cases h)
  refine ⟨_, _, castTop (ef_cmp3_3 m pR1) ?_, hrun, hended, _, _, rfl, ?_, ⟨_, rfl⟩, hW, hsame.mono (by decide) (by decide)⟩
  · show oS p e below s₁ m 0 #[.val (.ref pR1), .val (.int 0), .val (.int 4), .unset, .unset, .unset] [] _
    refine XS.iloadN X0.here hx rfl (hb hby d5_0) rfl ?_
    refine st2 _ ?_
    refine XS.astoreN X2.here hx rfl (hb hby d5_3) rfl rfl (l' := #[.val (.ref pR1), .val (.int 0), .val (.int 4), .val (.ref bR2), .unset, .unset]) rfl ?_
    refine XS.aloadN X2.here hx rfl (hb hby d5_4) rfl rfl ?_
    refine XS.iloadN X2.here hx rfl (hb hby d5_5) rfl ?_
    refine XS.aloadN X2.here hx rfl (hb hby d5_6) rfl rfl ?_
    show oS p e below T2 m 7 #[.val (.ref pR1), .val (.int 0), .val (.int 4), .val (.ref bR2), .unset, .unset] [(.ref bR2), (.int 0), (.ref pR1)] _
    refine XS.iconst X2.here hx rfl (hb hby d5_7) ?_
    refine XS.iloadN X2.here hx rfl (hb hby d5_8) rfl ?_
    refine st8 _ ?_
    refine XS.istore X8.here hx rfl (hb hby d5_12) rfl (l' := #[.val (.ref pR1), .val (.int 0), .val (.int 4), .val (.ref bR2), .val (.int 3), .unset]) rfl ?_
    refine XS.iload X8.here hx rfl (hb hby d5_14) rfl ?_
    refine XS.iloadN X8.here hx rfl (hb hby d5_16) rfl ?_
    show oS p e below T8 m 17 #[.val (.ref pR1), .val (.int 0), .val (.int 4), .val (.ref bR2), .val (.int 3), .unset] [(.int 4), (.int 3)] _
    refine XS.icmpNo X8.here hx rfl (hb hby d5_17) rfl (feq (by decide : ¬ ((3 : Int32) = (4 : Int32)))).1 ?_
    refine XS.aloadN X8.here hx rfl (hb hby d5_20) rfl rfl ?_
    refine XS.iloadN X8.here hx rfl (hb hby d5_21) rfl ?_
    refine XS.iloadN X8.here hx rfl (hb hby d5_22) rfl ?_
    refine st18 _ ?_
    refine XS.astore X18.here hx rfl (hb hby d5_26) rfl rfl (l' := #[.val (.ref pR1), .val (.int 0), .val (.int 4), .val (.ref bR2), .val (.int 3), .val (.ref bR18_0)]) rfl ?_
    show oS p e below T18 m 28 #[.val (.ref pR1), .val (.int 0), .val (.int 4), .val (.ref bR2), .val (.int 3), .val (.ref bR18_0)] [] _
    refine XS.aload X18.here hx rfl (hb hby d5_28) rfl rfl ?_
    refine XS.iload X18.here hx rfl (hb hby d5_30) rfl ?_
    refine st24 _ ?_
    refine XS.sipush X24.here hx rfl (hb hby d5_35) ?_
    refine XS.icmpYes X24.here hx rfl (pc0 := 38) (pc' := 54) rfl (hb hby d5_38) rfl (tlt hc9''').2.2.1 (by decide) (by decide) ?_
    refine XS.aload X24.here hx rfl (hb hby d5_54) rfl rfl ?_
    show oS p e below T24 m 56 #[.val (.ref pR1), .val (.int 0), .val (.int 4), .val (.ref bR2), .val (.int 3), .val (.ref bR18_0)] [(.ref bR18_0)] _
    exact retOut X24 hx Bd.returns rfl (Or.inr (Or.inr (Or.inr (Or.inr ⟨rfl, rfl, rfl⟩)))) (hb hby d5_56) hr
  · show Qcmp3U Z pI801 pI802 pI803 pI804 h0 n0 _ T24.heap _
    rw [e24]
    exact ⟨bR18_0, kK18_0, rfl, N24, K19, (Nat.le_trans K9.1 sz18_0), x18_0⟩
theorem cmp3U (l : Launch) (Z : State) (a0 : Array Value) (hw : ∀ d ∈ tables_1, d.before a0 Z = true) (ws : List Jvm.Cond) (pR1 : Addr) (pI801 : Int32) (pI802 : Int32) (pI803 : Int32) (pI804 : Int32) (pK5 : ClassId) (h0 : Heap) (n0 : Nat) (Z0 : n0 ≤ h0.size) (V_pR1 : Arv Z h0 pR1 pK5 .char (4 : Int32) [(.int pI801), (.int pI802), (.int pI803), (.int pI804)] (.int (0 : Int32))) (S_StringUTF16__assertionsDisabled : Sta Z h0 "java/lang/StringUTF16" "$assertionsDisabled" "Z" (.int 1)) (S_StringUTF16_HI_BYTE_SHIFT : Sta Z h0 "java/lang/StringUTF16" "HI_BYTE_SHIFT" "I" (.int 0)) (S_StringUTF16_LO_BYTE_SHIFT : Sta Z h0 "java/lang/StringUTF16" "LO_BYTE_SHIFT" "I" (.int 8)) (hU : (255 : Int32) < pI801 ∨ (255 : Int32) < pI802 ∨ (255 : Int32) < pI803 ∨ (255 : Int32) < pI804) (hrg0 : 0 ≤ pI801.toInt ∧ pI801.toInt ≤ 65535) (hrg1 : 0 ≤ pI802.toInt ∧ pI802.toInt ≤ 65535) (hrg2 : 0 ≤ pI803.toInt ∧ pI803.toInt ≤ 65535) (hrg3 : 0 ≤ pI804.toInt ∧ pI804.toInt ≤ 65535) :
    oM l yN8 jdk_52_method_16_code 6 (some (.array .byte)) ws ({ frames := 3, cells := 2, slots := 12, locals := 40 } : Room) #[(.ref pR1), (.int 0), (.int 4)] Z h0 (Qcmp3U Z pI801 pI802 pI803 pI804 h0 n0) := by
  by_cases hx0 : (255 : Int32) < pI801
  · exact cmp3_0 l Z a0 hw ws pR1 pI801 pI802 pI803 pI804 pK5 h0 n0 Z0 V_pR1 S_StringUTF16__assertionsDisabled S_StringUTF16_HI_BYTE_SHIFT S_StringUTF16_LO_BYTE_SHIFT hx0 hrg0
  · skip
    by_cases hx1 : (255 : Int32) < pI802
    · exact cmp3_1 l Z a0 hw ws pR1 pI801 pI802 pI803 pI804 pK5 h0 n0 Z0 V_pR1 S_StringUTF16__assertionsDisabled S_StringUTF16_HI_BYTE_SHIFT S_StringUTF16_LO_BYTE_SHIFT hx0 hx1 hrg1
    · skip
      by_cases hx2 : (255 : Int32) < pI803
      · exact cmp3_2 l Z a0 hw ws pR1 pI801 pI802 pI803 pI804 pK5 h0 n0 Z0 V_pR1 S_StringUTF16__assertionsDisabled S_StringUTF16_HI_BYTE_SHIFT S_StringUTF16_LO_BYTE_SHIFT hx0 hx1 hx2 hrg2
      · skip
        by_cases hx3 : (255 : Int32) < pI804
        · exact cmp3_3 l Z a0 hw ws pR1 pI801 pI802 pI803 pI804 pK5 h0 n0 Z0 V_pR1 S_StringUTF16__assertionsDisabled S_StringUTF16_HI_BYTE_SHIFT S_StringUTF16_LO_BYTE_SHIFT hx0 hx1 hx2 hx3 hrg3
        · skip
          exact absurd hU (by simp [hx0, hx1, hx2, hx3])
theorem d7_0 : decode jdk_52_method_15_code 0 = .ok (.iload_n 1, 1) := by decide +kernel
theorem d7_1 : decode jdk_52_method_15_code 1 = .ok (.aload_n 0, 1) := by decide +kernel
theorem d7_2 : decode jdk_52_method_15_code 2 = .ok (.arraylength, 1) := by decide +kernel
theorem d7_3 : decode jdk_52_method_15_code 3 = .ok (.isub, 1) := by decide +kernel
theorem d7_4 : decode jdk_52_method_15_code 4 = .ok (.bipush 31, 2) := by decide +kernel
theorem d7_6 : decode jdk_52_method_15_code 6 = .ok (.iushr, 1) := by decide +kernel
theorem d7_7 : decode jdk_52_method_15_code 7 = .ok (.i2b, 1) := by decide +kernel
theorem d7_8 : decode jdk_52_method_15_code 8 = .ok (.ireturn, 1) := by decide +kernel
theorem ef_cfaL (m : MethodId) (pR1 : Addr) : entryFrame m #[(.ref pR1), (.int 4)] 2 = mkF m 0 #[.val (.ref pR1), .val (.int 4)] [] := by first | (simp [entryFrame, mkF, argsToLocals, Value.category]; done) | rfl
def QcfaL (Z : State) (pR1 : Addr) (pK2 : ClassId) (pI3 : Int32) (pI4 : Int32) (pI5 : Int32) (pI6 : Int32) (h0 : Heap) (n0 : Nat) (v : Option Value) (h : Heap) (L : List Loc) : Prop := v = some (.int 0) ∧ Fr n0 L ∧ h = h0
set_option maxRecDepth 65536 in
set_option maxHeartbeats 40000000 in
theorem cfaL (l : Launch) (Z : State) (a0 : Array Value) (hw : ∀ d ∈ tables_1, d.before a0 Z = true) (ws : List Jvm.Cond) (pR1 : Addr) (pK2 : ClassId) (pI3 : Int32) (pI4 : Int32) (pI5 : Int32) (pI6 : Int32) (h0 : Heap) (n0 : Nat) (Z0 : n0 ≤ h0.size) (V_pR1 : Arv Z h0 pR1 pK2 .byte (4 : Int32) [(.int pI3), (.int pI4), (.int pI5), (.int pI6)] (.int (0 : Int32))) :
    oM l yN9 jdk_52_method_15_code 2 (some .byte) ws ({ frames := 0, cells := 0, slots := 0, locals := 0 } : Room) #[(.ref pR1), (.int 4)] Z h0 (QcfaL Z pR1 pK2 pI3 pI4 pI5 pI6 h0 n0) := by
  refine MetFree.of_bodySF (plainFor_of_name pn_1) hisR ?_
  intro p e s m args below meth c s₁ Bd hml0 hP hK
  obtain ⟨rfl, hZ, hh⟩ := hP
  have hx := Bd.exec
  have hby := Bd.bytes
  have hml : c.maxLocals = 2 := hml0
  have hown : s.vm.findClass "java/lang/StringUTF16" = some m.cls := findClass_of_methodNamed Bd.named
  have hnm := (name_of_methodNamed Bd.named Bd.method).1
  have X0 : Stand p l e ({ frames := 0, cells := 0, slots := 0, locals := 0 } : Room) s m #[(.ref pR1), (.int 4)] below meth c s₁ [] 0 0 := Stand.of_body Bd
  have e0 : s₁.heap = h0 := by rw [← hh, Bd.state]; rfl
  have N0 := Fr.nil n0
  obtain ⟨clq7, Arq7, Akq7, Asq7, Anq7, Ahq7, Agq7⟩ := id V_pR1
  obtain ⟨fs, hr, hrun, hended, hW, hsame⟩ := X0.leave (v := some (.int 0)) (fun h => by rw [Bd.returns] at h; cases h)
  refine ⟨_, _, castTop (ef_cfaL m pR1) ?_, hrun, hended, _, _, rfl, ?_, ⟨_, rfl⟩, hW, hsame.mono (by decide) (by decide)⟩
  · show oS p e below s₁ m 0 #[.val (.ref pR1), .val (.int 4)] [] _
    refine XS.iloadN X0.here hx rfl (hb hby d7_0) rfl ?_
    refine XS.aloadN X0.here hx rfl (hb hby d7_1) rfl rfl ?_
    refine X0.arraylength hx (by rw [e0]; exact Arq7.1) (State.isArrayOf_alike hZ.alike Arq7.2.1) (g := (mkF m 2 #[.val (.ref pR1), .val (.int 4)] [(.ref pR1), (.int 4)])) rfl rfl (hb hby d7_2) _ ?_
    rw [len_of Asq7 Anq7]
    refine XS.isub X0.here hx rfl (hb hby d7_3) rfl ?_
    refine XS.bipush X0.here hx rfl (hb hby d7_4) ?_
    refine XS.iushr X0.here hx rfl (hb hby d7_6) rfl ?_
    show oS p e below s₁ m 7 #[.val (.ref pR1), .val (.int 4)] [(.int 0)] _
    refine XS.i2b X0.here hx rfl (hb hby d7_7) rfl ?_
    exact retN X0 hx (t := .byte) Bd.returns (by simp) (hb hby d7_8) hr
  · show QcfaL Z pR1 pK2 pI3 pI4 pI5 pI6 h0 n0 _ s₁.heap _
    rw [e0]
    exact ⟨rfl, N0, rfl⟩
theorem ef_cfaU (m : MethodId) (pR1 : Addr) : entryFrame m #[(.ref pR1), (.int 4)] 2 = mkF m 0 #[.val (.ref pR1), .val (.int 4)] [] := by first | (simp [entryFrame, mkF, argsToLocals, Value.category]; done) | rfl
def QcfaU (Z : State) (pR1 : Addr) (pK2 : ClassId) (pI3 : Int32) (pI4 : Int32) (pI5 : Int32) (pI6 : Int32) (pI7 : Int32) (pI8 : Int32) (pI9 : Int32) (pI10 : Int32) (h0 : Heap) (n0 : Nat) (v : Option Value) (h : Heap) (L : List Loc) : Prop := v = some (.int 1) ∧ Fr n0 L ∧ h = h0
set_option maxRecDepth 65536 in
set_option maxHeartbeats 40000000 in
theorem cfaU (l : Launch) (Z : State) (a0 : Array Value) (hw : ∀ d ∈ tables_1, d.before a0 Z = true) (ws : List Jvm.Cond) (pR1 : Addr) (pK2 : ClassId) (pI3 : Int32) (pI4 : Int32) (pI5 : Int32) (pI6 : Int32) (pI7 : Int32) (pI8 : Int32) (pI9 : Int32) (pI10 : Int32) (h0 : Heap) (n0 : Nat) (Z0 : n0 ≤ h0.size) (V_pR1 : Arv Z h0 pR1 pK2 .byte (8 : Int32) [(.int pI3), (.int pI4), (.int pI5), (.int pI6), (.int pI7), (.int pI8), (.int pI9), (.int pI10)] (.int (0 : Int32))) :
    oM l yN9 jdk_52_method_15_code 2 (some .byte) ws ({ frames := 0, cells := 0, slots := 0, locals := 0 } : Room) #[(.ref pR1), (.int 4)] Z h0 (QcfaU Z pR1 pK2 pI3 pI4 pI5 pI6 pI7 pI8 pI9 pI10 h0 n0) := by
  refine MetFree.of_bodySF (plainFor_of_name pn_1) hisR ?_
  intro p e s m args below meth c s₁ Bd hml0 hP hK
  obtain ⟨rfl, hZ, hh⟩ := hP
  have hx := Bd.exec
  have hby := Bd.bytes
  have hml : c.maxLocals = 2 := hml0
  have hown : s.vm.findClass "java/lang/StringUTF16" = some m.cls := findClass_of_methodNamed Bd.named
  have hnm := (name_of_methodNamed Bd.named Bd.method).1
  have X0 : Stand p l e ({ frames := 0, cells := 0, slots := 0, locals := 0 } : Room) s m #[(.ref pR1), (.int 4)] below meth c s₁ [] 0 0 := Stand.of_body Bd
  have e0 : s₁.heap = h0 := by rw [← hh, Bd.state]; rfl
  have N0 := Fr.nil n0
  obtain ⟨clq11, Arq11, Akq11, Asq11, Anq11, Ahq11, Agq11⟩ := id V_pR1
  obtain ⟨fs, hr, hrun, hended, hW, hsame⟩ := X0.leave (v := some (.int 1)) (fun h => by rw [Bd.returns] at h; cases h)
  refine ⟨_, _, castTop (ef_cfaU m pR1) ?_, hrun, hended, _, _, rfl, ?_, ⟨_, rfl⟩, hW, hsame.mono (by decide) (by decide)⟩
  · show oS p e below s₁ m 0 #[.val (.ref pR1), .val (.int 4)] [] _
    refine XS.iloadN X0.here hx rfl (hb hby d7_0) rfl ?_
    refine XS.aloadN X0.here hx rfl (hb hby d7_1) rfl rfl ?_
    refine X0.arraylength hx (by rw [e0]; exact Arq11.1) (State.isArrayOf_alike hZ.alike Arq11.2.1) (g := (mkF m 2 #[.val (.ref pR1), .val (.int 4)] [(.ref pR1), (.int 4)])) rfl rfl (hb hby d7_2) _ ?_
    rw [len_of Asq11 Anq11]
    refine XS.isub X0.here hx rfl (hb hby d7_3) rfl ?_
    refine XS.bipush X0.here hx rfl (hb hby d7_4) ?_
    refine XS.iushr X0.here hx rfl (hb hby d7_6) rfl ?_
    show oS p e below s₁ m 7 #[.val (.ref pR1), .val (.int 4)] [(.int 1)] _
    refine XS.i2b X0.here hx rfl (hb hby d7_7) rfl ?_
    exact retN X0 hx (t := .byte) Bd.returns (by simp) (hb hby d7_8) hr
  · show QcfaU Z pR1 pK2 pI3 pI4 pI5 pI6 pI7 pI8 pI9 pI10 h0 n0 _ s₁.heap _
    rw [e0]
    exact ⟨rfl, N0, rfl⟩
theorem d3_0 : decode jdk_42_method_149_code 0 = .ok (.aload_n 0, 1) := by decide +kernel
theorem d3_1 : decode jdk_42_method_149_code 1 = .ok (.invokespecial 1, 3) := by decide +kernel
theorem d3_4 : decode jdk_42_method_149_code 4 = .ok (.iload_n 3, 1) := by decide +kernel
theorem d3_5 : decode jdk_42_method_149_code 5 = .ok (.ifCond .ne 22, 3) := by decide +kernel
theorem d3_27 : decode jdk_42_method_149_code 27 = .ok (.getstatic 38, 3) := by decide +kernel
theorem d3_30 : decode jdk_42_method_149_code 30 = .ok (.ifCond .eq 28, 3) := by decide +kernel
theorem d3_33 : decode jdk_42_method_149_code 33 = .ok (.aload_n 1, 1) := by decide +kernel
theorem d3_34 : decode jdk_42_method_149_code 34 = .ok (.iload_n 2, 1) := by decide +kernel
theorem d3_35 : decode jdk_42_method_149_code 35 = .ok (.iload_n 3, 1) := by decide +kernel
theorem d3_36 : decode jdk_42_method_149_code 36 = .ok (.invokestatic 177, 3) := by decide +kernel
theorem d3_39 : decode jdk_42_method_149_code 39 = .ok (.astore 5, 2) := by decide +kernel
theorem d3_41 : decode jdk_42_method_149_code 41 = .ok (.aload_n 0, 1) := by decide +kernel
theorem d3_42 : decode jdk_42_method_149_code 42 = .ok (.aload 5, 2) := by decide +kernel
theorem d3_44 : decode jdk_42_method_149_code 44 = .ok (.iload_n 3, 1) := by decide +kernel
theorem d3_45 : decode jdk_42_method_149_code 45 = .ok (.invokestatic 47, 3) := by decide +kernel
theorem pd_6 : parseMethodDescriptor "([BI)B" = some ⟨[(.array .byte), .int], some .byte⟩ := by decide +kernel
theorem d3_48 : decode jdk_42_method_149_code 48 = .ok (.putfield 15, 3) := by decide +kernel
theorem d3_51 : decode jdk_42_method_149_code 51 = .ok (.aload_n 0, 1) := by decide +kernel
theorem d3_52 : decode jdk_42_method_149_code 52 = .ok (.aload 5, 2) := by decide +kernel
theorem d3_54 : decode jdk_42_method_149_code 54 = .ok (.putfield 9, 3) := by decide +kernel
theorem d3_57 : decode jdk_42_method_149_code 57 = .ok (.return_, 1) := by decide +kernel
theorem pn_2 : plainName "java/lang/String" = true := by first | (simp [plainName, overriddenIn]; done) | decide +kernel
theorem ef_siL (m : MethodId) (pR1 : Addr) (pR2 : Addr) : entryFrame m #[(.ref pR1), (.ref pR2), (.int 0), (.int 4), .null] 6 = mkF m 0 #[.val (.ref pR1), .val (.ref pR2), .val (.int 0), .val (.int 4), .val .null, .unset] [] := by first | (simp [entryFrame, mkF, argsToLocals, Value.category]; done) | rfl
def QsiL (Z : State) (pR1 : Addr) (pR2 : Addr) (pI4 : Int32) (pI801 : Int32) (pI802 : Int32) (pI803 : Int32) (pI804 : Int32) (pK6 : ClassId) (h0 : Heap) (n0 : Nat) (v : Option Value) (h : Heap) (L : List Loc) : Prop := ∃ bR7_0 : Addr, ∃ kK7_0 : ClassId, v = none ∧ Fr n0 L ∧ Keep h0 h [pR1] ∧ h0.size ≤ bR7_0 ∧ Arv Z h bR7_0 kK7_0 .byte (4 : Int32) [(.int (pI801.toInt8.toInt32)), (.int (pI802.toInt8.toInt32)), (.int (pI803.toInt8.toInt32)), (.int (pI804.toInt8.toInt32))] (.int (0 : Int32)) ∧ Exa Z h pR1 "java/lang/String" ∧ Fld Z h pR1 "java/lang/String" "coder" "B" (.int 0) ∧ Fld Z h pR1 "java/lang/String" "value" "[B" (.ref bR7_0)
set_option maxRecDepth 65536 in
set_option maxHeartbeats 40000000 in
theorem siL (l : Launch) (Z : State) (a0 : Array Value) (hw : ∀ d ∈ tables_1, d.before a0 Z = true) (ws : List Jvm.Cond) (pR1 : Addr) (pR2 : Addr) (pI4 : Int32) (pI801 : Int32) (pI802 : Int32) (pI803 : Int32) (pI804 : Int32) (pK6 : ClassId) (h0 : Heap) (n0 : Nat) (Z0 : n0 ≤ h0.size) (S_String_COMPACT_STRINGS : Sta Z h0 "java/lang/String" "COMPACT_STRINGS" "Z" (.int pI4)) (V_pR2 : Arv Z h0 pR2 pK6 .char (4 : Int32) [(.int pI801), (.int pI802), (.int pI803), (.int pI804)] (.int (0 : Int32))) (E_pR1 : Exa Z h0 pR1 "java/lang/String") (F_coder_pR1 : Fld Z h0 pR1 "java/lang/String" "coder" "B" (.int 0)) (g_pR1 : n0 ≤ pR1) (F_value_pR1 : Fld Z h0 pR1 "java/lang/String" "value" "[B" .null) (hc30 : ¬ (pI4 = (0 : Int32))) (hc36 : ¬ ((255 : Int32) < pI801)) (hc36' : ¬ ((255 : Int32) < pI802)) (hc36'' : ¬ ((255 : Int32) < pI803)) (hc36''' : ¬ ((255 : Int32) < pI804)) :
    oM l yN10 jdk_42_method_149_code 6 none ws ({ frames := 2, cells := 1, slots := 4, locals := 35 } : Room) #[(.ref pR1), (.ref pR2), (.int 0), (.int 4), .null] Z h0 (QsiL Z pR1 pR2 pI4 pI801 pI802 pI803 pI804 pK6 h0 n0) := by
  refine MetFree.of_bodySF (plainFor_of_name pn_2) hisR ?_
  intro p e s m args below meth c s₁ Bd hml0 hP hK
  obtain ⟨rfl, hZ, hh⟩ := hP
  have hx := Bd.exec
  have hby := Bd.bytes
  have hml : c.maxLocals = 6 := hml0
  have hown : s.vm.findClass "java/lang/String" = some m.cls := findClass_of_methodNamed Bd.named
  have hnm := (name_of_methodNamed Bd.named Bd.method).1
  have X0 : Stand p l e ({ frames := 2, cells := 1, slots := 4, locals := 35 } : Room) s m #[(.ref pR1), (.ref pR2), (.int 0), (.int 4), .null] below meth c s₁ [] 0 0 := Stand.of_body Bd
  have e0 : s₁.heap = h0 := by rw [← hh, Bd.state]; rfl
  have N0 := Fr.nil n0
  obtain ⟨T3, X3, e3, st3⟩ := initO X0 hx hZ hown (ow hw 15 rfl) (ow hw 16 rfl) (ow hw 17 rfl) e0 (g := (mkF m 1 #[.val (.ref pR1), .val (.ref pR2), .val (.int 0), .val (.int 4), .val .null, .unset] [(.ref pR1)])) rfl (by rw [hml]; rfl) rfl (hb hby d3_1) (by decide) (W := 0) (Nat.le_refl _) (by decide)
  obtain ⟨T5, X5, e5, st5⟩ := getS2 X3 hx hZ hown (host := "") (Or.inl (ow hw 18 rfl)) Via.refl e3 S_String_COMPACT_STRINGS (g := (mkF m 27 #[.val (.ref pR1), .val (.ref pR2), .val (.int 0), .val (.int 4), .val .null, .unset] [])) rfl (hb hby d3_27)
  obtain ⟨_, _, ⟨T7, L7, k7, n7⟩, -, X7, ⟨Lc7, hQ7, l7, y7, z7⟩, st7⟩ := Jvm.LawKit.callS X5 hx (y := yN8) hown (mvT hZ (ow hw 19 rfl)) (mvT hZ (ow hw 20 rfl)) (mvT hZ (ow hw 21 rfl)) (mvT hZ (ow hw 22 rfl)) (by decide) (backOf (W := 0) (cmp3L l Z a0 hw [] pR2 pI801 pI802 pI803 pI804 pK6 h0 n0 Z0 V_pR2 hc36 hc36' hc36'' hc36''') hZ (ow hw 22 rfl) (ow hw 21 rfl) (by decide) (by decide)) (g := (mkF m 36 #[.val (.ref pR1), .val (.ref pR2), .val (.int 0), .val (.int 4), .val .null, .unset] [(.int 4), (.int 0), (.ref pR2)])) rfl (by rw [hml]; rfl) (argsL := [(.ref pR2), (.int 0), (.int 4)]) (rest := []) (lenOf pd_4 rfl) rfl (Nat.le_refl _) (hb hby d3_36) (fun _ _ => ⟨rfl, e5, (by decide : 0 + 1 ≤ _), (by decide : 0 + 4 ≤ _)⟩)
  dsimp only [Pt.U, Pt.locs, Pt.cells, Pt.slots] at X7 l7 y7 z7 st7 hQ7
  subst l7 y7 z7
  obtain ⟨bR7_0, kK7_0, rfl, Nq7, Kq7, sz7_0, x7_0⟩ := hQ7
  have N7 := Fr.app N0 Nq7
  obtain ⟨Lh7, X7, N7⟩ := own_hide X7 N7
  have K8 : Keep h0 T7.heap [pR1] := (Keep.refl h0 [pR1]).trans Kq7 all0
  have Z9 : n0 ≤ T7.heap.size := (Nat.le_trans Z0 Kq7.1)
  obtain ⟨_, _, ⟨T10, L10, k10, n10⟩, -, X10, ⟨Lc10, hQ10, l10, y10, z10⟩, st10⟩ := Jvm.LawKit.callS X7 hx (y := yN9) hown (mvT hZ (ow hw 27 rfl)) (mvT hZ (ow hw 28 rfl)) (mvT hZ (ow hw 21 rfl)) (mvT hZ (ow hw 29 rfl)) (by decide) (backOf (W := 1) (cfaL l Z a0 hw [] bR7_0 kK7_0 (pI801.toInt8.toInt32) (pI802.toInt8.toInt32) (pI803.toInt8.toInt32) (pI804.toInt8.toInt32) T7.heap n0 Z9 x7_0) hZ (ow hw 29 rfl) (ow hw 21 rfl) (by decide) (by decide)) (g := (mkF m 45 #[.val (.ref pR1), .val (.ref pR2), .val (.int 0), .val (.int 4), .val .null, .val (.ref bR7_0)] [(.int 4), (.ref bR7_0), (.ref pR1)])) rfl (by rw [hml]; rfl) (argsL := [(.ref bR7_0), (.int 4)]) (rest := [(.ref pR1)]) (lenOf pd_6 rfl) rfl (Nat.le_refl _) (hb hby d3_45) (fun _ _ => ⟨rfl, rfl, (by decide : 1 + 0 ≤ _), (by decide : 4 + 0 ≤ _)⟩)
  dsimp only [Pt.U, Pt.locs, Pt.cells, Pt.slots] at X10 l10 y10 z10 st10 hQ10
  subst l10 y10 z10
  obtain ⟨rfl, Nq10, e10⟩ := hQ10
  have N10 := Fr.app N7 Nq10
  have c11 : Fld Z T7.heap pR1 "java/lang/String" "coder" "B" (.int 0) := F_coder_pR1.keep Kq7 nin0
  have c12 : Exa Z T7.heap pR1 "java/lang/String" := E_pR1.keep Kq7
  obtain ⟨T13, h13, X13, e13, W13, st13⟩ := putFN X10 hx hZ hown (ow hw 30 rfl) Via.refl e10 c11 c12 (Or.inr ⟨(ow hw 31 rfl), rfl, hnm⟩) (ow hw 6 rfl) (ty := .byte) (v' := .int (0 : Int32)) (by decide) (by rfl) (by first | rfl | exact fits_nar_byte _) (g := (mkF m 48 #[.val (.ref pR1), .val (.ref pR2), .val (.int 0), .val (.int 4), .val .null, .val (.ref bR7_0)] [(.int 0), (.ref pR1)])) rfl rfl (hb hby d3_48)
  have K14 : Keep h0 h13 [pR1] := K8.wr W13 (Or.inl (List.mem_of_getElem? (i := 0) rfl))
  have Z15 : n0 ≤ h13.size := (Nat.le_trans Z9 (Keep.of_wr W13).1)
  have N13 := Fr.snoc X13 N10 g_pR1
  obtain ⟨Lh13, X13, N13⟩ := own_hide X13 N13
  have F13 : Fld Z h13 pR1 "java/lang/String" "coder" "B" (.int 0) := Fld.same W13 c11
  have c16 : Fld Z T7.heap pR1 "java/lang/String" "value" "[B" .null := F_value_pR1.keep Kq7 nin0
  have c17 : Fld Z h13 pR1 "java/lang/String" "value" "[B" .null := c16.other W13 (Or.inr (slot_ne (Or.inr (ow hw 33 rfl)) (Or.inr (ow hw 31 rfl)) (by decide) (t := (.array .byte)) (t' := .byte) (by decide) (by decide)))
  have c18 : Exa Z h13 pR1 "java/lang/String" := c12.wr W13
  obtain ⟨T19, h19, X19, e19, W19, st19⟩ := putF X13 hx hZ hown (host := "") (Or.inl (ow hw 32 rfl)) Via.refl e13 c17 c18 (Or.inr ⟨(ow hw 33 rfl), rfl, hnm⟩) (ow hw 6 rfl) (ty := (.array .byte)) (by decide) rfl rfl (g := (mkF m 54 #[.val (.ref pR1), .val (.ref pR2), .val (.int 0), .val (.int 4), .val .null, .val (.ref bR7_0)] [(.ref bR7_0), (.ref pR1)])) rfl rfl (hb hby d3_54)
  have K20 : Keep h0 h19 [pR1] := K14.wr W19 (Or.inl (List.mem_of_getElem? (i := 0) rfl))
  have Z21 : n0 ≤ h19.size := (Nat.le_trans Z15 (Keep.of_wr W19).1)
  have N19 := Fr.snoc X19 N13 g_pR1
  obtain ⟨Lh19, X19, N19⟩ := own_hide X19 N19
  have F19 : Fld Z h19 pR1 "java/lang/String" "value" "[B" (.ref bR7_0) := Fld.same W19 c17
  have c22 : Arv Z h13 bR7_0 kK7_0 .byte (4 : Int32) [(.int (pI801.toInt8.toInt32)), (.int (pI802.toInt8.toInt32)), (.int (pI803.toInt8.toInt32)), (.int (pI804.toInt8.toInt32))] (.int (0 : Int32)) := x7_0.other W13 (Ne.symm (Nat.ne_of_lt (Nat.lt_of_lt_of_le E_pR1.lt sz7_0)))
  have c23 : Arv Z h19 bR7_0 kK7_0 .byte (4 : Int32) [(.int (pI801.toInt8.toInt32)), (.int (pI802.toInt8.toInt32)), (.int (pI803.toInt8.toInt32)), (.int (pI804.toInt8.toInt32))] (.int (0 : Int32)) := c22.other W19 (Ne.symm (Nat.ne_of_lt (Nat.lt_of_lt_of_le E_pR1.lt sz7_0)))
  have c24 : Exa Z h19 pR1 "java/lang/String" := c18.wr W19
  have c25 : Fld Z h19 pR1 "java/lang/String" "coder" "B" (.int 0) := F13.other W19 (Or.inr (slot_ne (Or.inr (ow hw 31 rfl)) (Or.inr (ow hw 33 rfl)) (by decide) (t := .byte) (t' := (.array .byte)) (by decide) (by decide)))
  obtain ⟨fs, hr, hrun, hended, hW, hsame⟩ := X19.leave (v := none) (fun _ => rfl)
  refine ⟨_, _, castTop (ef_siL m pR1 pR2) ?_, hrun, hended, _, _, rfl, ?_, ⟨_, rfl⟩, hW, hsame.mono (by decide) (by decide)⟩
  · show oS p e below s₁ m 0 #[.val (.ref pR1), .val (.ref pR2), .val (.int 0), .val (.int 4), .val .null, .unset] [] _
    refine XS.aloadN X0.here hx rfl (hb hby d3_0) rfl rfl ?_
    refine st3 _ ?_
    refine XS.iloadN X3.here hx rfl (hb hby d3_4) rfl ?_
    refine XS.ifYes X3.here hx rfl (pc0 := 5) (pc' := 27) rfl (hb hby d3_5) rfl ((if0 _ _).trans (feq (by decide : ¬ ((4 : Int32) = (0 : Int32)))).2) (by decide) (by decide) ?_
    refine st5 _ ?_
    refine XS.ifNo X5.here hx rfl (hb hby d3_30) rfl ((if0 _ _).trans (feq hc30).1) ?_
    show oS p e below T5 m 33 #[.val (.ref pR1), .val (.ref pR2), .val (.int 0), .val (.int 4), .val .null, .unset] [] _
    refine XS.aloadN X5.here hx rfl (hb hby d3_33) rfl rfl ?_
    refine XS.iloadN X5.here hx rfl (hb hby d3_34) rfl ?_
    refine XS.iloadN X5.here hx rfl (hb hby d3_35) rfl ?_
    refine st7 _ ?_
    refine XS.astore X7.here hx rfl (hb hby d3_39) rfl rfl (l' := #[.val (.ref pR1), .val (.ref pR2), .val (.int 0), .val (.int 4), .val .null, .val (.ref bR7_0)]) rfl ?_
    refine XS.aloadN X7.here hx rfl (hb hby d3_41) rfl rfl ?_
    show oS p e below T7 m 42 #[.val (.ref pR1), .val (.ref pR2), .val (.int 0), .val (.int 4), .val .null, .val (.ref bR7_0)] [(.ref pR1)] _
    refine XS.aload X7.here hx rfl (hb hby d3_42) rfl rfl ?_
    refine XS.iloadN X7.here hx rfl (hb hby d3_44) rfl ?_
    refine st10 _ ?_
    refine st13 _ ?_
    refine XS.aloadN X13.here hx rfl (hb hby d3_51) rfl rfl ?_
    refine XS.aload X13.here hx rfl (hb hby d3_52) rfl rfl ?_
    show oS p e below T13 m 54 #[.val (.ref pR1), .val (.ref pR2), .val (.int 0), .val (.int 4), .val .null, .val (.ref bR7_0)] [(.ref bR7_0), (.ref pR1)] _
    refine st19 _ ?_
    exact X19.returnOut hx Bd.returns (hb hby d3_57) hr
  · show QsiL Z pR1 pR2 pI4 pI801 pI802 pI803 pI804 pK6 h0 n0 _ T19.heap _
    rw [e19]
    exact ⟨bR7_0, kK7_0, rfl, N19, K20, sz7_0, c23, c24, c25, F19⟩
theorem d2_0 : decode jdk_42_method_3_code 0 = .ok (.aload_n 0, 1) := by decide +kernel
theorem d2_1 : decode jdk_42_method_3_code 1 = .ok (.aload_n 1, 1) := by decide +kernel
theorem d2_2 : decode jdk_42_method_3_code 2 = .ok (.iconst 0, 1) := by decide +kernel
theorem d2_3 : decode jdk_42_method_3_code 3 = .ok (.aload_n 1, 1) := by decide +kernel
theorem d2_4 : decode jdk_42_method_3_code 4 = .ok (.arraylength, 1) := by decide +kernel
theorem d2_5 : decode jdk_42_method_3_code 5 = .ok (.aconst_null, 1) := by decide +kernel
theorem d2_6 : decode jdk_42_method_3_code 6 = .ok (.invokespecial 27, 3) := by decide +kernel
theorem pd_7 : parseMethodDescriptor "([CIILjava/lang/Void;)V" = some ⟨[(.array .char), .int, .int, (.object "java/lang/Void")], none⟩ := by decide +kernel
theorem d2_9 : decode jdk_42_method_3_code 9 = .ok (.return_, 1) := by decide +kernel
theorem ef_strL (m : MethodId) (pR1 : Addr) (pR2 : Addr) : entryFrame m #[(.ref pR1), (.ref pR2)] 2 = mkF m 0 #[.val (.ref pR1), .val (.ref pR2)] [] := by first | (simp [entryFrame, mkF, argsToLocals, Value.category]; done) | rfl
def QstrL (Z : State) (pR1 : Addr) (pR2 : Addr) (pI801 : Int32) (pI802 : Int32) (pI803 : Int32) (pI804 : Int32) (pK3 : ClassId) (pI5 : Int32) (h0 : Heap) (n0 : Nat) (v : Option Value) (h : Heap) (L : List Loc) : Prop := ∃ bR6_0 : Addr, ∃ kK6_0 : ClassId, v = none ∧ Fr n0 L ∧ Keep h0 h [pR1] ∧ h0.size ≤ bR6_0 ∧ Exa Z h pR1 "java/lang/String" ∧ Arv Z h bR6_0 kK6_0 .byte (4 : Int32) [(.int (pI801.toInt8.toInt32)), (.int (pI802.toInt8.toInt32)), (.int (pI803.toInt8.toInt32)), (.int (pI804.toInt8.toInt32))] (.int (0 : Int32)) ∧ Fld Z h pR1 "java/lang/String" "coder" "B" (.int 0) ∧ Fld Z h pR1 "java/lang/String" "value" "[B" (.ref bR6_0)
set_option maxRecDepth 65536 in
set_option maxHeartbeats 40000000 in
theorem strL (l : Launch) (Z : State) (a0 : Array Value) (hw : ∀ d ∈ tables_1, d.before a0 Z = true) (ws : List Jvm.Cond) (pR1 : Addr) (pR2 : Addr) (pI801 : Int32) (pI802 : Int32) (pI803 : Int32) (pI804 : Int32) (pK3 : ClassId) (pI5 : Int32) (h0 : Heap) (n0 : Nat) (Z0 : n0 ≤ h0.size) (V_pR2 : Arv Z h0 pR2 pK3 .char (4 : Int32) [(.int pI801), (.int pI802), (.int pI803), (.int pI804)] (.int (0 : Int32))) (S_String_COMPACT_STRINGS : Sta Z h0 "java/lang/String" "COMPACT_STRINGS" "Z" (.int pI5)) (E_pR1 : Exa Z h0 pR1 "java/lang/String") (F_coder_pR1 : Fld Z h0 pR1 "java/lang/String" "coder" "B" (.int 0)) (g_pR1 : n0 ≤ pR1) (F_value_pR1 : Fld Z h0 pR1 "java/lang/String" "value" "[B" .null) (hc6 : ¬ (pI5 = (0 : Int32))) (hc6' : ¬ ((255 : Int32) < pI801)) (hc6'' : ¬ ((255 : Int32) < pI802)) (hc6''' : ¬ ((255 : Int32) < pI803)) (hc6'''' : ¬ ((255 : Int32) < pI804)) :
    oM l yN11 jdk_42_method_3_code 2 none ws ({ frames := 3, cells := 1, slots := 4, locals := 52 } : Room) #[(.ref pR1), (.ref pR2)] Z h0 (QstrL Z pR1 pR2 pI801 pI802 pI803 pI804 pK3 pI5 h0 n0) := by
  refine MetFree.of_bodySF (plainFor_of_name pn_2) hisR ?_
  intro p e s m args below meth c s₁ Bd hml0 hP hK
  obtain ⟨rfl, hZ, hh⟩ := hP
  have hx := Bd.exec
  have hby := Bd.bytes
  have hml : c.maxLocals = 2 := hml0
  have hown : s.vm.findClass "java/lang/String" = some m.cls := findClass_of_methodNamed Bd.named
  have hnm := (name_of_methodNamed Bd.named Bd.method).1
  have X0 : Stand p l e ({ frames := 3, cells := 1, slots := 4, locals := 52 } : Room) s m #[(.ref pR1), (.ref pR2)] below meth c s₁ [] 0 0 := Stand.of_body Bd
  have e0 : s₁.heap = h0 := by rw [← hh, Bd.state]; rfl
  have N0 := Fr.nil n0
  obtain ⟨clq4, Arq4, Akq4, Asq4, Anq4, Ahq4, Agq4⟩ := id V_pR2
  obtain ⟨_, _, ⟨T6, L6, k6, n6⟩, -, X6, ⟨Lc6, hQ6, l6, y6, z6⟩, st6⟩ := X0.specialBack hx (y := yN10) rfl hown (mvT hZ (ow hw 11 rfl)) (mvT hZ (ow hw 12 rfl)) (mvT hZ (ow hw 14 rfl)) (by decide) (backOf (W := 0) (siL l Z a0 hw [] pR1 pR2 pI5 pI801 pI802 pI803 pI804 pK3 h0 n0 Z0 S_String_COMPACT_STRINGS V_pR2 E_pR1 F_coder_pR1 g_pR1 F_value_pR1 hc6 hc6' hc6'' hc6''' hc6'''') hZ (ow hw 14 rfl) (ow hw 7 rfl) (by decide) (by decide)) (g := (mkF m 6 #[.val (.ref pR1), .val (.ref pR2)] [.null, (.int 4), (.int 0), (.ref pR2), (.ref pR1)])) rfl (by rw [hml]; rfl) (Steps.refl _) (a := pR1) (argsL := [(.ref pR2), (.int 0), (.int 4), .null]) (rest := []) (lenOf pd_7 rfl) rfl (Nat.le_refl _) (hb hby d2_6) (fun _ _ => ⟨rfl, e0, (by decide : 0 + 1 ≤ _), (by decide : 0 + 4 ≤ _)⟩)
  dsimp only [Pt.U, Pt.locs, Pt.cells, Pt.slots] at X6 l6 y6 z6 st6 hQ6
  subst l6 y6 z6
  obtain ⟨bR6_0, kK6_0, rfl, Nq6, Kq6, sz6_0, x6_0, x6_1, x6_2, x6_3⟩ := hQ6
  have N6 := Fr.app N0 Nq6
  obtain ⟨Lh6, X6, N6⟩ := own_hide X6 N6
  have K7 : Keep h0 T6.heap [pR1] := (Keep.refl h0 [pR1]).trans Kq6 (allS (Or.inl (List.mem_of_getElem? (i := 0) rfl)) all0)
  have Z8 : n0 ≤ T6.heap.size := (Nat.le_trans Z0 Kq6.1)
  obtain ⟨fs, hr, hrun, hended, hW, hsame⟩ := X6.leave (v := none) (fun _ => rfl)
  refine ⟨_, _, castTop (ef_strL m pR1 pR2) ?_, hrun, hended, _, _, rfl, ?_, ⟨_, rfl⟩, hW, hsame.mono (by decide) (by decide)⟩
  · show oS p e below s₁ m 0 #[.val (.ref pR1), .val (.ref pR2)] [] _
    refine XS.aloadN X0.here hx rfl (hb hby d2_0) rfl rfl ?_
    refine XS.aloadN X0.here hx rfl (hb hby d2_1) rfl rfl ?_
    refine XS.iconst X0.here hx rfl (hb hby d2_2) ?_
    refine XS.aloadN X0.here hx rfl (hb hby d2_3) rfl rfl ?_
    refine X0.arraylength hx (by rw [e0]; exact Arq4.1) (State.isArrayOf_alike hZ.alike Arq4.2.1) (g := (mkF m 4 #[.val (.ref pR1), .val (.ref pR2)] [(.ref pR2), (.int 0), (.ref pR2), (.ref pR1)])) rfl rfl (hb hby d2_4) _ ?_
    rw [len_of Asq4 Anq4]
    refine XS.aconstNull X0.here hx rfl (hb hby d2_5) ?_
    show oS p e below s₁ m 6 #[.val (.ref pR1), .val (.ref pR2)] [.null, (.int 4), (.int 0), (.ref pR2), (.ref pR1)] _
    refine st6.trans ?_
    exact X6.returnOut hx Bd.returns (hb hby d2_9) hr
  · show QstrL Z pR1 pR2 pI801 pI802 pI803 pI804 pK3 pI5 h0 n0 _ T6.heap _
    exact ⟨bR6_0, kK6_0, rfl, N6, K7, sz6_0, x6_1, x6_0, x6_2, x6_3⟩
theorem ef_siU (m : MethodId) (pR1 : Addr) (pR2 : Addr) : entryFrame m #[(.ref pR1), (.ref pR2), (.int 0), (.int 4), .null] 6 = mkF m 0 #[.val (.ref pR1), .val (.ref pR2), .val (.int 0), .val (.int 4), .val .null, .unset] [] := by first | (simp [entryFrame, mkF, argsToLocals, Value.category]; done) | rfl
def QsiU (Z : State) (pR1 : Addr) (pR2 : Addr) (pI4 : Int32) (pI801 : Int32) (pI802 : Int32) (pI803 : Int32) (pI804 : Int32) (pK6 : ClassId) (h0 : Heap) (n0 : Nat) (v : Option Value) (h : Heap) (L : List Loc) : Prop := ∃ bR7_0 : Addr, ∃ kK7_0 : ClassId, v = none ∧ Fr n0 L ∧ Keep h0 h [pR1] ∧ h0.size ≤ bR7_0 ∧ Arv Z h bR7_0 kK7_0 .byte (8 : Int32) [(.int ((pI801 >>> ((0 : Int32) &&& 31)).toInt8.toInt32)), (.int ((pI801 >>> ((8 : Int32) &&& 31)).toInt8.toInt32)), (.int ((pI802 >>> ((0 : Int32) &&& 31)).toInt8.toInt32)), (.int ((pI802 >>> ((8 : Int32) &&& 31)).toInt8.toInt32)), (.int ((pI803 >>> ((0 : Int32) &&& 31)).toInt8.toInt32)), (.int ((pI803 >>> ((8 : Int32) &&& 31)).toInt8.toInt32)), (.int ((pI804 >>> ((0 : Int32) &&& 31)).toInt8.toInt32)), (.int ((pI804 >>> ((8 : Int32) &&& 31)).toInt8.toInt32))] (.int (0 : Int32)) ∧ Exa Z h pR1 "java/lang/String" ∧ Fld Z h pR1 "java/lang/String" "coder" "B" (.int 1) ∧ Fld Z h pR1 "java/lang/String" "value" "[B" (.ref bR7_0)
set_option maxRecDepth 65536 in
set_option maxHeartbeats 40000000 in
theorem siU (l : Launch) (Z : State) (a0 : Array Value) (hw : ∀ d ∈ tables_1, d.before a0 Z = true) (ws : List Jvm.Cond) (pR1 : Addr) (pR2 : Addr) (pI4 : Int32) (pI801 : Int32) (pI802 : Int32) (pI803 : Int32) (pI804 : Int32) (pK6 : ClassId) (h0 : Heap) (n0 : Nat) (Z0 : n0 ≤ h0.size) (S_String_COMPACT_STRINGS : Sta Z h0 "java/lang/String" "COMPACT_STRINGS" "Z" (.int pI4)) (V_pR2 : Arv Z h0 pR2 pK6 .char (4 : Int32) [(.int pI801), (.int pI802), (.int pI803), (.int pI804)] (.int (0 : Int32))) (S_StringUTF16__assertionsDisabled : Sta Z h0 "java/lang/StringUTF16" "$assertionsDisabled" "Z" (.int 1)) (S_StringUTF16_HI_BYTE_SHIFT : Sta Z h0 "java/lang/StringUTF16" "HI_BYTE_SHIFT" "I" (.int 0)) (S_StringUTF16_LO_BYTE_SHIFT : Sta Z h0 "java/lang/StringUTF16" "LO_BYTE_SHIFT" "I" (.int 8)) (E_pR1 : Exa Z h0 pR1 "java/lang/String") (F_coder_pR1 : Fld Z h0 pR1 "java/lang/String" "coder" "B" (.int 0)) (g_pR1 : n0 ≤ pR1) (F_value_pR1 : Fld Z h0 pR1 "java/lang/String" "value" "[B" .null) (hc30 : ¬ (pI4 = (0 : Int32))) (hc36 : (255 : Int32) < pI801 ∨ (255 : Int32) < pI802 ∨ (255 : Int32) < pI803 ∨ (255 : Int32) < pI804) (hc36' : 0 ≤ pI801.toInt ∧ pI801.toInt ≤ 65535) (hc36'' : 0 ≤ pI802.toInt ∧ pI802.toInt ≤ 65535) (hc36''' : 0 ≤ pI803.toInt ∧ pI803.toInt ≤ 65535) (hc36'''' : 0 ≤ pI804.toInt ∧ pI804.toInt ≤ 65535) :
    oM l yN10 jdk_42_method_149_code 6 none ws ({ frames := 4, cells := 2, slots := 12, locals := 57 } : Room) #[(.ref pR1), (.ref pR2), (.int 0), (.int 4), .null] Z h0 (QsiU Z pR1 pR2 pI4 pI801 pI802 pI803 pI804 pK6 h0 n0) := by
  refine MetFree.of_bodySF (plainFor_of_name pn_2) hisR ?_
  intro p e s m args below meth c s₁ Bd hml0 hP hK
  obtain ⟨rfl, hZ, hh⟩ := hP
  have hx := Bd.exec
  have hby := Bd.bytes
  have hml : c.maxLocals = 6 := hml0
  have hown : s.vm.findClass "java/lang/String" = some m.cls := findClass_of_methodNamed Bd.named
  have hnm := (name_of_methodNamed Bd.named Bd.method).1
  have X0 : Stand p l e ({ frames := 4, cells := 2, slots := 12, locals := 57 } : Room) s m #[(.ref pR1), (.ref pR2), (.int 0), (.int 4), .null] below meth c s₁ [] 0 0 := Stand.of_body Bd
  have e0 : s₁.heap = h0 := by rw [← hh, Bd.state]; rfl
  have N0 := Fr.nil n0
  obtain ⟨T3, X3, e3, st3⟩ := initO X0 hx hZ hown (ow hw 15 rfl) (ow hw 16 rfl) (ow hw 17 rfl) e0 (g := (mkF m 1 #[.val (.ref pR1), .val (.ref pR2), .val (.int 0), .val (.int 4), .val .null, .unset] [(.ref pR1)])) rfl (by rw [hml]; rfl) rfl (hb hby d3_1) (by decide) (W := 0) (Nat.le_refl _) (by decide)
  obtain ⟨T5, X5, e5, st5⟩ := getS2 X3 hx hZ hown (host := "") (Or.inl (ow hw 18 rfl)) Via.refl e3 S_String_COMPACT_STRINGS (g := (mkF m 27 #[.val (.ref pR1), .val (.ref pR2), .val (.int 0), .val (.int 4), .val .null, .unset] [])) rfl (hb hby d3_27)
  obtain ⟨_, _, ⟨T7, L7, k7, n7⟩, -, X7, ⟨Lc7, hQ7, l7, y7, z7⟩, st7⟩ := Jvm.LawKit.callS X5 hx (y := yN8) hown (mvT hZ (ow hw 19 rfl)) (mvT hZ (ow hw 20 rfl)) (mvT hZ (ow hw 21 rfl)) (mvT hZ (ow hw 22 rfl)) (by decide) (backOf (W := 0) (cmp3U l Z a0 hw [] pR2 pI801 pI802 pI803 pI804 pK6 h0 n0 Z0 V_pR2 S_StringUTF16__assertionsDisabled S_StringUTF16_HI_BYTE_SHIFT S_StringUTF16_LO_BYTE_SHIFT hc36 hc36' hc36'' hc36''' hc36'''') hZ (ow hw 22 rfl) (ow hw 21 rfl) (by decide) (by decide)) (g := (mkF m 36 #[.val (.ref pR1), .val (.ref pR2), .val (.int 0), .val (.int 4), .val .null, .unset] [(.int 4), (.int 0), (.ref pR2)])) rfl (by rw [hml]; rfl) (argsL := [(.ref pR2), (.int 0), (.int 4)]) (rest := []) (lenOf pd_4 rfl) rfl (Nat.le_refl _) (hb hby d3_36) (fun _ _ => ⟨rfl, e5, (by decide : 0 + 2 ≤ _), (by decide : 0 + 12 ≤ _)⟩)
  dsimp only [Pt.U, Pt.locs, Pt.cells, Pt.slots] at X7 l7 y7 z7 st7 hQ7
  subst l7 y7 z7
  obtain ⟨bR7_0, kK7_0, rfl, Nq7, Kq7, sz7_0, x7_0⟩ := hQ7
  have N7 := Fr.app N0 Nq7
  obtain ⟨Lh7, X7, N7⟩ := own_hide X7 N7
  have K8 : Keep h0 T7.heap [pR1] := (Keep.refl h0 [pR1]).trans Kq7 all0
  have Z9 : n0 ≤ T7.heap.size := (Nat.le_trans Z0 Kq7.1)
  obtain ⟨_, _, ⟨T10, L10, k10, n10⟩, -, X10, ⟨Lc10, hQ10, l10, y10, z10⟩, st10⟩ := Jvm.LawKit.callS X7 hx (y := yN9) hown (mvT hZ (ow hw 27 rfl)) (mvT hZ (ow hw 28 rfl)) (mvT hZ (ow hw 21 rfl)) (mvT hZ (ow hw 29 rfl)) (by decide) (backOf (W := 1) (cfaU l Z a0 hw [] bR7_0 kK7_0 ((pI801 >>> ((0 : Int32) &&& 31)).toInt8.toInt32) ((pI801 >>> ((8 : Int32) &&& 31)).toInt8.toInt32) ((pI802 >>> ((0 : Int32) &&& 31)).toInt8.toInt32) ((pI802 >>> ((8 : Int32) &&& 31)).toInt8.toInt32) ((pI803 >>> ((0 : Int32) &&& 31)).toInt8.toInt32) ((pI803 >>> ((8 : Int32) &&& 31)).toInt8.toInt32) ((pI804 >>> ((0 : Int32) &&& 31)).toInt8.toInt32) ((pI804 >>> ((8 : Int32) &&& 31)).toInt8.toInt32) T7.heap n0 Z9 x7_0) hZ (ow hw 29 rfl) (ow hw 21 rfl) (by decide) (by decide)) (g := (mkF m 45 #[.val (.ref pR1), .val (.ref pR2), .val (.int 0), .val (.int 4), .val .null, .val (.ref bR7_0)] [(.int 4), (.ref bR7_0), (.ref pR1)])) rfl (by rw [hml]; rfl) (argsL := [(.ref bR7_0), (.int 4)]) (rest := [(.ref pR1)]) (lenOf pd_6 rfl) rfl (Nat.le_refl _) (hb hby d3_45) (fun _ _ => ⟨rfl, rfl, (by decide : 2 + 0 ≤ _), (by decide : 12 + 0 ≤ _)⟩)
  dsimp only [Pt.U, Pt.locs, Pt.cells, Pt.slots] at X10 l10 y10 z10 st10 hQ10
  subst l10 y10 z10
  obtain ⟨rfl, Nq10, e10⟩ := hQ10
  have N10 := Fr.app N7 Nq10
  have c11 : Fld Z T7.heap pR1 "java/lang/String" "coder" "B" (.int 0) := F_coder_pR1.keep Kq7 nin0
  have c12 : Exa Z T7.heap pR1 "java/lang/String" := E_pR1.keep Kq7
  obtain ⟨T13, h13, X13, e13, W13, st13⟩ := putFN X10 hx hZ hown (ow hw 30 rfl) Via.refl e10 c11 c12 (Or.inr ⟨(ow hw 31 rfl), rfl, hnm⟩) (ow hw 6 rfl) (ty := .byte) (v' := .int (1 : Int32)) (by decide) (by rfl) (by first | rfl | exact fits_nar_byte _) (g := (mkF m 48 #[.val (.ref pR1), .val (.ref pR2), .val (.int 0), .val (.int 4), .val .null, .val (.ref bR7_0)] [(.int 1), (.ref pR1)])) rfl rfl (hb hby d3_48)
  have K14 : Keep h0 h13 [pR1] := K8.wr W13 (Or.inl (List.mem_of_getElem? (i := 0) rfl))
  have Z15 : n0 ≤ h13.size := (Nat.le_trans Z9 (Keep.of_wr W13).1)
  have N13 := Fr.snoc X13 N10 g_pR1
  obtain ⟨Lh13, X13, N13⟩ := own_hide X13 N13
  have F13 : Fld Z h13 pR1 "java/lang/String" "coder" "B" (.int 1) := Fld.same W13 c11
  have c16 : Fld Z T7.heap pR1 "java/lang/String" "value" "[B" .null := F_value_pR1.keep Kq7 nin0
  have c17 : Fld Z h13 pR1 "java/lang/String" "value" "[B" .null := c16.other W13 (Or.inr (slot_ne (Or.inr (ow hw 33 rfl)) (Or.inr (ow hw 31 rfl)) (by decide) (t := (.array .byte)) (t' := .byte) (by decide) (by decide)))
  have c18 : Exa Z h13 pR1 "java/lang/String" := c12.wr W13
  obtain ⟨T19, h19, X19, e19, W19, st19⟩ := putF X13 hx hZ hown (host := "") (Or.inl (ow hw 32 rfl)) Via.refl e13 c17 c18 (Or.inr ⟨(ow hw 33 rfl), rfl, hnm⟩) (ow hw 6 rfl) (ty := (.array .byte)) (by decide) rfl rfl (g := (mkF m 54 #[.val (.ref pR1), .val (.ref pR2), .val (.int 0), .val (.int 4), .val .null, .val (.ref bR7_0)] [(.ref bR7_0), (.ref pR1)])) rfl rfl (hb hby d3_54)
  have K20 : Keep h0 h19 [pR1] := K14.wr W19 (Or.inl (List.mem_of_getElem? (i := 0) rfl))
  have Z21 : n0 ≤ h19.size := (Nat.le_trans Z15 (Keep.of_wr W19).1)
  have N19 := Fr.snoc X19 N13 g_pR1
  obtain ⟨Lh19, X19, N19⟩ := own_hide X19 N19
  have F19 : Fld Z h19 pR1 "java/lang/String" "value" "[B" (.ref bR7_0) := Fld.same W19 c17
  have c22 : Arv Z h13 bR7_0 kK7_0 .byte (8 : Int32) [(.int ((pI801 >>> ((0 : Int32) &&& 31)).toInt8.toInt32)), (.int ((pI801 >>> ((8 : Int32) &&& 31)).toInt8.toInt32)), (.int ((pI802 >>> ((0 : Int32) &&& 31)).toInt8.toInt32)), (.int ((pI802 >>> ((8 : Int32) &&& 31)).toInt8.toInt32)), (.int ((pI803 >>> ((0 : Int32) &&& 31)).toInt8.toInt32)), (.int ((pI803 >>> ((8 : Int32) &&& 31)).toInt8.toInt32)), (.int ((pI804 >>> ((0 : Int32) &&& 31)).toInt8.toInt32)), (.int ((pI804 >>> ((8 : Int32) &&& 31)).toInt8.toInt32))] (.int (0 : Int32)) := x7_0.other W13 (Ne.symm (Nat.ne_of_lt (Nat.lt_of_lt_of_le E_pR1.lt sz7_0)))
  have c23 : Arv Z h19 bR7_0 kK7_0 .byte (8 : Int32) [(.int ((pI801 >>> ((0 : Int32) &&& 31)).toInt8.toInt32)), (.int ((pI801 >>> ((8 : Int32) &&& 31)).toInt8.toInt32)), (.int ((pI802 >>> ((0 : Int32) &&& 31)).toInt8.toInt32)), (.int ((pI802 >>> ((8 : Int32) &&& 31)).toInt8.toInt32)), (.int ((pI803 >>> ((0 : Int32) &&& 31)).toInt8.toInt32)), (.int ((pI803 >>> ((8 : Int32) &&& 31)).toInt8.toInt32)), (.int ((pI804 >>> ((0 : Int32) &&& 31)).toInt8.toInt32)), (.int ((pI804 >>> ((8 : Int32) &&& 31)).toInt8.toInt32))] (.int (0 : Int32)) := c22.other W19 (Ne.symm (Nat.ne_of_lt (Nat.lt_of_lt_of_le E_pR1.lt sz7_0)))
  have c24 : Exa Z h19 pR1 "java/lang/String" := c18.wr W19
  have c25 : Fld Z h19 pR1 "java/lang/String" "coder" "B" (.int 1) := F13.other W19 (Or.inr (slot_ne (Or.inr (ow hw 31 rfl)) (Or.inr (ow hw 33 rfl)) (by decide) (t := .byte) (t' := (.array .byte)) (by decide) (by decide)))
  obtain ⟨fs, hr, hrun, hended, hW, hsame⟩ := X19.leave (v := none) (fun _ => rfl)
  refine ⟨_, _, castTop (ef_siU m pR1 pR2) ?_, hrun, hended, _, _, rfl, ?_, ⟨_, rfl⟩, hW, hsame.mono (by decide) (by decide)⟩
  · show oS p e below s₁ m 0 #[.val (.ref pR1), .val (.ref pR2), .val (.int 0), .val (.int 4), .val .null, .unset] [] _
    refine XS.aloadN X0.here hx rfl (hb hby d3_0) rfl rfl ?_
    refine st3 _ ?_
    refine XS.iloadN X3.here hx rfl (hb hby d3_4) rfl ?_
    refine XS.ifYes X3.here hx rfl (pc0 := 5) (pc' := 27) rfl (hb hby d3_5) rfl ((if0 _ _).trans (feq (by decide : ¬ ((4 : Int32) = (0 : Int32)))).2) (by decide) (by decide) ?_
    refine st5 _ ?_
    refine XS.ifNo X5.here hx rfl (hb hby d3_30) rfl ((if0 _ _).trans (feq hc30).1) ?_
    show oS p e below T5 m 33 #[.val (.ref pR1), .val (.ref pR2), .val (.int 0), .val (.int 4), .val .null, .unset] [] _
    refine XS.aloadN X5.here hx rfl (hb hby d3_33) rfl rfl ?_
    refine XS.iloadN X5.here hx rfl (hb hby d3_34) rfl ?_
    refine XS.iloadN X5.here hx rfl (hb hby d3_35) rfl ?_
    refine st7 _ ?_
    refine XS.astore X7.here hx rfl (hb hby d3_39) rfl rfl (l' := #[.val (.ref pR1), .val (.ref pR2), .val (.int 0), .val (.int 4), .val .null, .val (.ref bR7_0)]) rfl ?_
    refine XS.aloadN X7.here hx rfl (hb hby d3_41) rfl rfl ?_
    show oS p e below T7 m 42 #[.val (.ref pR1), .val (.ref pR2), .val (.int 0), .val (.int 4), .val .null, .val (.ref bR7_0)] [(.ref pR1)] _
    refine XS.aload X7.here hx rfl (hb hby d3_42) rfl rfl ?_
    refine XS.iloadN X7.here hx rfl (hb hby d3_44) rfl ?_
    refine st10 _ ?_
    refine st13 _ ?_
    refine XS.aloadN X13.here hx rfl (hb hby d3_51) rfl rfl ?_
    refine XS.aload X13.here hx rfl (hb hby d3_52) rfl rfl ?_
    show oS p e below T13 m 54 #[.val (.ref pR1), .val (.ref pR2), .val (.int 0), .val (.int 4), .val .null, .val (.ref bR7_0)] [(.ref bR7_0), (.ref pR1)] _
    refine st19 _ ?_
    exact X19.returnOut hx Bd.returns (hb hby d3_57) hr
  · show QsiU Z pR1 pR2 pI4 pI801 pI802 pI803 pI804 pK6 h0 n0 _ T19.heap _
    rw [e19]
    exact ⟨bR7_0, kK7_0, rfl, N19, K20, sz7_0, c23, c24, c25, F19⟩
theorem ef_strU (m : MethodId) (pR1 : Addr) (pR2 : Addr) : entryFrame m #[(.ref pR1), (.ref pR2)] 2 = mkF m 0 #[.val (.ref pR1), .val (.ref pR2)] [] := by first | (simp [entryFrame, mkF, argsToLocals, Value.category]; done) | rfl
def QstrU (Z : State) (pR1 : Addr) (pR2 : Addr) (pI801 : Int32) (pI802 : Int32) (pI803 : Int32) (pI804 : Int32) (pK3 : ClassId) (pI5 : Int32) (h0 : Heap) (n0 : Nat) (v : Option Value) (h : Heap) (L : List Loc) : Prop := ∃ bR6_0 : Addr, ∃ kK6_0 : ClassId, v = none ∧ Fr n0 L ∧ Keep h0 h [pR1] ∧ h0.size ≤ bR6_0 ∧ Exa Z h pR1 "java/lang/String" ∧ Arv Z h bR6_0 kK6_0 .byte (8 : Int32) [(.int ((pI801 >>> ((0 : Int32) &&& 31)).toInt8.toInt32)), (.int ((pI801 >>> ((8 : Int32) &&& 31)).toInt8.toInt32)), (.int ((pI802 >>> ((0 : Int32) &&& 31)).toInt8.toInt32)), (.int ((pI802 >>> ((8 : Int32) &&& 31)).toInt8.toInt32)), (.int ((pI803 >>> ((0 : Int32) &&& 31)).toInt8.toInt32)), (.int ((pI803 >>> ((8 : Int32) &&& 31)).toInt8.toInt32)), (.int ((pI804 >>> ((0 : Int32) &&& 31)).toInt8.toInt32)), (.int ((pI804 >>> ((8 : Int32) &&& 31)).toInt8.toInt32))] (.int (0 : Int32)) ∧ Fld Z h pR1 "java/lang/String" "coder" "B" (.int 1) ∧ Fld Z h pR1 "java/lang/String" "value" "[B" (.ref bR6_0)
set_option maxRecDepth 65536 in
set_option maxHeartbeats 40000000 in
theorem strU (l : Launch) (Z : State) (a0 : Array Value) (hw : ∀ d ∈ tables_1, d.before a0 Z = true) (ws : List Jvm.Cond) (pR1 : Addr) (pR2 : Addr) (pI801 : Int32) (pI802 : Int32) (pI803 : Int32) (pI804 : Int32) (pK3 : ClassId) (pI5 : Int32) (h0 : Heap) (n0 : Nat) (Z0 : n0 ≤ h0.size) (V_pR2 : Arv Z h0 pR2 pK3 .char (4 : Int32) [(.int pI801), (.int pI802), (.int pI803), (.int pI804)] (.int (0 : Int32))) (S_String_COMPACT_STRINGS : Sta Z h0 "java/lang/String" "COMPACT_STRINGS" "Z" (.int pI5)) (S_StringUTF16__assertionsDisabled : Sta Z h0 "java/lang/StringUTF16" "$assertionsDisabled" "Z" (.int 1)) (S_StringUTF16_HI_BYTE_SHIFT : Sta Z h0 "java/lang/StringUTF16" "HI_BYTE_SHIFT" "I" (.int 0)) (S_StringUTF16_LO_BYTE_SHIFT : Sta Z h0 "java/lang/StringUTF16" "LO_BYTE_SHIFT" "I" (.int 8)) (E_pR1 : Exa Z h0 pR1 "java/lang/String") (F_coder_pR1 : Fld Z h0 pR1 "java/lang/String" "coder" "B" (.int 0)) (g_pR1 : n0 ≤ pR1) (F_value_pR1 : Fld Z h0 pR1 "java/lang/String" "value" "[B" .null) (hc6 : ¬ (pI5 = (0 : Int32))) (hc6' : (255 : Int32) < pI801 ∨ (255 : Int32) < pI802 ∨ (255 : Int32) < pI803 ∨ (255 : Int32) < pI804) (hc6'' : 0 ≤ pI801.toInt ∧ pI801.toInt ≤ 65535) (hc6''' : 0 ≤ pI802.toInt ∧ pI802.toInt ≤ 65535) (hc6'''' : 0 ≤ pI803.toInt ∧ pI803.toInt ≤ 65535) (hc6''''' : 0 ≤ pI804.toInt ∧ pI804.toInt ≤ 65535) :
    oM l yN11 jdk_42_method_3_code 2 none ws ({ frames := 5, cells := 2, slots := 12, locals := 74 } : Room) #[(.ref pR1), (.ref pR2)] Z h0 (QstrU Z pR1 pR2 pI801 pI802 pI803 pI804 pK3 pI5 h0 n0) := by
  refine MetFree.of_bodySF (plainFor_of_name pn_2) hisR ?_
  intro p e s m args below meth c s₁ Bd hml0 hP hK
  obtain ⟨rfl, hZ, hh⟩ := hP
  have hx := Bd.exec
  have hby := Bd.bytes
  have hml : c.maxLocals = 2 := hml0
  have hown : s.vm.findClass "java/lang/String" = some m.cls := findClass_of_methodNamed Bd.named
  have hnm := (name_of_methodNamed Bd.named Bd.method).1
  have X0 : Stand p l e ({ frames := 5, cells := 2, slots := 12, locals := 74 } : Room) s m #[(.ref pR1), (.ref pR2)] below meth c s₁ [] 0 0 := Stand.of_body Bd
  have e0 : s₁.heap = h0 := by rw [← hh, Bd.state]; rfl
  have N0 := Fr.nil n0
  obtain ⟨clq4, Arq4, Akq4, Asq4, Anq4, Ahq4, Agq4⟩ := id V_pR2
  obtain ⟨_, _, ⟨T6, L6, k6, n6⟩, -, X6, ⟨Lc6, hQ6, l6, y6, z6⟩, st6⟩ := X0.specialBack hx (y := yN10) rfl hown (mvT hZ (ow hw 11 rfl)) (mvT hZ (ow hw 12 rfl)) (mvT hZ (ow hw 14 rfl)) (by decide) (backOf (W := 0) (siU l Z a0 hw [] pR1 pR2 pI5 pI801 pI802 pI803 pI804 pK3 h0 n0 Z0 S_String_COMPACT_STRINGS V_pR2 S_StringUTF16__assertionsDisabled S_StringUTF16_HI_BYTE_SHIFT S_StringUTF16_LO_BYTE_SHIFT E_pR1 F_coder_pR1 g_pR1 F_value_pR1 hc6 hc6' hc6'' hc6''' hc6'''' hc6''''') hZ (ow hw 14 rfl) (ow hw 7 rfl) (by decide) (by decide)) (g := (mkF m 6 #[.val (.ref pR1), .val (.ref pR2)] [.null, (.int 4), (.int 0), (.ref pR2), (.ref pR1)])) rfl (by rw [hml]; rfl) (Steps.refl _) (a := pR1) (argsL := [(.ref pR2), (.int 0), (.int 4), .null]) (rest := []) (lenOf pd_7 rfl) rfl (Nat.le_refl _) (hb hby d2_6) (fun _ _ => ⟨rfl, e0, (by decide : 0 + 2 ≤ _), (by decide : 0 + 12 ≤ _)⟩)
  dsimp only [Pt.U, Pt.locs, Pt.cells, Pt.slots] at X6 l6 y6 z6 st6 hQ6
  subst l6 y6 z6
  obtain ⟨bR6_0, kK6_0, rfl, Nq6, Kq6, sz6_0, x6_0, x6_1, x6_2, x6_3⟩ := hQ6
  have N6 := Fr.app N0 Nq6
  obtain ⟨Lh6, X6, N6⟩ := own_hide X6 N6
  have K7 : Keep h0 T6.heap [pR1] := (Keep.refl h0 [pR1]).trans Kq6 (allS (Or.inl (List.mem_of_getElem? (i := 0) rfl)) all0)
  have Z8 : n0 ≤ T6.heap.size := (Nat.le_trans Z0 Kq6.1)
  obtain ⟨fs, hr, hrun, hended, hW, hsame⟩ := X6.leave (v := none) (fun _ => rfl)
  refine ⟨_, _, castTop (ef_strU m pR1 pR2) ?_, hrun, hended, _, _, rfl, ?_, ⟨_, rfl⟩, hW, hsame.mono (by decide) (by decide)⟩
  · show oS p e below s₁ m 0 #[.val (.ref pR1), .val (.ref pR2)] [] _
    refine XS.aloadN X0.here hx rfl (hb hby d2_0) rfl rfl ?_
    refine XS.aloadN X0.here hx rfl (hb hby d2_1) rfl rfl ?_
    refine XS.iconst X0.here hx rfl (hb hby d2_2) ?_
    refine XS.aloadN X0.here hx rfl (hb hby d2_3) rfl rfl ?_
    refine X0.arraylength hx (by rw [e0]; exact Arq4.1) (State.isArrayOf_alike hZ.alike Arq4.2.1) (g := (mkF m 4 #[.val (.ref pR1), .val (.ref pR2)] [(.ref pR2), (.int 0), (.ref pR2), (.ref pR1)])) rfl rfl (hb hby d2_4) _ ?_
    rw [len_of Asq4 Anq4]
    refine XS.aconstNull X0.here hx rfl (hb hby d2_5) ?_
    show oS p e below s₁ m 6 #[.val (.ref pR1), .val (.ref pR2)] [.null, (.int 4), (.int 0), (.ref pR2), (.ref pR1)] _
    refine st6.trans ?_
    exact X6.returnOut hx Bd.returns (hb hby d2_9) hr
  · show QstrU Z pR1 pR2 pI801 pI802 pI803 pI804 pK3 pI5 h0 n0 _ T6.heap _
    exact ⟨bR6_0, kK6_0, rfl, N6, K7, sz6_0, x6_1, x6_0, x6_2, x6_3⟩
theorem d14_0 : decode jdk_41_method_11_code 0 = .ok (.iload_n 0, 1) := by decide +kernel
theorem d14_1 : decode jdk_41_method_11_code 1 = .ok (.ifCond .lt 8, 3) := by decide +kernel
theorem d14_4 : decode jdk_41_method_11_code 4 = .ok (.iload_n 0, 1) := by decide +kernel
theorem d14_5 : decode jdk_41_method_11_code 5 = .ok (.iload_n 1, 1) := by decide +kernel
theorem d14_6 : decode jdk_41_method_11_code 6 = .ok (.if_icmp .lt 10, 3) := by decide +kernel
theorem d14_16 : decode jdk_41_method_11_code 16 = .ok (.iload_n 0, 1) := by decide +kernel
theorem d14_17 : decode jdk_41_method_11_code 17 = .ok (.ireturn, 1) := by decide +kernel
theorem pn_3 : plainName "jdk/internal/util/Preconditions" = true := by first | (simp [plainName, overriddenIn]; done) | decide +kernel
theorem ef_pciR (m : MethodId) (pI1 : Int32) (pI2 : Int32) (pR3 : Addr) : entryFrame m #[(.int pI1), (.int pI2), (.ref pR3)] 3 = mkF m 0 #[.val (.int pI1), .val (.int pI2), .val (.ref pR3)] [] := by first | (simp [entryFrame, mkF, argsToLocals, Value.category]; done) | rfl
def QpciR (Z : State) (pI1 : Int32) (pI2 : Int32) (pR3 : Addr) (h0 : Heap) (n0 : Nat) (v : Option Value) (h : Heap) (L : List Loc) : Prop := v = some (.int pI1) ∧ Fr n0 L ∧ h = h0
set_option maxRecDepth 65536 in
set_option maxHeartbeats 40000000 in
theorem pciR (l : Launch) (Z : State) (a0 : Array Value) (hw : ∀ d ∈ tables_1, d.before a0 Z = true) (ws : List Jvm.Cond) (pI1 : Int32) (pI2 : Int32) (pR3 : Addr) (h0 : Heap) (n0 : Nat) (Z0 : n0 ≤ h0.size) (hc1 : ¬ (pI1 < (0 : Int32))) (hc6 : pI1 < pI2) :
    oM l yN12 jdk_41_method_11_code 3 (some .int) ws ({ frames := 0, cells := 0, slots := 0, locals := 0 } : Room) #[(.int pI1), (.int pI2), (.ref pR3)] Z h0 (QpciR Z pI1 pI2 pR3 h0 n0) := by
  refine MetFree.of_bodySF (plainFor_of_name pn_3) hisR ?_
  intro p e s m args below meth c s₁ Bd hml0 hP hK
  obtain ⟨rfl, hZ, hh⟩ := hP
  have hx := Bd.exec
  have hby := Bd.bytes
  have hml : c.maxLocals = 3 := hml0
  have hown : s.vm.findClass "jdk/internal/util/Preconditions" = some m.cls := findClass_of_methodNamed Bd.named
  have hnm := (name_of_methodNamed Bd.named Bd.method).1
  have X0 : Stand p l e ({ frames := 0, cells := 0, slots := 0, locals := 0 } : Room) s m #[(.int pI1), (.int pI2), (.ref pR3)] below meth c s₁ [] 0 0 := Stand.of_body Bd
  have e0 : s₁.heap = h0 := by rw [← hh, Bd.state]; rfl
  have N0 := Fr.nil n0
  obtain ⟨fs, hr, hrun, hended, hW, hsame⟩ := X0.leave (v := some (.int pI1)) (fun h => by rw [Bd.returns] at h; cases h)
  refine ⟨_, _, castTop (ef_pciR m pI1 pI2 pR3) ?_, hrun, hended, _, _, rfl, ?_, ⟨_, rfl⟩, hW, hsame.mono (by decide) (by decide)⟩
  · show oS p e below s₁ m 0 #[.val (.int pI1), .val (.int pI2), .val (.ref pR3)] [] _
    refine XS.iloadN X0.here hx rfl (hb hby d14_0) rfl ?_
    refine XS.ifNo X0.here hx rfl (hb hby d14_1) rfl ((if0 _ _).trans (flt hc1).1) ?_
    refine XS.iloadN X0.here hx rfl (hb hby d14_4) rfl ?_
    refine XS.iloadN X0.here hx rfl (hb hby d14_5) rfl ?_
    refine XS.icmpYes X0.here hx rfl (pc0 := 6) (pc' := 16) rfl (hb hby d14_6) rfl (tlt hc6).1 (by decide) (by decide) ?_
    refine XS.iloadN X0.here hx rfl (hb hby d14_16) rfl ?_
    show oS p e below s₁ m 17 #[.val (.int pI1), .val (.int pI2), .val (.ref pR3)] [(.int pI1)] _
    exact retI X0 hx Bd.returns (hb hby d14_17) hr
  · show QpciR Z pI1 pI2 pR3 h0 n0 _ s₁.heap _
    rw [e0]
    exact ⟨rfl, N0, rfl⟩
theorem ef_pciN (m : MethodId) (pI1 : Int32) (pI2 : Int32) : entryFrame m #[(.int pI1), (.int pI2), .null] 3 = mkF m 0 #[.val (.int pI1), .val (.int pI2), .val .null] [] := by first | (simp [entryFrame, mkF, argsToLocals, Value.category]; done) | rfl
def QpciN (Z : State) (pI1 : Int32) (pI2 : Int32) (h0 : Heap) (n0 : Nat) (v : Option Value) (h : Heap) (L : List Loc) : Prop := v = some (.int pI1) ∧ Fr n0 L ∧ h = h0
set_option maxRecDepth 65536 in
set_option maxHeartbeats 40000000 in
theorem pciN (l : Launch) (Z : State) (a0 : Array Value) (hw : ∀ d ∈ tables_1, d.before a0 Z = true) (ws : List Jvm.Cond) (pI1 : Int32) (pI2 : Int32) (h0 : Heap) (n0 : Nat) (Z0 : n0 ≤ h0.size) (hc1 : ¬ (pI1 < (0 : Int32))) (hc6 : pI1 < pI2) :
    oM l yN12 jdk_41_method_11_code 3 (some .int) ws ({ frames := 0, cells := 0, slots := 0, locals := 0 } : Room) #[(.int pI1), (.int pI2), .null] Z h0 (QpciN Z pI1 pI2 h0 n0) := by
  refine MetFree.of_bodySF (plainFor_of_name pn_3) hisR ?_
  intro p e s m args below meth c s₁ Bd hml0 hP hK
  obtain ⟨rfl, hZ, hh⟩ := hP
  have hx := Bd.exec
  have hby := Bd.bytes
  have hml : c.maxLocals = 3 := hml0
  have hown : s.vm.findClass "jdk/internal/util/Preconditions" = some m.cls := findClass_of_methodNamed Bd.named
  have hnm := (name_of_methodNamed Bd.named Bd.method).1
  have X0 : Stand p l e ({ frames := 0, cells := 0, slots := 0, locals := 0 } : Room) s m #[(.int pI1), (.int pI2), .null] below meth c s₁ [] 0 0 := Stand.of_body Bd
  have e0 : s₁.heap = h0 := by rw [← hh, Bd.state]; rfl
  have N0 := Fr.nil n0
  obtain ⟨fs, hr, hrun, hended, hW, hsame⟩ := X0.leave (v := some (.int pI1)) (fun h => by rw [Bd.returns] at h; cases h)
  refine ⟨_, _, castTop (ef_pciN m pI1 pI2) ?_, hrun, hended, _, _, rfl, ?_, ⟨_, rfl⟩, hW, hsame.mono (by decide) (by decide)⟩
  · show oS p e below s₁ m 0 #[.val (.int pI1), .val (.int pI2), .val .null] [] _
    refine XS.iloadN X0.here hx rfl (hb hby d14_0) rfl ?_
    refine XS.ifNo X0.here hx rfl (hb hby d14_1) rfl ((if0 _ _).trans (flt hc1).1) ?_
    refine XS.iloadN X0.here hx rfl (hb hby d14_4) rfl ?_
    refine XS.iloadN X0.here hx rfl (hb hby d14_5) rfl ?_
    refine XS.icmpYes X0.here hx rfl (pc0 := 6) (pc' := 16) rfl (hb hby d14_6) rfl (tlt hc6).1 (by decide) (by decide) ?_
    refine XS.iloadN X0.here hx rfl (hb hby d14_16) rfl ?_
    show oS p e below s₁ m 17 #[.val (.int pI1), .val (.int pI2), .val .null] [(.int pI1)] _
    exact retI X0 hx Bd.returns (hb hby d14_17) hr
  · show QpciN Z pI1 pI2 h0 n0 _ s₁.heap _
    rw [e0]
    exact ⟨rfl, N0, rfl⟩
theorem d13_0 : decode jdk_42_method_155_code 0 = .ok (.iload_n 0, 1) := by decide +kernel
theorem d13_1 : decode jdk_42_method_155_code 1 = .ok (.iload_n 1, 1) := by decide +kernel
theorem d13_2 : decode jdk_42_method_155_code 2 = .ok (.getstatic 1053, 3) := by decide +kernel
theorem d13_5 : decode jdk_42_method_155_code 5 = .ok (.invokestatic 1059, 3) := by decide +kernel
theorem pd_8 : parseMethodDescriptor "(IILjava/util/function/BiFunction;)I" = some ⟨[.int, .int, (.object "java/util/function/BiFunction")], some .int⟩ := by decide +kernel
theorem d13_8 : decode jdk_42_method_155_code 8 = .ok (.pop, 1) := by decide +kernel
theorem d13_9 : decode jdk_42_method_155_code 9 = .ok (.return_, 1) := by decide +kernel
theorem ef_sciR (m : MethodId) (pI1 : Int32) (pI2 : Int32) : entryFrame m #[(.int pI1), (.int pI2)] 2 = mkF m 0 #[.val (.int pI1), .val (.int pI2)] [] := by first | (simp [entryFrame, mkF, argsToLocals, Value.category]; done) | rfl
def Qsci (Z : State) (pI1 : Int32) (pI2 : Int32) (h0 : Heap) (n0 : Nat) (v : Option Value) (h : Heap) (L : List Loc) : Prop := v = none ∧ Fr n0 L ∧ h = h0
set_option maxRecDepth 65536 in
set_option maxHeartbeats 40000000 in
theorem sciR (l : Launch) (Z : State) (a0 : Array Value) (hw : ∀ d ∈ tables_1, d.before a0 Z = true) (ws : List Jvm.Cond) (pI1 : Int32) (pI2 : Int32) (pR3 : Addr) (h0 : Heap) (n0 : Nat) (Z0 : n0 ≤ h0.size) (S_Preconditions_SIOOBE_FORMATTER : Sta Z h0 "jdk/internal/util/Preconditions" "SIOOBE_FORMATTER" "Ljava/util/function/BiFunction;" (.ref pR3)) (hc5 : ¬ (pI1 < (0 : Int32))) (hc5' : pI1 < pI2) :
    oM l yN13 jdk_42_method_155_code 2 none ws ({ frames := 1, cells := 0, slots := 0, locals := 14 } : Room) #[(.int pI1), (.int pI2)] Z h0 (Qsci Z pI1 pI2 h0 n0) := by
  refine MetFree.of_bodySF (plainFor_of_name pn_2) hisR ?_
  intro p e s m args below meth c s₁ Bd hml0 hP hK
  obtain ⟨rfl, hZ, hh⟩ := hP
  have hx := Bd.exec
  have hby := Bd.bytes
  have hml : c.maxLocals = 2 := hml0
  have hown : s.vm.findClass "java/lang/String" = some m.cls := findClass_of_methodNamed Bd.named
  have hnm := (name_of_methodNamed Bd.named Bd.method).1
  have X0 : Stand p l e ({ frames := 1, cells := 0, slots := 0, locals := 14 } : Room) s m #[(.int pI1), (.int pI2)] below meth c s₁ [] 0 0 := Stand.of_body Bd
  have e0 : s₁.heap = h0 := by rw [← hh, Bd.state]; rfl
  have N0 := Fr.nil n0
  obtain ⟨T4, X4, e4, st4⟩ := getS2 X0 hx hZ hown (host := "") (Or.inl (ow hw 67 rfl)) Via.refl e0 S_Preconditions_SIOOBE_FORMATTER (g := (mkF m 2 #[.val (.int pI1), .val (.int pI2)] [(.int pI2), (.int pI1)])) rfl (hb hby d13_2)
  obtain ⟨_, _, ⟨T5, L5, k5, n5⟩, -, X5, ⟨Lc5, hQ5, l5, y5, z5⟩, st5⟩ := Jvm.LawKit.callS X4 hx (y := yN12) hown (mvT hZ (ow hw 69 rfl)) (mvT hZ (ow hw 70 rfl)) (mvT hZ (ow hw 68 rfl)) (mvT hZ (ow hw 71 rfl)) (by decide) (backOf (W := 0) (pciR l Z a0 hw [] pI1 pI2 pR3 h0 n0 Z0 hc5 hc5') hZ (ow hw 71 rfl) (ow hw 68 rfl) (by decide) (by decide)) (g := (mkF m 5 #[.val (.int pI1), .val (.int pI2)] [(.ref pR3), (.int pI2), (.int pI1)])) rfl (by rw [hml]; rfl) (argsL := [(.int pI1), (.int pI2), (.ref pR3)]) (rest := []) (lenOf pd_8 rfl) rfl (Nat.le_refl _) (hb hby d13_5) (fun _ _ => ⟨rfl, e4, (by decide : 0 + 0 ≤ _), (by decide : 0 + 0 ≤ _)⟩)
  dsimp only [Pt.U, Pt.locs, Pt.cells, Pt.slots] at X5 l5 y5 z5 st5 hQ5
  subst l5 y5 z5
  obtain ⟨rfl, Nq5, e5⟩ := hQ5
  have N5 := Fr.app N0 Nq5
  obtain ⟨fs, hr, hrun, hended, hW, hsame⟩ := X5.leave (v := none) (fun _ => rfl)
  refine ⟨_, _, castTop (ef_sciR m pI1 pI2) ?_, hrun, hended, _, _, rfl, ?_, ⟨_, rfl⟩, hW, hsame.mono (by decide) (by decide)⟩
  · show oS p e below s₁ m 0 #[.val (.int pI1), .val (.int pI2)] [] _
    refine XS.iloadN X0.here hx rfl (hb hby d13_0) rfl ?_
    refine XS.iloadN X0.here hx rfl (hb hby d13_1) rfl ?_
    refine st4 _ ?_
    refine st5 _ ?_
    refine XS.pop X5.here hx rfl (hb hby d13_8) rfl rfl ?_
    exact X5.returnOut hx Bd.returns (hb hby d13_9) hr
  · show Qsci Z pI1 pI2 h0 n0 _ T5.heap _
    rw [e5]
    exact ⟨rfl, N5, rfl⟩
theorem ef_sciN (m : MethodId) (pI1 : Int32) (pI2 : Int32) : entryFrame m #[(.int pI1), (.int pI2)] 2 = mkF m 0 #[.val (.int pI1), .val (.int pI2)] [] := by first | (simp [entryFrame, mkF, argsToLocals, Value.category]; done) | rfl
set_option maxRecDepth 65536 in
set_option maxHeartbeats 40000000 in
theorem sciN (l : Launch) (Z : State) (a0 : Array Value) (hw : ∀ d ∈ tables_1, d.before a0 Z = true) (ws : List Jvm.Cond) (pI1 : Int32) (pI2 : Int32) (h0 : Heap) (n0 : Nat) (Z0 : n0 ≤ h0.size) (S_Preconditions_SIOOBE_FORMATTER : Sta Z h0 "jdk/internal/util/Preconditions" "SIOOBE_FORMATTER" "Ljava/util/function/BiFunction;" .null) (hc5 : ¬ (pI1 < (0 : Int32))) (hc5' : pI1 < pI2) :
    oM l yN13 jdk_42_method_155_code 2 none ws ({ frames := 1, cells := 0, slots := 0, locals := 14 } : Room) #[(.int pI1), (.int pI2)] Z h0 (Qsci Z pI1 pI2 h0 n0) := by
  refine MetFree.of_bodySF (plainFor_of_name pn_2) hisR ?_
  intro p e s m args below meth c s₁ Bd hml0 hP hK
  obtain ⟨rfl, hZ, hh⟩ := hP
  have hx := Bd.exec
  have hby := Bd.bytes
  have hml : c.maxLocals = 2 := hml0
  have hown : s.vm.findClass "java/lang/String" = some m.cls := findClass_of_methodNamed Bd.named
  have hnm := (name_of_methodNamed Bd.named Bd.method).1
  have X0 : Stand p l e ({ frames := 1, cells := 0, slots := 0, locals := 14 } : Room) s m #[(.int pI1), (.int pI2)] below meth c s₁ [] 0 0 := Stand.of_body Bd
  have e0 : s₁.heap = h0 := by rw [← hh, Bd.state]; rfl
  have N0 := Fr.nil n0
  obtain ⟨T3, X3, e3, st3⟩ := getS2 X0 hx hZ hown (host := "") (Or.inl (ow hw 67 rfl)) Via.refl e0 S_Preconditions_SIOOBE_FORMATTER (g := (mkF m 2 #[.val (.int pI1), .val (.int pI2)] [(.int pI2), (.int pI1)])) rfl (hb hby d13_2)
  obtain ⟨_, _, ⟨T4, L4, k4, n4⟩, -, X4, ⟨Lc4, hQ4, l4, y4, z4⟩, st4⟩ := Jvm.LawKit.callS X3 hx (y := yN12) hown (mvT hZ (ow hw 69 rfl)) (mvT hZ (ow hw 70 rfl)) (mvT hZ (ow hw 68 rfl)) (mvT hZ (ow hw 71 rfl)) (by decide) (backOf (W := 0) (pciN l Z a0 hw [] pI1 pI2 h0 n0 Z0 hc5 hc5') hZ (ow hw 71 rfl) (ow hw 68 rfl) (by decide) (by decide)) (g := (mkF m 5 #[.val (.int pI1), .val (.int pI2)] [.null, (.int pI2), (.int pI1)])) rfl (by rw [hml]; rfl) (argsL := [(.int pI1), (.int pI2), .null]) (rest := []) (lenOf pd_8 rfl) rfl (Nat.le_refl _) (hb hby d13_5) (fun _ _ => ⟨rfl, e3, (by decide : 0 + 0 ≤ _), (by decide : 0 + 0 ≤ _)⟩)
  dsimp only [Pt.U, Pt.locs, Pt.cells, Pt.slots] at X4 l4 y4 z4 st4 hQ4
  subst l4 y4 z4
  obtain ⟨rfl, Nq4, e4⟩ := hQ4
  have N4 := Fr.app N0 Nq4
  obtain ⟨fs, hr, hrun, hended, hW, hsame⟩ := X4.leave (v := none) (fun _ => rfl)
  refine ⟨_, _, castTop (ef_sciN m pI1 pI2) ?_, hrun, hended, _, _, rfl, ?_, ⟨_, rfl⟩, hW, hsame.mono (by decide) (by decide)⟩
  · show oS p e below s₁ m 0 #[.val (.int pI1), .val (.int pI2)] [] _
    refine XS.iloadN X0.here hx rfl (hb hby d13_0) rfl ?_
    refine XS.iloadN X0.here hx rfl (hb hby d13_1) rfl ?_
    refine st3 _ ?_
    refine st4 _ ?_
    refine XS.pop X4.here hx rfl (hb hby d13_8) rfl rfl ?_
    exact X4.returnOut hx Bd.returns (hb hby d13_9) hr
  · show Qsci Z pI1 pI2 h0 n0 _ T4.heap _
    rw [e4]
    exact ⟨rfl, N4, rfl⟩
theorem sci (l : Launch) (Z : State) (a0 : Array Value) (hw : ∀ d ∈ tables_1, d.before a0 Z = true) (ws : List Jvm.Cond) (pI1 : Int32) (pI2 : Int32) (pV3 : Value) (h0 : Heap) (n0 : Nat) (Z0 : n0 ≤ h0.size) (S0 : Sta Z h0 "jdk/internal/util/Preconditions" "SIOOBE_FORMATTER" "Ljava/util/function/BiFunction;" pV3) (h1 : ¬ (pI1 < (0 : Int32))) (h2 : pI1 < pI2) (h3 : pV3.isRef = true) :
    oM l yN13 jdk_42_method_155_code 2 none ws ({ frames := 1, cells := 0, slots := 0, locals := 14 } : Room) #[(.int pI1), (.int pI2)] Z h0 (Qsci Z pI1 pI2 h0 n0) := by
  rcases ref_cases h3 with rfl | ⟨a, rfl⟩
  · exact sciN l Z a0 hw ws pI1 pI2 h0 n0 Z0 S0 h1 h2
  · exact sciR l Z a0 hw ws pI1 pI2 a h0 n0 Z0 S0 h1 h2
theorem d11_0 : decode jdk_42_method_154_code 0 = .ok (.getstatic 38, 3) := by decide +kernel
theorem d11_3 : decode jdk_42_method_154_code 3 = .ok (.ifCond .eq 14, 3) := by decide +kernel
theorem d11_6 : decode jdk_42_method_154_code 6 = .ok (.aload_n 0, 1) := by decide +kernel
theorem d11_7 : decode jdk_42_method_154_code 7 = .ok (.getfield 15, 3) := by decide +kernel
theorem d11_10 : decode jdk_42_method_154_code 10 = .ok (.ifCond .ne 7, 3) := by decide +kernel
theorem d11_13 : decode jdk_42_method_154_code 13 = .ok (.iconst 1, 1) := by decide +kernel
theorem d11_14 : decode jdk_42_method_154_code 14 = .ok (.goto 4, 3) := by decide +kernel
theorem d11_18 : decode jdk_42_method_154_code 18 = .ok (.ireturn, 1) := by decide +kernel
theorem ef_islL (m : MethodId) (pR1 : Addr) : entryFrame m #[(.ref pR1)] 1 = mkF m 0 #[.val (.ref pR1)] [] := by first | (simp [entryFrame, mkF, argsToLocals, Value.category]; done) | rfl
def QislL (Z : State) (pR1 : Addr) (pI2 : Int32) (h0 : Heap) (n0 : Nat) (v : Option Value) (h : Heap) (L : List Loc) : Prop := v = some (.int 1) ∧ Fr n0 L ∧ h = h0
set_option maxRecDepth 65536 in
set_option maxHeartbeats 40000000 in
theorem islL (l : Launch) (Z : State) (a0 : Array Value) (hw : ∀ d ∈ tables_1, d.before a0 Z = true) (ws : List Jvm.Cond) (pR1 : Addr) (pI2 : Int32) (h0 : Heap) (n0 : Nat) (Z0 : n0 ≤ h0.size) (S_String_COMPACT_STRINGS : Sta Z h0 "java/lang/String" "COMPACT_STRINGS" "Z" (.int pI2)) (F_coder_pR1 : Fld Z h0 pR1 "java/lang/String" "coder" "B" (.int 0)) (hc3 : ¬ (pI2 = (0 : Int32))) :
    oM l yN14 jdk_42_method_154_code 1 (some .boolean) ws ({ frames := 0, cells := 0, slots := 0, locals := 0 } : Room) #[(.ref pR1)] Z h0 (QislL Z pR1 pI2 h0 n0) := by
  refine MetFree.of_bodySF (plainFor_of_name pn_2) hisR ?_
  intro p e s m args below meth c s₁ Bd hml0 hP hK
  obtain ⟨rfl, hZ, hh⟩ := hP
  have hx := Bd.exec
  have hby := Bd.bytes
  have hml : c.maxLocals = 1 := hml0
  have hown : s.vm.findClass "java/lang/String" = some m.cls := findClass_of_methodNamed Bd.named
  have hnm := (name_of_methodNamed Bd.named Bd.method).1
  have X0 : Stand p l e ({ frames := 0, cells := 0, slots := 0, locals := 0 } : Room) s m #[(.ref pR1)] below meth c s₁ [] 0 0 := Stand.of_body Bd
  have e0 : s₁.heap = h0 := by rw [← hh, Bd.state]; rfl
  have N0 := Fr.nil n0
  obtain ⟨T3, X3, e3, st3⟩ := getS2 X0 hx hZ hown (host := "") (Or.inl (ow hw 18 rfl)) Via.refl e0 S_String_COMPACT_STRINGS (g := (mkF m 0 #[.val (.ref pR1)] [])) rfl (hb hby d11_0)
  obtain ⟨T4, X4, e4, st4⟩ := getF X3 hx hZ hown (host := "") (Or.inl (ow hw 30 rfl)) Via.refl e3 F_coder_pR1 (g := (mkF m 7 #[.val (.ref pR1)] [(.ref pR1)])) rfl rfl (hb hby d11_7)
  obtain ⟨fs, hr, hrun, hended, hW, hsame⟩ := X4.leave (v := some (.int 1)) (fun h => by rw [Bd.returns] at h; cases h)
  refine ⟨_, _, castTop (ef_islL m pR1) ?_, hrun, hended, _, _, rfl, ?_, ⟨_, rfl⟩, hW, hsame.mono (by decide) (by decide)⟩
  · show oS p e below s₁ m 0 #[.val (.ref pR1)] [] _
    refine st3 _ ?_
    refine XS.ifNo X3.here hx rfl (hb hby d11_3) rfl ((if0 _ _).trans (feq hc3).1) ?_
    refine XS.aloadN X3.here hx rfl (hb hby d11_6) rfl rfl ?_
    refine st4 _ ?_
    refine XS.ifNo X4.here hx rfl (hb hby d11_10) rfl ((if0 _ _).trans (teq (by decide : (0 : Int32) = (0 : Int32))).2) ?_
    refine XS.iconst X4.here hx rfl (hb hby d11_13) ?_
    show oS p e below T4 m 14 #[.val (.ref pR1)] [(.int 1)] _
    refine XS.goto X4.here hx rfl (pc0 := 14) (pc' := 18) rfl (hb hby d11_14) (by decide) (by decide) ?_
    exact retN X4 hx (t := .boolean) Bd.returns (by simp) (hb hby d11_18) hr
  · show QislL Z pR1 pI2 h0 n0 _ T4.heap _
    rw [e4]
    exact ⟨rfl, N0, rfl⟩
theorem d11_17 : decode jdk_42_method_154_code 17 = .ok (.iconst 0, 1) := by decide +kernel
theorem ef_islU (m : MethodId) (pR1 : Addr) : entryFrame m #[(.ref pR1)] 1 = mkF m 0 #[.val (.ref pR1)] [] := by first | (simp [entryFrame, mkF, argsToLocals, Value.category]; done) | rfl
def QislU (Z : State) (pR1 : Addr) (pI2 : Int32) (h0 : Heap) (n0 : Nat) (v : Option Value) (h : Heap) (L : List Loc) : Prop := v = some (.int 0) ∧ Fr n0 L ∧ h = h0
set_option maxRecDepth 65536 in
set_option maxHeartbeats 40000000 in
theorem islU (l : Launch) (Z : State) (a0 : Array Value) (hw : ∀ d ∈ tables_1, d.before a0 Z = true) (ws : List Jvm.Cond) (pR1 : Addr) (pI2 : Int32) (h0 : Heap) (n0 : Nat) (Z0 : n0 ≤ h0.size) (S_String_COMPACT_STRINGS : Sta Z h0 "java/lang/String" "COMPACT_STRINGS" "Z" (.int pI2)) (F_coder_pR1 : Fld Z h0 pR1 "java/lang/String" "coder" "B" (.int 1)) (hc3 : ¬ (pI2 = (0 : Int32))) :
    oM l yN14 jdk_42_method_154_code 1 (some .boolean) ws ({ frames := 0, cells := 0, slots := 0, locals := 0 } : Room) #[(.ref pR1)] Z h0 (QislU Z pR1 pI2 h0 n0) := by
  refine MetFree.of_bodySF (plainFor_of_name pn_2) hisR ?_
  intro p e s m args below meth c s₁ Bd hml0 hP hK
  obtain ⟨rfl, hZ, hh⟩ := hP
  have hx := Bd.exec
  have hby := Bd.bytes
  have hml : c.maxLocals = 1 := hml0
  have hown : s.vm.findClass "java/lang/String" = some m.cls := findClass_of_methodNamed Bd.named
  have hnm := (name_of_methodNamed Bd.named Bd.method).1
  have X0 : Stand p l e ({ frames := 0, cells := 0, slots := 0, locals := 0 } : Room) s m #[(.ref pR1)] below meth c s₁ [] 0 0 := Stand.of_body Bd
  have e0 : s₁.heap = h0 := by rw [← hh, Bd.state]; rfl
  have N0 := Fr.nil n0
  obtain ⟨T3, X3, e3, st3⟩ := getS2 X0 hx hZ hown (host := "") (Or.inl (ow hw 18 rfl)) Via.refl e0 S_String_COMPACT_STRINGS (g := (mkF m 0 #[.val (.ref pR1)] [])) rfl (hb hby d11_0)
  obtain ⟨T4, X4, e4, st4⟩ := getF X3 hx hZ hown (host := "") (Or.inl (ow hw 30 rfl)) Via.refl e3 F_coder_pR1 (g := (mkF m 7 #[.val (.ref pR1)] [(.ref pR1)])) rfl rfl (hb hby d11_7)
  obtain ⟨fs, hr, hrun, hended, hW, hsame⟩ := X4.leave (v := some (.int 0)) (fun h => by rw [Bd.returns] at h; cases h)
  refine ⟨_, _, castTop (ef_islU m pR1) ?_, hrun, hended, _, _, rfl, ?_, ⟨_, rfl⟩, hW, hsame.mono (by decide) (by decide)⟩
  · show oS p e below s₁ m 0 #[.val (.ref pR1)] [] _
    refine st3 _ ?_
    refine XS.ifNo X3.here hx rfl (hb hby d11_3) rfl ((if0 _ _).trans (feq hc3).1) ?_
    refine XS.aloadN X3.here hx rfl (hb hby d11_6) rfl rfl ?_
    refine st4 _ ?_
    refine XS.ifYes X4.here hx rfl (pc0 := 10) (pc' := 17) rfl (hb hby d11_10) rfl ((if0 _ _).trans (feq (by decide : ¬ ((1 : Int32) = (0 : Int32)))).2) (by decide) (by decide) ?_
    refine XS.iconst X4.here hx rfl (hb hby d11_17) ?_
    show oS p e below T4 m 18 #[.val (.ref pR1)] [(.int 0)] _
    exact retN X4 hx (t := .boolean) Bd.returns (by simp) (hb hby d11_18) hr
  · show QislU Z pR1 pI2 h0 n0 _ T4.heap _
    rw [e4]
    exact ⟨rfl, N0, rfl⟩
theorem d23_0 : decode jdk_52_method_6_code 0 = .ok (.aload_n 0, 1) := by decide +kernel
theorem d23_1 : decode jdk_52_method_6_code 1 = .ok (.arraylength, 1) := by decide +kernel
theorem d23_2 : decode jdk_52_method_6_code 2 = .ok (.iconst 1, 1) := by decide +kernel
theorem d23_3 : decode jdk_52_method_6_code 3 = .ok (.ishr, 1) := by decide +kernel
theorem d23_4 : decode jdk_52_method_6_code 4 = .ok (.ireturn, 1) := by decide +kernel
theorem ef_ulen (m : MethodId) (pR1 : Addr) : entryFrame m #[(.ref pR1)] 1 = mkF m 0 #[.val (.ref pR1)] [] := by first | (simp [entryFrame, mkF, argsToLocals, Value.category]; done) | rfl
def Qulen (Z : State) (pR1 : Addr) (pI801 : Int32) (pI802 : Int32) (pI803 : Int32) (pI804 : Int32) (pK2 : ClassId) (h0 : Heap) (n0 : Nat) (v : Option Value) (h : Heap) (L : List Loc) : Prop := v = some (.int 4) ∧ Fr n0 L ∧ h = h0
set_option maxRecDepth 65536 in
set_option maxHeartbeats 40000000 in
theorem ulen (l : Launch) (Z : State) (a0 : Array Value) (hw : ∀ d ∈ tables_1, d.before a0 Z = true) (ws : List Jvm.Cond) (pR1 : Addr) (pI801 : Int32) (pI802 : Int32) (pI803 : Int32) (pI804 : Int32) (pK2 : ClassId) (h0 : Heap) (n0 : Nat) (Z0 : n0 ≤ h0.size) (V_pR1 : Arv Z h0 pR1 pK2 .byte (8 : Int32) [(.int ((pI801 >>> ((0 : Int32) &&& 31)).toInt8.toInt32)), (.int ((pI801 >>> ((8 : Int32) &&& 31)).toInt8.toInt32)), (.int ((pI802 >>> ((0 : Int32) &&& 31)).toInt8.toInt32)), (.int ((pI802 >>> ((8 : Int32) &&& 31)).toInt8.toInt32)), (.int ((pI803 >>> ((0 : Int32) &&& 31)).toInt8.toInt32)), (.int ((pI803 >>> ((8 : Int32) &&& 31)).toInt8.toInt32)), (.int ((pI804 >>> ((0 : Int32) &&& 31)).toInt8.toInt32)), (.int ((pI804 >>> ((8 : Int32) &&& 31)).toInt8.toInt32))] (.int (0 : Int32))) :
    oM l yN15 jdk_52_method_6_code 1 (some .int) ws ({ frames := 0, cells := 0, slots := 0, locals := 0 } : Room) #[(.ref pR1)] Z h0 (Qulen Z pR1 pI801 pI802 pI803 pI804 pK2 h0 n0) := by
  refine MetFree.of_bodySF (plainFor_of_name pn_1) hisR ?_
  intro p e s m args below meth c s₁ Bd hml0 hP hK
  obtain ⟨rfl, hZ, hh⟩ := hP
  have hx := Bd.exec
  have hby := Bd.bytes
  have hml : c.maxLocals = 1 := hml0
  have hown : s.vm.findClass "java/lang/StringUTF16" = some m.cls := findClass_of_methodNamed Bd.named
  have hnm := (name_of_methodNamed Bd.named Bd.method).1
  have X0 : Stand p l e ({ frames := 0, cells := 0, slots := 0, locals := 0 } : Room) s m #[(.ref pR1)] below meth c s₁ [] 0 0 := Stand.of_body Bd
  have e0 : s₁.heap = h0 := by rw [← hh, Bd.state]; rfl
  have N0 := Fr.nil n0
  obtain ⟨clq3, Arq3, Akq3, Asq3, Anq3, Ahq3, Agq3⟩ := id V_pR1
  obtain ⟨fs, hr, hrun, hended, hW, hsame⟩ := X0.leave (v := some (.int 4)) (fun h => by rw [Bd.returns] at h; cases h)
  refine ⟨_, _, castTop (ef_ulen m pR1) ?_, hrun, hended, _, _, rfl, ?_, ⟨_, rfl⟩, hW, hsame.mono (by decide) (by decide)⟩
  · show oS p e below s₁ m 0 #[.val (.ref pR1)] [] _
    refine XS.aloadN X0.here hx rfl (hb hby d23_0) rfl rfl ?_
    refine X0.arraylength hx (by rw [e0]; exact Arq3.1) (State.isArrayOf_alike hZ.alike Arq3.2.1) (g := (mkF m 1 #[.val (.ref pR1)] [(.ref pR1)])) rfl rfl (hb hby d23_1) _ ?_
    rw [len_of Asq3 Anq3]
    refine XS.iconst X0.here hx rfl (hb hby d23_2) ?_
    refine XS.ishr X0.here hx rfl (hb hby d23_3) rfl ?_
    exact retI X0 hx Bd.returns (hb hby d23_4) hr
  · show Qulen Z pR1 pI801 pI802 pI803 pI804 pK2 h0 n0 _ s₁.heap _
    rw [e0]
    exact ⟨rfl, N0, rfl⟩
theorem d12_0 : decode jdk_43_method_2_code 0 = .ok (.iload_n 1, 1) := by decide +kernel
theorem d12_1 : decode jdk_43_method_2_code 1 = .ok (.aload_n 0, 1) := by decide +kernel
theorem d12_2 : decode jdk_43_method_2_code 2 = .ok (.arraylength, 1) := by decide +kernel
theorem d12_3 : decode jdk_43_method_2_code 3 = .ok (.invokestatic 9, 3) := by decide +kernel
theorem pd_9 : parseMethodDescriptor "(II)V" = some ⟨[.int, .int], none⟩ := by decide +kernel
theorem d12_6 : decode jdk_43_method_2_code 6 = .ok (.aload_n 0, 1) := by decide +kernel
theorem d12_7 : decode jdk_43_method_2_code 7 = .ok (.iload_n 1, 1) := by decide +kernel
theorem d12_8 : decode jdk_43_method_2_code 8 = .ok (.baload, 1) := by decide +kernel
theorem d12_9 : decode jdk_43_method_2_code 9 = .ok (.sipush 255, 3) := by decide +kernel
theorem d12_12 : decode jdk_43_method_2_code 12 = .ok (.iand, 1) := by decide +kernel
theorem d12_13 : decode jdk_43_method_2_code 13 = .ok (.i2c, 1) := by decide +kernel
theorem d12_14 : decode jdk_43_method_2_code 14 = .ok (.ireturn, 1) := by decide +kernel
theorem pn_4 : plainName "java/lang/StringLatin1" = true := by first | (simp [plainName, overriddenIn]; done) | decide +kernel
theorem ef_lca0 (m : MethodId) (pR1 : Addr) : entryFrame m #[(.ref pR1), (.int 0)] 2 = mkF m 0 #[.val (.ref pR1), .val (.int 0)] [] := by first | (simp [entryFrame, mkF, argsToLocals, Value.category]; done) | rfl
def Qlca0 (Z : State) (pR1 : Addr) (pI801 : Int32) (pI802 : Int32) (pI803 : Int32) (pI804 : Int32) (pK2 : ClassId) (pV4 : Value) (h0 : Heap) (n0 : Nat) (v : Option Value) (h : Heap) (L : List Loc) : Prop := v = some (.int pI801) ∧ Fr n0 L ∧ h = h0
set_option maxRecDepth 65536 in
set_option maxHeartbeats 40000000 in
theorem lca0 (l : Launch) (Z : State) (a0 : Array Value) (hw : ∀ d ∈ tables_1, d.before a0 Z = true) (ws : List Jvm.Cond) (pR1 : Addr) (pI801 : Int32) (pI802 : Int32) (pI803 : Int32) (pI804 : Int32) (pK2 : ClassId) (pV4 : Value) (h0 : Heap) (n0 : Nat) (Z0 : n0 ≤ h0.size) (V_pR1 : Arv Z h0 pR1 pK2 .byte (4 : Int32) [(.int (pI801.toInt8.toInt32)), (.int (pI802.toInt8.toInt32)), (.int (pI803.toInt8.toInt32)), (.int (pI804.toInt8.toInt32))] (.int (0 : Int32))) (S_Preconditions_SIOOBE_FORMATTER : Sta Z h0 "jdk/internal/util/Preconditions" "SIOOBE_FORMATTER" "Ljava/util/function/BiFunction;" pV4) (hrg : 0 ≤ pI801.toInt ∧ pI801.toInt ≤ 65535) (hl : ¬ ((255 : Int32) < pI801)) (hc3 : pV4.isRef = true) :
    oM l yN16 jdk_43_method_2_code 2 (some .char) ws ({ frames := 2, cells := 0, slots := 0, locals := 27 } : Room) #[(.ref pR1), (.int 0)] Z h0 (Qlca0 Z pR1 pI801 pI802 pI803 pI804 pK2 pV4 h0 n0) := by
  refine MetFree.of_bodySF (plainFor_of_name pn_4) hisR ?_
  intro p e s m args below meth c s₁ Bd hml0 hP hK
  obtain ⟨rfl, hZ, hh⟩ := hP
  have hx := Bd.exec
  have hby := Bd.bytes
  have hml : c.maxLocals = 2 := hml0
  have hown : s.vm.findClass "java/lang/StringLatin1" = some m.cls := findClass_of_methodNamed Bd.named
  have hnm := (name_of_methodNamed Bd.named Bd.method).1
  have X0 : Stand p l e ({ frames := 2, cells := 0, slots := 0, locals := 27 } : Room) s m #[(.ref pR1), (.int 0)] below meth c s₁ [] 0 0 := Stand.of_body Bd
  have e0 : s₁.heap = h0 := by rw [← hh, Bd.state]; rfl
  have N0 := Fr.nil n0
  obtain ⟨clq3, Arq3, Akq3, Asq3, Anq3, Ahq3, Agq3⟩ := id V_pR1
  obtain ⟨_, _, ⟨T5, L5, k5, n5⟩, -, X5, ⟨Lc5, hQ5, l5, y5, z5⟩, st5⟩ := Jvm.LawKit.callS X0 hx (y := yN13) hown (mvT hZ (ow hw 64 rfl)) (mvT hZ (ow hw 65 rfl)) (mvT hZ (ow hw 7 rfl)) (mvT hZ (ow hw 66 rfl)) (by decide) (backOf (W := 0) (sci l Z a0 hw [] (0 : Int32) (4 : Int32) pV4 h0 n0 Z0 S_Preconditions_SIOOBE_FORMATTER (by decide) (by decide) hc3) hZ (ow hw 66 rfl) (ow hw 7 rfl) (by decide) (by decide)) (g := (mkF m 3 #[.val (.ref pR1), .val (.int 0)] [(.int 4), (.int 0)])) rfl (by rw [hml]; rfl) (argsL := [(.int 0), (.int 4)]) (rest := []) (lenOf pd_9 rfl) rfl (Nat.le_refl _) (hb hby d12_3) (fun _ _ => ⟨rfl, e0, (by decide : 0 + 0 ≤ _), (by decide : 0 + 0 ≤ _)⟩)
  dsimp only [Pt.U, Pt.locs, Pt.cells, Pt.slots] at X5 l5 y5 z5 st5 hQ5
  subst l5 y5 z5
  obtain ⟨rfl, Nq5, e5⟩ := hQ5
  have N5 := Fr.app N0 Nq5
  obtain ⟨clq6, Arq6, Akq6, Asq6, Anq6, Ahq6, Agq6⟩ := id V_pR1
  have hin7 : ¬ ((0 : Int32) < 0 ∨ clq6.slots.size ≤ ((0 : Int32)).toNatClampNeg) := inb_of Asq6 ⟨by decide, by decide⟩
  obtain ⟨fs, hr, hrun, hended, hW, hsame⟩ := X5.leave (v := some (.int (nar .char (((pI801.toInt8.toInt32) &&& (255 : Int32)).toUInt32.toUInt16.toUInt32.toInt32)))) (fun h => by rw [Bd.returns] at h; cases h)
  refine ⟨_, _, castTop (ef_lca0 m pR1) ?_, hrun, hended, _, _, rfl, ?_, ⟨_, rfl⟩, hW, hsame.mono (by decide) (by decide)⟩
  · show oS p e below s₁ m 0 #[.val (.ref pR1), .val (.int 0)] [] _
    refine XS.iloadN X0.here hx rfl (hb hby d12_0) rfl ?_
    refine XS.aloadN X0.here hx rfl (hb hby d12_1) rfl rfl ?_
    refine X0.arraylength hx (by rw [e0]; exact Arq3.1) (State.isArrayOf_alike hZ.alike Arq3.2.1) (g := (mkF m 2 #[.val (.ref pR1), .val (.int 0)] [(.ref pR1), (.int 0)])) rfl rfl (hb hby d12_2) _ ?_
    rw [len_of Asq3 Anq3]
    refine st5 _ ?_
    refine XS.aloadN X5.here hx rfl (hb hby d12_6) rfl rfl ?_
    refine XS.iloadN X5.here hx rfl (hb hby d12_7) rfl ?_
    show oS p e below T5 m 8 #[.val (.ref pR1), .val (.int 0)] [(.int 0), (.ref pR1)] _
    refine X5.baloadBytes hx (j := (0 : Int32)) (v := (.int (pI801.toInt8.toInt32))) (by rw [e5]; exact Arq6.1) (State.isArrayOf_alike hZ.alike Arq6.2.1) Arq6.2.2 hin7 (Has.at Ahq6 hin7 rfl) (g := (mkF m 8 #[.val (.ref pR1), .val (.int 0)] [(.int 0), (.ref pR1)])) rfl rfl (hb hby d12_8) _ ?_
    refine XS.sipush X5.here hx rfl (hb hby d12_9) ?_
    refine XS.iand X5.here hx rfl (hb hby d12_12) rfl ?_
    refine XS.i2c X5.here hx rfl (hb hby d12_13) rfl ?_
    exact retN X5 hx (t := .char) Bd.returns (by simp) (hb hby d12_14) hr
  · show Qlca0 Z pR1 pI801 pI802 pI803 pI804 pK2 pV4 h0 n0 _ T5.heap _
    rw [e5]
    exact ⟨(by rw [own_latin hrg hl]), N5, rfl⟩
theorem d22_0 : decode jdk_52_method_91_code 0 = .ok (.iload_n 0, 1) := by decide +kernel
theorem d22_1 : decode jdk_52_method_91_code 1 = .ok (.aload_n 1, 1) := by decide +kernel
theorem d22_2 : decode jdk_52_method_91_code 2 = .ok (.invokestatic 48, 3) := by decide +kernel
theorem pd_10 : parseMethodDescriptor "([B)I" = some ⟨[(.array .byte)], some .int⟩ := by decide +kernel
theorem d22_5 : decode jdk_52_method_91_code 5 = .ok (.invokestatic 414, 3) := by decide +kernel
theorem d22_8 : decode jdk_52_method_91_code 8 = .ok (.return_, 1) := by decide +kernel
theorem ef_uci0 (m : MethodId) (pR1 : Addr) : entryFrame m #[(.int 0), (.ref pR1)] 2 = mkF m 0 #[.val (.int 0), .val (.ref pR1)] [] := by first | (simp [entryFrame, mkF, argsToLocals, Value.category]; done) | rfl
def Quci0 (Z : State) (pR1 : Addr) (pI801 : Int32) (pI802 : Int32) (pI803 : Int32) (pI804 : Int32) (pK2 : ClassId) (pV4 : Value) (h0 : Heap) (n0 : Nat) (v : Option Value) (h : Heap) (L : List Loc) : Prop := v = none ∧ Fr n0 L ∧ h = h0
set_option maxRecDepth 65536 in
set_option maxHeartbeats 40000000 in
theorem uci0 (l : Launch) (Z : State) (a0 : Array Value) (hw : ∀ d ∈ tables_1, d.before a0 Z = true) (ws : List Jvm.Cond) (pR1 : Addr) (pI801 : Int32) (pI802 : Int32) (pI803 : Int32) (pI804 : Int32) (pK2 : ClassId) (pV4 : Value) (h0 : Heap) (n0 : Nat) (Z0 : n0 ≤ h0.size) (V_pR1 : Arv Z h0 pR1 pK2 .byte (8 : Int32) [(.int ((pI801 >>> ((0 : Int32) &&& 31)).toInt8.toInt32)), (.int ((pI801 >>> ((8 : Int32) &&& 31)).toInt8.toInt32)), (.int ((pI802 >>> ((0 : Int32) &&& 31)).toInt8.toInt32)), (.int ((pI802 >>> ((8 : Int32) &&& 31)).toInt8.toInt32)), (.int ((pI803 >>> ((0 : Int32) &&& 31)).toInt8.toInt32)), (.int ((pI803 >>> ((8 : Int32) &&& 31)).toInt8.toInt32)), (.int ((pI804 >>> ((0 : Int32) &&& 31)).toInt8.toInt32)), (.int ((pI804 >>> ((8 : Int32) &&& 31)).toInt8.toInt32))] (.int (0 : Int32))) (S_Preconditions_SIOOBE_FORMATTER : Sta Z h0 "jdk/internal/util/Preconditions" "SIOOBE_FORMATTER" "Ljava/util/function/BiFunction;" pV4) (hc5 : pV4.isRef = true) :
    oM l yN17 jdk_52_method_91_code 2 none ws ({ frames := 2, cells := 0, slots := 0, locals := 27 } : Room) #[(.int 0), (.ref pR1)] Z h0 (Quci0 Z pR1 pI801 pI802 pI803 pI804 pK2 pV4 h0 n0) := by
  refine MetFree.of_bodySF (plainFor_of_name pn_1) hisR ?_
  intro p e s m args below meth c s₁ Bd hml0 hP hK
  obtain ⟨rfl, hZ, hh⟩ := hP
  have hx := Bd.exec
  have hby := Bd.bytes
  have hml : c.maxLocals = 2 := hml0
  have hown : s.vm.findClass "java/lang/StringUTF16" = some m.cls := findClass_of_methodNamed Bd.named
  have hnm := (name_of_methodNamed Bd.named Bd.method).1
  have X0 : Stand p l e ({ frames := 2, cells := 0, slots := 0, locals := 27 } : Room) s m #[(.int 0), (.ref pR1)] below meth c s₁ [] 0 0 := Stand.of_body Bd
  have e0 : s₁.heap = h0 := by rw [← hh, Bd.state]; rfl
  have N0 := Fr.nil n0
  obtain ⟨_, _, ⟨T3, L3, k3, n3⟩, -, X3, ⟨Lc3, hQ3, l3, y3, z3⟩, st3⟩ := Jvm.LawKit.callS X0 hx (y := yN15) hown (mvT hZ (ow hw 100 rfl)) (mvT hZ (ow hw 101 rfl)) (mvT hZ (ow hw 21 rfl)) (mvT hZ (ow hw 102 rfl)) (by decide) (backOf (W := 1) (ulen l Z a0 hw [] pR1 pI801 pI802 pI803 pI804 pK2 h0 n0 Z0 V_pR1) hZ (ow hw 102 rfl) (ow hw 21 rfl) (by decide) (by decide)) (g := (mkF m 2 #[.val (.int 0), .val (.ref pR1)] [(.ref pR1), (.int 0)])) rfl (by rw [hml]; rfl) (argsL := [(.ref pR1)]) (rest := [(.int 0)]) (lenOf pd_10 rfl) rfl (Nat.le_refl _) (hb hby d22_2) (fun _ _ => ⟨rfl, e0, (by decide : 0 + 0 ≤ _), (by decide : 0 + 0 ≤ _)⟩)
  dsimp only [Pt.U, Pt.locs, Pt.cells, Pt.slots] at X3 l3 y3 z3 st3 hQ3
  subst l3 y3 z3
  obtain ⟨rfl, Nq3, e3⟩ := hQ3
  have N3 := Fr.app N0 Nq3
  obtain ⟨_, _, ⟨T5, L5, k5, n5⟩, -, X5, ⟨Lc5, hQ5, l5, y5, z5⟩, st5⟩ := Jvm.LawKit.callS X3 hx (y := yN13) hown (mvT hZ (ow hw 103 rfl)) (mvT hZ (ow hw 65 rfl)) (mvT hZ (ow hw 7 rfl)) (mvT hZ (ow hw 66 rfl)) (by decide) (backOf (W := 0) (sci l Z a0 hw [] (0 : Int32) (4 : Int32) pV4 h0 n0 Z0 S_Preconditions_SIOOBE_FORMATTER (by decide) (by decide) hc5) hZ (ow hw 66 rfl) (ow hw 7 rfl) (by decide) (by decide)) (g := (mkF m 5 #[.val (.int 0), .val (.ref pR1)] [(.int 4), (.int 0)])) rfl (by rw [hml]; rfl) (argsL := [(.int 0), (.int 4)]) (rest := []) (lenOf pd_9 rfl) rfl (Nat.le_refl _) (hb hby d22_5) (fun _ _ => ⟨rfl, e3, (by decide : 0 + 0 ≤ _), (by decide : 0 + 0 ≤ _)⟩)
  dsimp only [Pt.U, Pt.locs, Pt.cells, Pt.slots] at X5 l5 y5 z5 st5 hQ5
  subst l5 y5 z5
  obtain ⟨rfl, Nq5, e5⟩ := hQ5
  have N5 := Fr.app N3 Nq5
  obtain ⟨fs, hr, hrun, hended, hW, hsame⟩ := X5.leave (v := none) (fun _ => rfl)
  refine ⟨_, _, castTop (ef_uci0 m pR1) ?_, hrun, hended, _, _, rfl, ?_, ⟨_, rfl⟩, hW, hsame.mono (by decide) (by decide)⟩
  · show oS p e below s₁ m 0 #[.val (.int 0), .val (.ref pR1)] [] _
    refine XS.iloadN X0.here hx rfl (hb hby d22_0) rfl ?_
    refine XS.aloadN X0.here hx rfl (hb hby d22_1) rfl rfl ?_
    refine st3 _ ?_
    refine st5 _ ?_
    exact X5.returnOut hx Bd.returns (hb hby d22_8) hr
  · show Quci0 Z pR1 pI801 pI802 pI803 pI804 pK2 pV4 h0 n0 _ T5.heap _
    rw [e5]
    exact ⟨rfl, N5, rfl⟩
theorem d21_0 : decode jdk_52_method_83_code 0 = .ok (.iload_n 1, 1) := by decide +kernel
theorem d21_1 : decode jdk_52_method_83_code 1 = .ok (.aload_n 0, 1) := by decide +kernel
theorem d21_2 : decode jdk_52_method_83_code 2 = .ok (.invokestatic 67, 3) := by decide +kernel
theorem pd_11 : parseMethodDescriptor "(I[B)V" = some ⟨[.int, (.array .byte)], none⟩ := by decide +kernel
theorem d21_5 : decode jdk_52_method_83_code 5 = .ok (.aload_n 0, 1) := by decide +kernel
theorem d21_6 : decode jdk_52_method_83_code 6 = .ok (.iload_n 1, 1) := by decide +kernel
theorem d21_7 : decode jdk_52_method_83_code 7 = .ok (.invokestatic 71, 3) := by decide +kernel
theorem d21_10 : decode jdk_52_method_83_code 10 = .ok (.ireturn, 1) := by decide +kernel
theorem ef_uca0 (m : MethodId) (pR1 : Addr) : entryFrame m #[(.ref pR1), (.int 0)] 2 = mkF m 0 #[.val (.ref pR1), .val (.int 0)] [] := by first | (simp [entryFrame, mkF, argsToLocals, Value.category]; done) | rfl
def Quca0 (Z : State) (pR1 : Addr) (pI801 : Int32) (pI802 : Int32) (pI803 : Int32) (pI804 : Int32) (pK2 : ClassId) (pV3 : Value) (h0 : Heap) (n0 : Nat) (v : Option Value) (h : Heap) (L : List Loc) : Prop := v = some (.int pI801) ∧ Fr n0 L ∧ h = h0
set_option maxRecDepth 65536 in
set_option maxHeartbeats 40000000 in
theorem uca0 (l : Launch) (Z : State) (a0 : Array Value) (hw : ∀ d ∈ tables_1, d.before a0 Z = true) (ws : List Jvm.Cond) (pR1 : Addr) (pI801 : Int32) (pI802 : Int32) (pI803 : Int32) (pI804 : Int32) (pK2 : ClassId) (pV3 : Value) (h0 : Heap) (n0 : Nat) (Z0 : n0 ≤ h0.size) (V_pR1 : Arv Z h0 pR1 pK2 .byte (8 : Int32) [(.int ((pI801 >>> ((0 : Int32) &&& 31)).toInt8.toInt32)), (.int ((pI801 >>> ((8 : Int32) &&& 31)).toInt8.toInt32)), (.int ((pI802 >>> ((0 : Int32) &&& 31)).toInt8.toInt32)), (.int ((pI802 >>> ((8 : Int32) &&& 31)).toInt8.toInt32)), (.int ((pI803 >>> ((0 : Int32) &&& 31)).toInt8.toInt32)), (.int ((pI803 >>> ((8 : Int32) &&& 31)).toInt8.toInt32)), (.int ((pI804 >>> ((0 : Int32) &&& 31)).toInt8.toInt32)), (.int ((pI804 >>> ((8 : Int32) &&& 31)).toInt8.toInt32))] (.int (0 : Int32))) (S_Preconditions_SIOOBE_FORMATTER : Sta Z h0 "jdk/internal/util/Preconditions" "SIOOBE_FORMATTER" "Ljava/util/function/BiFunction;" pV3) (S_StringUTF16__assertionsDisabled : Sta Z h0 "java/lang/StringUTF16" "$assertionsDisabled" "Z" (.int 1)) (S_StringUTF16_HI_BYTE_SHIFT : Sta Z h0 "java/lang/StringUTF16" "HI_BYTE_SHIFT" "I" (.int 0)) (S_StringUTF16_LO_BYTE_SHIFT : Sta Z h0 "java/lang/StringUTF16" "LO_BYTE_SHIFT" "I" (.int 8)) (hrg : 0 ≤ pI801.toInt ∧ pI801.toInt ≤ 65535) (hc2 : pV3.isRef = true) :
    oM l yN18 jdk_52_method_83_code 2 (some .char) ws ({ frames := 3, cells := 0, slots := 0, locals := 40 } : Room) #[(.ref pR1), (.int 0)] Z h0 (Quca0 Z pR1 pI801 pI802 pI803 pI804 pK2 pV3 h0 n0) := by
  refine MetFree.of_bodySF (plainFor_of_name pn_1) hisR ?_
  intro p e s m args below meth c s₁ Bd hml0 hP hK
  obtain ⟨rfl, hZ, hh⟩ := hP
  have hx := Bd.exec
  have hby := Bd.bytes
  have hml : c.maxLocals = 2 := hml0
  have hown : s.vm.findClass "java/lang/StringUTF16" = some m.cls := findClass_of_methodNamed Bd.named
  have hnm := (name_of_methodNamed Bd.named Bd.method).1
  have X0 : Stand p l e ({ frames := 3, cells := 0, slots := 0, locals := 40 } : Room) s m #[(.ref pR1), (.int 0)] below meth c s₁ [] 0 0 := Stand.of_body Bd
  have e0 : s₁.heap = h0 := by rw [← hh, Bd.state]; rfl
  have N0 := Fr.nil n0
  obtain ⟨_, _, ⟨T4, L4, k4, n4⟩, -, X4, ⟨Lc4, hQ4, l4, y4, z4⟩, st4⟩ := Jvm.LawKit.callS X0 hx (y := yN17) hown (mvT hZ (ow hw 97 rfl)) (mvT hZ (ow hw 98 rfl)) (mvT hZ (ow hw 21 rfl)) (mvT hZ (ow hw 99 rfl)) (by decide) (backOf (W := 0) (uci0 l Z a0 hw [] pR1 pI801 pI802 pI803 pI804 pK2 pV3 h0 n0 Z0 V_pR1 S_Preconditions_SIOOBE_FORMATTER hc2) hZ (ow hw 99 rfl) (ow hw 21 rfl) (by decide) (by decide)) (g := (mkF m 2 #[.val (.ref pR1), .val (.int 0)] [(.ref pR1), (.int 0)])) rfl (by rw [hml]; rfl) (argsL := [(.int 0), (.ref pR1)]) (rest := []) (lenOf pd_11 rfl) rfl (Nat.le_refl _) (hb hby d21_2) (fun _ _ => ⟨rfl, e0, (by decide : 0 + 0 ≤ _), (by decide : 0 + 0 ≤ _)⟩)
  dsimp only [Pt.U, Pt.locs, Pt.cells, Pt.slots] at X4 l4 y4 z4 st4 hQ4
  subst l4 y4 z4
  obtain ⟨rfl, Nq4, e4⟩ := hQ4
  have N4 := Fr.app N0 Nq4
  obtain ⟨_, _, ⟨T5, L5, k5, n5⟩, -, X5, ⟨Lc5, hQ5, l5, y5, z5⟩, st5⟩ := Jvm.LawKit.callS X4 hx (y := yN7) hown (mvT hZ (ow hw 91 rfl)) (mvT hZ (ow hw 92 rfl)) (mvT hZ (ow hw 21 rfl)) (mvT hZ (ow hw 93 rfl)) (by decide) (backOf (W := 0) (gc0 l Z a0 hw [] pR1 pI801 pI802 pI803 pI804 pK2 h0 n0 Z0 S_StringUTF16__assertionsDisabled V_pR1 S_StringUTF16_HI_BYTE_SHIFT S_StringUTF16_LO_BYTE_SHIFT hrg) hZ (ow hw 93 rfl) (ow hw 21 rfl) (by decide) (by decide)) (g := (mkF m 7 #[.val (.ref pR1), .val (.int 0)] [(.int 0), (.ref pR1)])) rfl (by rw [hml]; rfl) (argsL := [(.ref pR1), (.int 0)]) (rest := []) (lenOf pd_5 rfl) rfl (Nat.le_refl _) (hb hby d21_7) (fun _ _ => ⟨rfl, e4, (by decide : 0 + 0 ≤ _), (by decide : 0 + 0 ≤ _)⟩)
  dsimp only [Pt.U, Pt.locs, Pt.cells, Pt.slots] at X5 l5 y5 z5 st5 hQ5
  subst l5 y5 z5
  obtain ⟨rfl, Nq5, e5⟩ := hQ5
  have N5 := Fr.app N4 Nq5
  obtain ⟨fs, hr, hrun, hended, hW, hsame⟩ := X5.leave (v := some (.int (nar .char pI801))) (fun h => by rw [Bd.returns] at h; cases h)
  refine ⟨_, _, castTop (ef_uca0 m pR1) ?_, hrun, hended, _, _, rfl, ?_, ⟨_, rfl⟩, hW, hsame.mono (by decide) (by decide)⟩
  · show oS p e below s₁ m 0 #[.val (.ref pR1), .val (.int 0)] [] _
    refine XS.iloadN X0.here hx rfl (hb hby d21_0) rfl ?_
    refine XS.aloadN X0.here hx rfl (hb hby d21_1) rfl rfl ?_
    refine st4 _ ?_
    refine XS.aloadN X4.here hx rfl (hb hby d21_5) rfl rfl ?_
    refine XS.iloadN X4.here hx rfl (hb hby d21_6) rfl ?_
    refine st5 _ ?_
    show oS p e below T5 m 10 #[.val (.ref pR1), .val (.int 0)] [(.int pI801)] _
    exact retN X5 hx (t := .char) Bd.returns (by simp) (hb hby d21_10) hr
  · show Quca0 Z pR1 pI801 pI802 pI803 pI804 pK2 pV3 h0 n0 _ T5.heap _
    rw [e5]
    exact ⟨(by rw [own_narc hrg]), N5, rfl⟩
theorem d10_0 : decode jdk_42_method_56_code 0 = .ok (.aload_n 0, 1) := by decide +kernel
theorem d10_1 : decode jdk_42_method_56_code 1 = .ok (.invokevirtual 492, 3) := by decide +kernel
theorem pd_12 : parseMethodDescriptor "()Z" = some ⟨[], some .boolean⟩ := by decide +kernel
theorem d10_4 : decode jdk_42_method_56_code 4 = .ok (.ifCond .eq 12, 3) := by decide +kernel
theorem d10_7 : decode jdk_42_method_56_code 7 = .ok (.aload_n 0, 1) := by decide +kernel
theorem d10_8 : decode jdk_42_method_56_code 8 = .ok (.getfield 9, 3) := by decide +kernel
theorem d10_11 : decode jdk_42_method_56_code 11 = .ok (.iload_n 1, 1) := by decide +kernel
theorem d10_12 : decode jdk_42_method_56_code 12 = .ok (.invokestatic 495, 3) := by decide +kernel
theorem d10_15 : decode jdk_42_method_56_code 15 = .ok (.ireturn, 1) := by decide +kernel
theorem ef_scaL0 (m : MethodId) (pR1 : Addr) : entryFrame m #[(.ref pR1), (.int 0)] 2 = mkF m 0 #[.val (.ref pR1), .val (.int 0)] [] := by first | (simp [entryFrame, mkF, argsToLocals, Value.category]; done) | rfl
def QscaL0 (Z : State) (pR1 : Addr) (pI2 : Int32) (pR4 : Addr) (pI801 : Int32) (pI802 : Int32) (pI803 : Int32) (pI804 : Int32) (pK6 : ClassId) (pV7 : Value) (h0 : Heap) (n0 : Nat) (v : Option Value) (h : Heap) (L : List Loc) : Prop := v = some (.int pI801) ∧ Fr n0 L ∧ h = h0
set_option maxRecDepth 65536 in
set_option maxHeartbeats 40000000 in
theorem scaL0 (l : Launch) (Z : State) (a0 : Array Value) (hw : ∀ d ∈ tables_1, d.before a0 Z = true) (ws : List Jvm.Cond) (pR1 : Addr) (pI2 : Int32) (pR4 : Addr) (pI801 : Int32) (pI802 : Int32) (pI803 : Int32) (pI804 : Int32) (pK6 : ClassId) (pV7 : Value) (h0 : Heap) (n0 : Nat) (Z0 : n0 ≤ h0.size) (S_String_COMPACT_STRINGS : Sta Z h0 "java/lang/String" "COMPACT_STRINGS" "Z" (.int pI2)) (F_coder_pR1 : Fld Z h0 pR1 "java/lang/String" "coder" "B" (.int 0)) (E_pR1 : Exa Z h0 pR1 "java/lang/String") (F_value_pR1 : Fld Z h0 pR1 "java/lang/String" "value" "[B" (.ref pR4)) (V_pR4 : Arv Z h0 pR4 pK6 .byte (4 : Int32) [(.int (pI801.toInt8.toInt32)), (.int (pI802.toInt8.toInt32)), (.int (pI803.toInt8.toInt32)), (.int (pI804.toInt8.toInt32))] (.int (0 : Int32))) (S_Preconditions_SIOOBE_FORMATTER : Sta Z h0 "jdk/internal/util/Preconditions" "SIOOBE_FORMATTER" "Ljava/util/function/BiFunction;" pV7) (hrg : 0 ≤ pI801.toInt ∧ pI801.toInt ≤ 65535) (hl : ¬ ((255 : Int32) < pI801)) (hc1 : ¬ (pI2 = (0 : Int32))) (hc12 : pV7.isRef = true) :
    oM l yN19 jdk_42_method_56_code 2 (some .char) ws ({ frames := 3, cells := 0, slots := 0, locals := 40 } : Room) #[(.ref pR1), (.int 0)] Z h0 (QscaL0 Z pR1 pI2 pR4 pI801 pI802 pI803 pI804 pK6 pV7 h0 n0) := by
  refine MetFree.of_bodySF (plainFor_of_name pn_2) hisR ?_
  intro p e s m args below meth c s₁ Bd hml0 hP hK
  obtain ⟨rfl, hZ, hh⟩ := hP
  have hx := Bd.exec
  have hby := Bd.bytes
  have hml : c.maxLocals = 2 := hml0
  have hown : s.vm.findClass "java/lang/String" = some m.cls := findClass_of_methodNamed Bd.named
  have hnm := (name_of_methodNamed Bd.named Bd.method).1
  have X0 : Stand p l e ({ frames := 3, cells := 0, slots := 0, locals := 40 } : Room) s m #[(.ref pR1), (.int 0)] below meth c s₁ [] 0 0 := Stand.of_body Bd
  have e0 : s₁.heap = h0 := by rw [← hh, Bd.state]; rfl
  have N0 := Fr.nil n0
  obtain ⟨cq3, kq3, q3a, q3b, q3c⟩ := isOf hZ e0 E_pR1
  obtain ⟨_, _, ⟨T3, L3, k3, n3⟩, -, X3, ⟨Lc3, hQ3, l3, y3, z3⟩, st3⟩ := X0.virtualBack hx (y := yN14) (z := yN14) hown (mvT hZ (ow hw 55 rfl)) (mvT hZ (ow hw 56 rfl)) (notFace_of_selects (args := #[]) (mvT hZ (ow hw 58 rfl))) (mvT hZ (ow hw 58 rfl)) (mvT hZ (ow hw 57 rfl)) (by decide) (backOf (W := 0) (islL l Z a0 hw [] pR1 pI2 h0 n0 Z0 S_String_COMPACT_STRINGS F_coder_pR1 hc1) hZ (ow hw 59 rfl) (ow hw 7 rfl) (by decide) (by decide)) q3a q3c (g := (mkF m 1 #[.val (.ref pR1), .val (.int 0)] [(.ref pR1)])) rfl (by rw [hml]; rfl) (Steps.refl _) (argsL := []) (rest := []) (lenOf pd_12 rfl) rfl (Nat.le_refl _) (hb hby d10_1) (fun _ _ => ⟨rfl, e0, (by decide : 0 + 0 ≤ _), (by decide : 0 + 0 ≤ _)⟩)
  dsimp only [Pt.U, Pt.locs, Pt.cells, Pt.slots] at X3 l3 y3 z3 st3 hQ3
  subst l3 y3 z3
  obtain ⟨rfl, Nq3, e3⟩ := hQ3
  have N3 := Fr.app N0 Nq3
  obtain ⟨T5, X5, e5, st5⟩ := getF X3 hx hZ hown (host := "") (Or.inl (ow hw 32 rfl)) Via.refl e3 F_value_pR1 (g := (mkF m 8 #[.val (.ref pR1), .val (.int 0)] [(.ref pR1)])) rfl rfl (hb hby d10_8)
  obtain ⟨_, _, ⟨T8, L8, k8, n8⟩, -, X8, ⟨Lc8, hQ8, l8, y8, z8⟩, st8⟩ := Jvm.LawKit.callS X5 hx (y := yN16) hown (mvT hZ (ow hw 60 rfl)) (mvT hZ (ow hw 61 rfl)) (mvT hZ (ow hw 62 rfl)) (mvT hZ (ow hw 63 rfl)) (by decide) (backOf (W := 0) (lca0 l Z a0 hw [] pR4 pI801 pI802 pI803 pI804 pK6 pV7 h0 n0 Z0 V_pR4 S_Preconditions_SIOOBE_FORMATTER hrg hl hc12) hZ (ow hw 63 rfl) (ow hw 62 rfl) (by decide) (by decide)) (g := (mkF m 12 #[.val (.ref pR1), .val (.int 0)] [(.int 0), (.ref pR4)])) rfl (by rw [hml]; rfl) (argsL := [(.ref pR4), (.int 0)]) (rest := []) (lenOf pd_5 rfl) rfl (Nat.le_refl _) (hb hby d10_12) (fun _ _ => ⟨rfl, e5, (by decide : 0 + 0 ≤ _), (by decide : 0 + 0 ≤ _)⟩)
  dsimp only [Pt.U, Pt.locs, Pt.cells, Pt.slots] at X8 l8 y8 z8 st8 hQ8
  subst l8 y8 z8
  obtain ⟨rfl, Nq8, e8⟩ := hQ8
  have N8 := Fr.app N3 Nq8
  obtain ⟨fs, hr, hrun, hended, hW, hsame⟩ := X8.leave (v := some (.int (nar .char pI801))) (fun h => by rw [Bd.returns] at h; cases h)
  refine ⟨_, _, castTop (ef_scaL0 m pR1) ?_, hrun, hended, _, _, rfl, ?_, ⟨_, rfl⟩, hW, hsame.mono (by decide) (by decide)⟩
  · show oS p e below s₁ m 0 #[.val (.ref pR1), .val (.int 0)] [] _
    refine XS.aloadN X0.here hx rfl (hb hby d10_0) rfl rfl ?_
    refine st3.trans ?_
    refine XS.ifNo X3.here hx rfl (hb hby d10_4) rfl ((if0 _ _).trans (feq (by decide : ¬ ((1 : Int32) = (0 : Int32)))).1) ?_
    refine XS.aloadN X3.here hx rfl (hb hby d10_7) rfl rfl ?_
    refine st5 _ ?_
    refine XS.iloadN X5.here hx rfl (hb hby d10_11) rfl ?_
    show oS p e below T5 m 12 #[.val (.ref pR1), .val (.int 0)] [(.int 0), (.ref pR4)] _
    refine st8 _ ?_
    exact retN X8 hx (t := .char) Bd.returns (by simp) (hb hby d10_15) hr
  · show QscaL0 Z pR1 pI2 pR4 pI801 pI802 pI803 pI804 pK6 pV7 h0 n0 _ T8.heap _
    rw [e8]
    exact ⟨(by rw [own_narc hrg]), N8, rfl⟩
theorem d10_16 : decode jdk_42_method_56_code 16 = .ok (.aload_n 0, 1) := by decide +kernel
theorem d10_17 : decode jdk_42_method_56_code 17 = .ok (.getfield 9, 3) := by decide +kernel
theorem d10_20 : decode jdk_42_method_56_code 20 = .ok (.iload_n 1, 1) := by decide +kernel
theorem d10_21 : decode jdk_42_method_56_code 21 = .ok (.invokestatic 498, 3) := by decide +kernel
theorem d10_24 : decode jdk_42_method_56_code 24 = .ok (.ireturn, 1) := by decide +kernel
theorem ef_scaU0 (m : MethodId) (pR1 : Addr) : entryFrame m #[(.ref pR1), (.int 0)] 2 = mkF m 0 #[.val (.ref pR1), .val (.int 0)] [] := by first | (simp [entryFrame, mkF, argsToLocals, Value.category]; done) | rfl
def QscaU0 (Z : State) (pR1 : Addr) (pI2 : Int32) (pR4 : Addr) (pI801 : Int32) (pI802 : Int32) (pI803 : Int32) (pI804 : Int32) (pK6 : ClassId) (pV7 : Value) (h0 : Heap) (n0 : Nat) (v : Option Value) (h : Heap) (L : List Loc) : Prop := v = some (.int pI801) ∧ Fr n0 L ∧ h = h0
set_option maxRecDepth 65536 in
set_option maxHeartbeats 40000000 in
theorem scaU0 (l : Launch) (Z : State) (a0 : Array Value) (hw : ∀ d ∈ tables_1, d.before a0 Z = true) (ws : List Jvm.Cond) (pR1 : Addr) (pI2 : Int32) (pR4 : Addr) (pI801 : Int32) (pI802 : Int32) (pI803 : Int32) (pI804 : Int32) (pK6 : ClassId) (pV7 : Value) (h0 : Heap) (n0 : Nat) (Z0 : n0 ≤ h0.size) (S_String_COMPACT_STRINGS : Sta Z h0 "java/lang/String" "COMPACT_STRINGS" "Z" (.int pI2)) (F_coder_pR1 : Fld Z h0 pR1 "java/lang/String" "coder" "B" (.int 1)) (E_pR1 : Exa Z h0 pR1 "java/lang/String") (F_value_pR1 : Fld Z h0 pR1 "java/lang/String" "value" "[B" (.ref pR4)) (V_pR4 : Arv Z h0 pR4 pK6 .byte (8 : Int32) [(.int ((pI801 >>> ((0 : Int32) &&& 31)).toInt8.toInt32)), (.int ((pI801 >>> ((8 : Int32) &&& 31)).toInt8.toInt32)), (.int ((pI802 >>> ((0 : Int32) &&& 31)).toInt8.toInt32)), (.int ((pI802 >>> ((8 : Int32) &&& 31)).toInt8.toInt32)), (.int ((pI803 >>> ((0 : Int32) &&& 31)).toInt8.toInt32)), (.int ((pI803 >>> ((8 : Int32) &&& 31)).toInt8.toInt32)), (.int ((pI804 >>> ((0 : Int32) &&& 31)).toInt8.toInt32)), (.int ((pI804 >>> ((8 : Int32) &&& 31)).toInt8.toInt32))] (.int (0 : Int32))) (S_Preconditions_SIOOBE_FORMATTER : Sta Z h0 "jdk/internal/util/Preconditions" "SIOOBE_FORMATTER" "Ljava/util/function/BiFunction;" pV7) (S_StringUTF16__assertionsDisabled : Sta Z h0 "java/lang/StringUTF16" "$assertionsDisabled" "Z" (.int 1)) (S_StringUTF16_HI_BYTE_SHIFT : Sta Z h0 "java/lang/StringUTF16" "HI_BYTE_SHIFT" "I" (.int 0)) (S_StringUTF16_LO_BYTE_SHIFT : Sta Z h0 "java/lang/StringUTF16" "LO_BYTE_SHIFT" "I" (.int 8)) (hrg : 0 ≤ pI801.toInt ∧ pI801.toInt ≤ 65535) (hc1 : ¬ (pI2 = (0 : Int32))) (hc21 : pV7.isRef = true) :
    oM l yN19 jdk_42_method_56_code 2 (some .char) ws ({ frames := 4, cells := 0, slots := 0, locals := 53 } : Room) #[(.ref pR1), (.int 0)] Z h0 (QscaU0 Z pR1 pI2 pR4 pI801 pI802 pI803 pI804 pK6 pV7 h0 n0) := by
  refine MetFree.of_bodySF (plainFor_of_name pn_2) hisR ?_
  intro p e s m args below meth c s₁ Bd hml0 hP hK
  obtain ⟨rfl, hZ, hh⟩ := hP
  have hx := Bd.exec
  have hby := Bd.bytes
  have hml : c.maxLocals = 2 := hml0
  have hown : s.vm.findClass "java/lang/String" = some m.cls := findClass_of_methodNamed Bd.named
  have hnm := (name_of_methodNamed Bd.named Bd.method).1
  have X0 : Stand p l e ({ frames := 4, cells := 0, slots := 0, locals := 53 } : Room) s m #[(.ref pR1), (.int 0)] below meth c s₁ [] 0 0 := Stand.of_body Bd
  have e0 : s₁.heap = h0 := by rw [← hh, Bd.state]; rfl
  have N0 := Fr.nil n0
  obtain ⟨cq3, kq3, q3a, q3b, q3c⟩ := isOf hZ e0 E_pR1
  obtain ⟨_, _, ⟨T3, L3, k3, n3⟩, -, X3, ⟨Lc3, hQ3, l3, y3, z3⟩, st3⟩ := X0.virtualBack hx (y := yN14) (z := yN14) hown (mvT hZ (ow hw 55 rfl)) (mvT hZ (ow hw 56 rfl)) (notFace_of_selects (args := #[]) (mvT hZ (ow hw 58 rfl))) (mvT hZ (ow hw 58 rfl)) (mvT hZ (ow hw 57 rfl)) (by decide) (backOf (W := 0) (islU l Z a0 hw [] pR1 pI2 h0 n0 Z0 S_String_COMPACT_STRINGS F_coder_pR1 hc1) hZ (ow hw 59 rfl) (ow hw 7 rfl) (by decide) (by decide)) q3a q3c (g := (mkF m 1 #[.val (.ref pR1), .val (.int 0)] [(.ref pR1)])) rfl (by rw [hml]; rfl) (Steps.refl _) (argsL := []) (rest := []) (lenOf pd_12 rfl) rfl (Nat.le_refl _) (hb hby d10_1) (fun _ _ => ⟨rfl, e0, (by decide : 0 + 0 ≤ _), (by decide : 0 + 0 ≤ _)⟩)
  dsimp only [Pt.U, Pt.locs, Pt.cells, Pt.slots] at X3 l3 y3 z3 st3 hQ3
  subst l3 y3 z3
  obtain ⟨rfl, Nq3, e3⟩ := hQ3
  have N3 := Fr.app N0 Nq3
  obtain ⟨T5, X5, e5, st5⟩ := getF X3 hx hZ hown (host := "") (Or.inl (ow hw 32 rfl)) Via.refl e3 F_value_pR1 (g := (mkF m 17 #[.val (.ref pR1), .val (.int 0)] [(.ref pR1)])) rfl rfl (hb hby d10_17)
  obtain ⟨_, _, ⟨T8, L8, k8, n8⟩, -, X8, ⟨Lc8, hQ8, l8, y8, z8⟩, st8⟩ := Jvm.LawKit.callS X5 hx (y := yN18) hown (mvT hZ (ow hw 94 rfl)) (mvT hZ (ow hw 95 rfl)) (mvT hZ (ow hw 21 rfl)) (mvT hZ (ow hw 96 rfl)) (by decide) (backOf (W := 0) (uca0 l Z a0 hw [] pR4 pI801 pI802 pI803 pI804 pK6 pV7 h0 n0 Z0 V_pR4 S_Preconditions_SIOOBE_FORMATTER S_StringUTF16__assertionsDisabled S_StringUTF16_HI_BYTE_SHIFT S_StringUTF16_LO_BYTE_SHIFT hrg hc21) hZ (ow hw 96 rfl) (ow hw 21 rfl) (by decide) (by decide)) (g := (mkF m 21 #[.val (.ref pR1), .val (.int 0)] [(.int 0), (.ref pR4)])) rfl (by rw [hml]; rfl) (argsL := [(.ref pR4), (.int 0)]) (rest := []) (lenOf pd_5 rfl) rfl (Nat.le_refl _) (hb hby d10_21) (fun _ _ => ⟨rfl, e5, (by decide : 0 + 0 ≤ _), (by decide : 0 + 0 ≤ _)⟩)
  dsimp only [Pt.U, Pt.locs, Pt.cells, Pt.slots] at X8 l8 y8 z8 st8 hQ8
  subst l8 y8 z8
  obtain ⟨rfl, Nq8, e8⟩ := hQ8
  have N8 := Fr.app N3 Nq8
  obtain ⟨fs, hr, hrun, hended, hW, hsame⟩ := X8.leave (v := some (.int (nar .char pI801))) (fun h => by rw [Bd.returns] at h; cases h)
  refine ⟨_, _, castTop (ef_scaU0 m pR1) ?_, hrun, hended, _, _, rfl, ?_, ⟨_, rfl⟩, hW, hsame.mono (by decide) (by decide)⟩
  · show oS p e below s₁ m 0 #[.val (.ref pR1), .val (.int 0)] [] _
    refine XS.aloadN X0.here hx rfl (hb hby d10_0) rfl rfl ?_
    refine st3.trans ?_
    refine XS.ifYes X3.here hx rfl (pc0 := 4) (pc' := 16) rfl (hb hby d10_4) rfl ((if0 _ _).trans (teq (by decide : (0 : Int32) = (0 : Int32))).1) (by decide) (by decide) ?_
    refine XS.aloadN X3.here hx rfl (hb hby d10_16) rfl rfl ?_
    refine st5 _ ?_
    refine XS.iloadN X5.here hx rfl (hb hby d10_20) rfl ?_
    show oS p e below T5 m 21 #[.val (.ref pR1), .val (.int 0)] [(.int 0), (.ref pR4)] _
    refine st8 _ ?_
    exact retN X8 hx (t := .char) Bd.returns (by simp) (hb hby d10_24) hr
  · show QscaU0 Z pR1 pI2 pR4 pI801 pI802 pI803 pI804 pK6 pV7 h0 n0 _ T8.heap _
    rw [e8]
    exact ⟨(by rw [own_narc hrg]), N8, rfl⟩
theorem d9_0 : decode prog_18_method_3_code 0 = .ok (.aload_n 0, 1) := by decide +kernel
theorem d9_1 : decode prog_18_method_3_code 1 = .ok (.getfield 13, 3) := by decide +kernel
theorem d9_4 : decode prog_18_method_3_code 4 = .ok (.iload_n 1, 1) := by decide +kernel
theorem d9_5 : decode prog_18_method_3_code 5 = .ok (.invokevirtual 17, 3) := by decide +kernel
theorem pd_13 : parseMethodDescriptor "(I)C" = some ⟨[.int], some .char⟩ := by decide +kernel
theorem d9_8 : decode prog_18_method_3_code 8 = .ok (.istore_n 2, 1) := by decide +kernel
theorem d9_9 : decode prog_18_method_3_code 9 = .ok (.iload_n 2, 1) := by decide +kernel
theorem d9_10 : decode prog_18_method_3_code 10 = .ok (.bipush 71, 2) := by decide +kernel
theorem d9_12 : decode prog_18_method_3_code 12 = .ok (.if_icmp .eq 9, 3) := by decide +kernel
theorem d9_21 : decode prog_18_method_3_code 21 = .ok (.iconst 1, 1) := by decide +kernel
theorem d9_22 : decode prog_18_method_3_code 22 = .ok (.goto 4, 3) := by decide +kernel
theorem d9_26 : decode prog_18_method_3_code 26 = .ok (.ireturn, 1) := by decide +kernel
theorem pn_5 : plainName "com/example/watchful_junction/watchfuljunction/importer/Network$Phase" = true := by first | (simp [plainName, overriddenIn]; done) | decide +kernel
theorem ef_grL0_0 (m : MethodId) (pR1 : Addr) : entryFrame m #[(.ref pR1), (.int 0)] 3 = mkF m 0 #[.val (.ref pR1), .val (.int 0), .unset] [] := by first | (simp [entryFrame, mkF, argsToLocals, Value.category]; done) | rfl
def QgrL0 (Z : State) (pR1 : Addr) (pR2 : Addr) (pI4 : Int32) (pR5 : Addr) (pI801 : Int32) (pI802 : Int32) (pI803 : Int32) (pI804 : Int32) (pK6 : ClassId) (pV7 : Value) (h0 : Heap) (n0 : Nat) (v : Option Value) (h : Heap) (L : List Loc) : Prop := v = some (.int (own_green pI801)) ∧ Fr n0 L ∧ h = h0
set_option maxRecDepth 65536 in
set_option maxHeartbeats 40000000 in
theorem grL0_0 (l : Launch) (Z : State) (a0 : Array Value) (hw : ∀ d ∈ tables_1, d.before a0 Z = true) (ws : List Jvm.Cond) (pR1 : Addr) (pR2 : Addr) (pI4 : Int32) (pR5 : Addr) (pI801 : Int32) (pI802 : Int32) (pI803 : Int32) (pI804 : Int32) (pK6 : ClassId) (pV7 : Value) (h0 : Heap) (n0 : Nat) (Z0 : n0 ≤ h0.size) (F_state_pR1 : Fld Z h0 pR1 "com/example/watchful_junction/watchfuljunction/importer/Network$Phase" "state" "Ljava/lang/String;" (.ref pR2)) (S_String_COMPACT_STRINGS : Sta Z h0 "java/lang/String" "COMPACT_STRINGS" "Z" (.int pI4)) (F_coder_pR2 : Fld Z h0 pR2 "java/lang/String" "coder" "B" (.int 0)) (E_pR2 : Exa Z h0 pR2 "java/lang/String") (F_value_pR2 : Fld Z h0 pR2 "java/lang/String" "value" "[B" (.ref pR5)) (V_pR5 : Arv Z h0 pR5 pK6 .byte (4 : Int32) [(.int (pI801.toInt8.toInt32)), (.int (pI802.toInt8.toInt32)), (.int (pI803.toInt8.toInt32)), (.int (pI804.toInt8.toInt32))] (.int (0 : Int32))) (S_Preconditions_SIOOBE_FORMATTER : Sta Z h0 "jdk/internal/util/Preconditions" "SIOOBE_FORMATTER" "Ljava/util/function/BiFunction;" pV7) (hrg : 0 ≤ pI801.toInt ∧ pI801.toInt ≤ 65535) (hl : ¬ ((255 : Int32) < pI801)) (hc5 : ¬ (pI4 = (0 : Int32))) (hc5' : pV7.isRef = true) (hc12 : pI801 = (71 : Int32)) :
    oM l yN20 prog_18_method_3_code 3 (some .boolean) ws ({ frames := 4, cells := 0, slots := 0, locals := 53 } : Room) #[(.ref pR1), (.int 0)] Z h0 (QgrL0 Z pR1 pR2 pI4 pR5 pI801 pI802 pI803 pI804 pK6 pV7 h0 n0) := by
  refine MetFree.of_bodySF (plainFor_of_name pn_5) hisR ?_
  intro p e s m args below meth c s₁ Bd hml0 hP hK
  obtain ⟨rfl, hZ, hh⟩ := hP
  have hx := Bd.exec
  have hby := Bd.bytes
  have hml : c.maxLocals = 3 := hml0
  have hown : s.vm.findClass "com/example/watchful_junction/watchfuljunction/importer/Network$Phase" = some m.cls := findClass_of_methodNamed Bd.named
  have hnm := (name_of_methodNamed Bd.named Bd.method).1
  have X0 : Stand p l e ({ frames := 4, cells := 0, slots := 0, locals := 53 } : Room) s m #[(.ref pR1), (.int 0)] below meth c s₁ [] 0 0 := Stand.of_body Bd
  have e0 : s₁.heap = h0 := by rw [← hh, Bd.state]; rfl
  have N0 := Fr.nil n0
  obtain ⟨T3, X3, e3, st3⟩ := getF X0 hx hZ hown (host := "") (Or.inl (ow hw 43 rfl)) Via.refl e0 F_state_pR1 (g := (mkF m 1 #[.val (.ref pR1), .val (.int 0), .unset] [(.ref pR1)])) rfl rfl (hb hby d9_1)
  obtain ⟨cq8, kq8, q8a, q8b, q8c⟩ := isOf hZ e3 E_pR2
  obtain ⟨_, _, ⟨T8, L8, k8, n8⟩, -, X8, ⟨Lc8, hQ8, l8, y8, z8⟩, st8⟩ := X3.virtualBack hx (y := yN19) (z := yN19) hown (mvT hZ (ow hw 50 rfl)) (mvT hZ (ow hw 51 rfl)) (notFace_of_selects (args := #[]) (mvT hZ (ow hw 53 rfl))) (mvT hZ (ow hw 53 rfl)) (mvT hZ (ow hw 52 rfl)) (by decide) (backOf (W := 0) (scaL0 l Z a0 hw [] pR2 pI4 pR5 pI801 pI802 pI803 pI804 pK6 pV7 h0 n0 Z0 S_String_COMPACT_STRINGS F_coder_pR2 E_pR2 F_value_pR2 V_pR5 S_Preconditions_SIOOBE_FORMATTER hrg hl hc5 hc5') hZ (ow hw 54 rfl) (ow hw 7 rfl) (by decide) (by decide)) q8a q8c (g := (mkF m 5 #[.val (.ref pR1), .val (.int 0), .unset] [(.int 0), (.ref pR2)])) rfl (by rw [hml]; rfl) (Steps.refl _) (argsL := [(.int 0)]) (rest := []) (lenOf pd_13 rfl) rfl (Nat.le_refl _) (hb hby d9_5) (fun _ _ => ⟨rfl, e3, (by decide : 0 + 0 ≤ _), (by decide : 0 + 0 ≤ _)⟩)
  dsimp only [Pt.U, Pt.locs, Pt.cells, Pt.slots] at X8 l8 y8 z8 st8 hQ8
  subst l8 y8 z8
  obtain ⟨rfl, Nq8, e8⟩ := hQ8
  have N8 := Fr.app N0 Nq8
  obtain ⟨fs, hr, hrun, hended, hW, hsame⟩ := X8.leave (v := some (.int 1)) (fun h => by rw [Bd.returns] at h; cases h)
  refine ⟨_, _, castTop (ef_grL0_0 m pR1) ?_, hrun, hended, _, _, rfl, ?_, ⟨_, rfl⟩, hW, hsame.mono (by decide) (by decide)⟩
  · show oS p e below s₁ m 0 #[.val (.ref pR1), .val (.int 0), .unset] [] _
    refine XS.aloadN X0.here hx rfl (hb hby d9_0) rfl rfl ?_
    refine st3 _ ?_
    refine XS.iloadN X3.here hx rfl (hb hby d9_4) rfl ?_
    refine st8.trans ?_
    refine XS.istoreN X8.here hx rfl (hb hby d9_8) rfl (l' := #[.val (.ref pR1), .val (.int 0), .val (.int pI801)]) rfl ?_
    refine XS.iloadN X8.here hx rfl (hb hby d9_9) rfl ?_
    show oS p e below T8 m 10 #[.val (.ref pR1), .val (.int 0), .val (.int pI801)] [(.int pI801)] _
    refine XS.bipush X8.here hx rfl (hb hby d9_10) ?_
    refine XS.icmpYes X8.here hx rfl (pc0 := 12) (pc' := 21) rfl (hb hby d9_12) rfl (teq hc12).1 (by decide) (by decide) ?_
    refine XS.iconst X8.here hx rfl (hb hby d9_21) ?_
    refine XS.goto X8.here hx rfl (pc0 := 22) (pc' := 26) rfl (hb hby d9_22) (by decide) (by decide) ?_
    exact retN X8 hx (t := .boolean) Bd.returns (by simp) (hb hby d9_26) hr
  · show QgrL0 Z pR1 pR2 pI4 pR5 pI801 pI802 pI803 pI804 pK6 pV7 h0 n0 _ T8.heap _
    rw [e8]
    exact ⟨(by simp [own_green, hc12]), N8, rfl⟩
theorem d9_15 : decode prog_18_method_3_code 15 = .ok (.iload_n 2, 1) := by decide +kernel
theorem d9_16 : decode prog_18_method_3_code 16 = .ok (.bipush 103, 2) := by decide +kernel
theorem d9_18 : decode prog_18_method_3_code 18 = .ok (.if_icmp .ne 7, 3) := by decide +kernel
theorem ef_grL0_1 (m : MethodId) (pR1 : Addr) : entryFrame m #[(.ref pR1), (.int 0)] 3 = mkF m 0 #[.val (.ref pR1), .val (.int 0), .unset] [] := by first | (simp [entryFrame, mkF, argsToLocals, Value.category]; done) | rfl
set_option maxRecDepth 65536 in
set_option maxHeartbeats 40000000 in
theorem grL0_1 (l : Launch) (Z : State) (a0 : Array Value) (hw : ∀ d ∈ tables_1, d.before a0 Z = true) (ws : List Jvm.Cond) (pR1 : Addr) (pR2 : Addr) (pI4 : Int32) (pR5 : Addr) (pI801 : Int32) (pI802 : Int32) (pI803 : Int32) (pI804 : Int32) (pK6 : ClassId) (pV7 : Value) (h0 : Heap) (n0 : Nat) (Z0 : n0 ≤ h0.size) (F_state_pR1 : Fld Z h0 pR1 "com/example/watchful_junction/watchfuljunction/importer/Network$Phase" "state" "Ljava/lang/String;" (.ref pR2)) (S_String_COMPACT_STRINGS : Sta Z h0 "java/lang/String" "COMPACT_STRINGS" "Z" (.int pI4)) (F_coder_pR2 : Fld Z h0 pR2 "java/lang/String" "coder" "B" (.int 0)) (E_pR2 : Exa Z h0 pR2 "java/lang/String") (F_value_pR2 : Fld Z h0 pR2 "java/lang/String" "value" "[B" (.ref pR5)) (V_pR5 : Arv Z h0 pR5 pK6 .byte (4 : Int32) [(.int (pI801.toInt8.toInt32)), (.int (pI802.toInt8.toInt32)), (.int (pI803.toInt8.toInt32)), (.int (pI804.toInt8.toInt32))] (.int (0 : Int32))) (S_Preconditions_SIOOBE_FORMATTER : Sta Z h0 "jdk/internal/util/Preconditions" "SIOOBE_FORMATTER" "Ljava/util/function/BiFunction;" pV7) (hrg : 0 ≤ pI801.toInt ∧ pI801.toInt ≤ 65535) (hl : ¬ ((255 : Int32) < pI801)) (hc5 : ¬ (pI4 = (0 : Int32))) (hc5' : pV7.isRef = true) (hc12 : ¬ (pI801 = (71 : Int32))) (hc18 : pI801 = (103 : Int32)) :
    oM l yN20 prog_18_method_3_code 3 (some .boolean) ws ({ frames := 4, cells := 0, slots := 0, locals := 53 } : Room) #[(.ref pR1), (.int 0)] Z h0 (QgrL0 Z pR1 pR2 pI4 pR5 pI801 pI802 pI803 pI804 pK6 pV7 h0 n0) := by
  refine MetFree.of_bodySF (plainFor_of_name pn_5) hisR ?_
  intro p e s m args below meth c s₁ Bd hml0 hP hK
  obtain ⟨rfl, hZ, hh⟩ := hP
  have hx := Bd.exec
  have hby := Bd.bytes
  have hml : c.maxLocals = 3 := hml0
  have hown : s.vm.findClass "com/example/watchful_junction/watchfuljunction/importer/Network$Phase" = some m.cls := findClass_of_methodNamed Bd.named
  have hnm := (name_of_methodNamed Bd.named Bd.method).1
  have X0 : Stand p l e ({ frames := 4, cells := 0, slots := 0, locals := 53 } : Room) s m #[(.ref pR1), (.int 0)] below meth c s₁ [] 0 0 := Stand.of_body Bd
  have e0 : s₁.heap = h0 := by rw [← hh, Bd.state]; rfl
  have N0 := Fr.nil n0
  obtain ⟨T3, X3, e3, st3⟩ := getF X0 hx hZ hown (host := "") (Or.inl (ow hw 43 rfl)) Via.refl e0 F_state_pR1 (g := (mkF m 1 #[.val (.ref pR1), .val (.int 0), .unset] [(.ref pR1)])) rfl rfl (hb hby d9_1)
  obtain ⟨cq8, kq8, q8a, q8b, q8c⟩ := isOf hZ e3 E_pR2
  obtain ⟨_, _, ⟨T8, L8, k8, n8⟩, -, X8, ⟨Lc8, hQ8, l8, y8, z8⟩, st8⟩ := X3.virtualBack hx (y := yN19) (z := yN19) hown (mvT hZ (ow hw 50 rfl)) (mvT hZ (ow hw 51 rfl)) (notFace_of_selects (args := #[]) (mvT hZ (ow hw 53 rfl))) (mvT hZ (ow hw 53 rfl)) (mvT hZ (ow hw 52 rfl)) (by decide) (backOf (W := 0) (scaL0 l Z a0 hw [] pR2 pI4 pR5 pI801 pI802 pI803 pI804 pK6 pV7 h0 n0 Z0 S_String_COMPACT_STRINGS F_coder_pR2 E_pR2 F_value_pR2 V_pR5 S_Preconditions_SIOOBE_FORMATTER hrg hl hc5 hc5') hZ (ow hw 54 rfl) (ow hw 7 rfl) (by decide) (by decide)) q8a q8c (g := (mkF m 5 #[.val (.ref pR1), .val (.int 0), .unset] [(.int 0), (.ref pR2)])) rfl (by rw [hml]; rfl) (Steps.refl _) (argsL := [(.int 0)]) (rest := []) (lenOf pd_13 rfl) rfl (Nat.le_refl _) (hb hby d9_5) (fun _ _ => ⟨rfl, e3, (by decide : 0 + 0 ≤ _), (by decide : 0 + 0 ≤ _)⟩)
  dsimp only [Pt.U, Pt.locs, Pt.cells, Pt.slots] at X8 l8 y8 z8 st8 hQ8
  subst l8 y8 z8
  obtain ⟨rfl, Nq8, e8⟩ := hQ8
  have N8 := Fr.app N0 Nq8
  obtain ⟨fs, hr, hrun, hended, hW, hsame⟩ := X8.leave (v := some (.int 1)) (fun h => by rw [Bd.returns] at h; cases h)
  refine ⟨_, _, castTop (ef_grL0_1 m pR1) ?_, hrun, hended, _, _, rfl, ?_, ⟨_, rfl⟩, hW, hsame.mono (by decide) (by decide)⟩
  · show oS p e below s₁ m 0 #[.val (.ref pR1), .val (.int 0), .unset] [] _
    refine XS.aloadN X0.here hx rfl (hb hby d9_0) rfl rfl ?_
    refine st3 _ ?_
    refine XS.iloadN X3.here hx rfl (hb hby d9_4) rfl ?_
    refine st8.trans ?_
    refine XS.istoreN X8.here hx rfl (hb hby d9_8) rfl (l' := #[.val (.ref pR1), .val (.int 0), .val (.int pI801)]) rfl ?_
    refine XS.iloadN X8.here hx rfl (hb hby d9_9) rfl ?_
    show oS p e below T8 m 10 #[.val (.ref pR1), .val (.int 0), .val (.int pI801)] [(.int pI801)] _
    refine XS.bipush X8.here hx rfl (hb hby d9_10) ?_
    refine XS.icmpNo X8.here hx rfl (hb hby d9_12) rfl (feq hc12).1 ?_
    refine XS.iloadN X8.here hx rfl (hb hby d9_15) rfl ?_
    refine XS.bipush X8.here hx rfl (hb hby d9_16) ?_
    refine XS.icmpNo X8.here hx rfl (hb hby d9_18) rfl (teq hc18).2 ?_
    refine XS.iconst X8.here hx rfl (hb hby d9_21) ?_
    show oS p e below T8 m 22 #[.val (.ref pR1), .val (.int 0), .val (.int pI801)] [(.int 1)] _
    refine XS.goto X8.here hx rfl (pc0 := 22) (pc' := 26) rfl (hb hby d9_22) (by decide) (by decide) ?_
    exact retN X8 hx (t := .boolean) Bd.returns (by simp) (hb hby d9_26) hr
  · show QgrL0 Z pR1 pR2 pI4 pR5 pI801 pI802 pI803 pI804 pK6 pV7 h0 n0 _ T8.heap _
    rw [e8]
    exact ⟨(by simp [own_green, hc18]), N8, rfl⟩
theorem d9_25 : decode prog_18_method_3_code 25 = .ok (.iconst 0, 1) := by decide +kernel
theorem ef_grL0_2 (m : MethodId) (pR1 : Addr) : entryFrame m #[(.ref pR1), (.int 0)] 3 = mkF m 0 #[.val (.ref pR1), .val (.int 0), .unset] [] := by first | (simp [entryFrame, mkF, argsToLocals, Value.category]; done) | rfl
set_option maxRecDepth 65536 in
set_option maxHeartbeats 40000000 in
theorem grL0_2 (l : Launch) (Z : State) (a0 : Array Value) (hw : ∀ d ∈ tables_1, d.before a0 Z = true) (ws : List Jvm.Cond) (pR1 : Addr) (pR2 : Addr) (pI4 : Int32) (pR5 : Addr) (pI801 : Int32) (pI802 : Int32) (pI803 : Int32) (pI804 : Int32) (pK6 : ClassId) (pV7 : Value) (h0 : Heap) (n0 : Nat) (Z0 : n0 ≤ h0.size) (F_state_pR1 : Fld Z h0 pR1 "com/example/watchful_junction/watchfuljunction/importer/Network$Phase" "state" "Ljava/lang/String;" (.ref pR2)) (S_String_COMPACT_STRINGS : Sta Z h0 "java/lang/String" "COMPACT_STRINGS" "Z" (.int pI4)) (F_coder_pR2 : Fld Z h0 pR2 "java/lang/String" "coder" "B" (.int 0)) (E_pR2 : Exa Z h0 pR2 "java/lang/String") (F_value_pR2 : Fld Z h0 pR2 "java/lang/String" "value" "[B" (.ref pR5)) (V_pR5 : Arv Z h0 pR5 pK6 .byte (4 : Int32) [(.int (pI801.toInt8.toInt32)), (.int (pI802.toInt8.toInt32)), (.int (pI803.toInt8.toInt32)), (.int (pI804.toInt8.toInt32))] (.int (0 : Int32))) (S_Preconditions_SIOOBE_FORMATTER : Sta Z h0 "jdk/internal/util/Preconditions" "SIOOBE_FORMATTER" "Ljava/util/function/BiFunction;" pV7) (hrg : 0 ≤ pI801.toInt ∧ pI801.toInt ≤ 65535) (hl : ¬ ((255 : Int32) < pI801)) (hc5 : ¬ (pI4 = (0 : Int32))) (hc5' : pV7.isRef = true) (hc12 : ¬ (pI801 = (71 : Int32))) (hc18 : ¬ (pI801 = (103 : Int32))) :
    oM l yN20 prog_18_method_3_code 3 (some .boolean) ws ({ frames := 4, cells := 0, slots := 0, locals := 53 } : Room) #[(.ref pR1), (.int 0)] Z h0 (QgrL0 Z pR1 pR2 pI4 pR5 pI801 pI802 pI803 pI804 pK6 pV7 h0 n0) := by
  refine MetFree.of_bodySF (plainFor_of_name pn_5) hisR ?_
  intro p e s m args below meth c s₁ Bd hml0 hP hK
  obtain ⟨rfl, hZ, hh⟩ := hP
  have hx := Bd.exec
  have hby := Bd.bytes
  have hml : c.maxLocals = 3 := hml0
  have hown : s.vm.findClass "com/example/watchful_junction/watchfuljunction/importer/Network$Phase" = some m.cls := findClass_of_methodNamed Bd.named
  have hnm := (name_of_methodNamed Bd.named Bd.method).1
  have X0 : Stand p l e ({ frames := 4, cells := 0, slots := 0, locals := 53 } : Room) s m #[(.ref pR1), (.int 0)] below meth c s₁ [] 0 0 := Stand.of_body Bd
  have e0 : s₁.heap = h0 := by rw [← hh, Bd.state]; rfl
  have N0 := Fr.nil n0
  obtain ⟨T3, X3, e3, st3⟩ := getF X0 hx hZ hown (host := "") (Or.inl (ow hw 43 rfl)) Via.refl e0 F_state_pR1 (g := (mkF m 1 #[.val (.ref pR1), .val (.int 0), .unset] [(.ref pR1)])) rfl rfl (hb hby d9_1)
  obtain ⟨cq8, kq8, q8a, q8b, q8c⟩ := isOf hZ e3 E_pR2
  obtain ⟨_, _, ⟨T8, L8, k8, n8⟩, -, X8, ⟨Lc8, hQ8, l8, y8, z8⟩, st8⟩ := X3.virtualBack hx (y := yN19) (z := yN19) hown (mvT hZ (ow hw 50 rfl)) (mvT hZ (ow hw 51 rfl)) (notFace_of_selects (args := #[]) (mvT hZ (ow hw 53 rfl))) (mvT hZ (ow hw 53 rfl)) (mvT hZ (ow hw 52 rfl)) (by decide) (backOf (W := 0) (scaL0 l Z a0 hw [] pR2 pI4 pR5 pI801 pI802 pI803 pI804 pK6 pV7 h0 n0 Z0 S_String_COMPACT_STRINGS F_coder_pR2 E_pR2 F_value_pR2 V_pR5 S_Preconditions_SIOOBE_FORMATTER hrg hl hc5 hc5') hZ (ow hw 54 rfl) (ow hw 7 rfl) (by decide) (by decide)) q8a q8c (g := (mkF m 5 #[.val (.ref pR1), .val (.int 0), .unset] [(.int 0), (.ref pR2)])) rfl (by rw [hml]; rfl) (Steps.refl _) (argsL := [(.int 0)]) (rest := []) (lenOf pd_13 rfl) rfl (Nat.le_refl _) (hb hby d9_5) (fun _ _ => ⟨rfl, e3, (by decide : 0 + 0 ≤ _), (by decide : 0 + 0 ≤ _)⟩)
  dsimp only [Pt.U, Pt.locs, Pt.cells, Pt.slots] at X8 l8 y8 z8 st8 hQ8
  subst l8 y8 z8
  obtain ⟨rfl, Nq8, e8⟩ := hQ8
  have N8 := Fr.app N0 Nq8
  obtain ⟨fs, hr, hrun, hended, hW, hsame⟩ := X8.leave (v := some (.int 0)) (fun h => by rw [Bd.returns] at h; cases h)
  refine ⟨_, _, castTop (ef_grL0_2 m pR1) ?_, hrun, hended, _, _, rfl, ?_, ⟨_, rfl⟩, hW, hsame.mono (by decide) (by decide)⟩
  · show oS p e below s₁ m 0 #[.val (.ref pR1), .val (.int 0), .unset] [] _
    refine XS.aloadN X0.here hx rfl (hb hby d9_0) rfl rfl ?_
    refine st3 _ ?_
    refine XS.iloadN X3.here hx rfl (hb hby d9_4) rfl ?_
    refine st8.trans ?_
    refine XS.istoreN X8.here hx rfl (hb hby d9_8) rfl (l' := #[.val (.ref pR1), .val (.int 0), .val (.int pI801)]) rfl ?_
    refine XS.iloadN X8.here hx rfl (hb hby d9_9) rfl ?_
    show oS p e below T8 m 10 #[.val (.ref pR1), .val (.int 0), .val (.int pI801)] [(.int pI801)] _
    refine XS.bipush X8.here hx rfl (hb hby d9_10) ?_
    refine XS.icmpNo X8.here hx rfl (hb hby d9_12) rfl (feq hc12).1 ?_
    refine XS.iloadN X8.here hx rfl (hb hby d9_15) rfl ?_
    refine XS.bipush X8.here hx rfl (hb hby d9_16) ?_
    refine XS.icmpYes X8.here hx rfl (pc0 := 18) (pc' := 25) rfl (hb hby d9_18) rfl (feq hc18).2 (by decide) (by decide) ?_
    refine XS.iconst X8.here hx rfl (hb hby d9_25) ?_
    show oS p e below T8 m 26 #[.val (.ref pR1), .val (.int 0), .val (.int pI801)] [(.int 0)] _
    exact retN X8 hx (t := .boolean) Bd.returns (by simp) (hb hby d9_26) hr
  · show QgrL0 Z pR1 pR2 pI4 pR5 pI801 pI802 pI803 pI804 pK6 pV7 h0 n0 _ T8.heap _
    rw [e8]
    exact ⟨(by simp [own_green, hc12, hc18]), N8, rfl⟩
theorem grL0 (l : Launch) (Z : State) (a0 : Array Value) (hw : ∀ d ∈ tables_1, d.before a0 Z = true) (ws : List Jvm.Cond) (pR1 : Addr) (pR2 : Addr) (pI4 : Int32) (pR5 : Addr) (pI801 : Int32) (pI802 : Int32) (pI803 : Int32) (pI804 : Int32) (pK6 : ClassId) (pV7 : Value) (h0 : Heap) (n0 : Nat) (Z0 : n0 ≤ h0.size) (F_state_pR1 : Fld Z h0 pR1 "com/example/watchful_junction/watchfuljunction/importer/Network$Phase" "state" "Ljava/lang/String;" (.ref pR2)) (S_String_COMPACT_STRINGS : Sta Z h0 "java/lang/String" "COMPACT_STRINGS" "Z" (.int pI4)) (F_coder_pR2 : Fld Z h0 pR2 "java/lang/String" "coder" "B" (.int 0)) (E_pR2 : Exa Z h0 pR2 "java/lang/String") (F_value_pR2 : Fld Z h0 pR2 "java/lang/String" "value" "[B" (.ref pR5)) (V_pR5 : Arv Z h0 pR5 pK6 .byte (4 : Int32) [(.int (pI801.toInt8.toInt32)), (.int (pI802.toInt8.toInt32)), (.int (pI803.toInt8.toInt32)), (.int (pI804.toInt8.toInt32))] (.int (0 : Int32))) (S_Preconditions_SIOOBE_FORMATTER : Sta Z h0 "jdk/internal/util/Preconditions" "SIOOBE_FORMATTER" "Ljava/util/function/BiFunction;" pV7) (hrg : 0 ≤ pI801.toInt ∧ pI801.toInt ≤ 65535) (hl : ¬ ((255 : Int32) < pI801)) (hc5 : ¬ (pI4 = (0 : Int32))) (hc5' : pV7.isRef = true) :
    oM l yN20 prog_18_method_3_code 3 (some .boolean) ws ({ frames := 4, cells := 0, slots := 0, locals := 53 } : Room) #[(.ref pR1), (.int 0)] Z h0 (QgrL0 Z pR1 pR2 pI4 pR5 pI801 pI802 pI803 pI804 pK6 pV7 h0 n0) := by
  by_cases hc12 : pI801 = (71 : Int32)
  · exact grL0_0 l Z a0 hw ws pR1 pR2 pI4 pR5 pI801 pI802 pI803 pI804 pK6 pV7 h0 n0 Z0 F_state_pR1 S_String_COMPACT_STRINGS F_coder_pR2 E_pR2 F_value_pR2 V_pR5 S_Preconditions_SIOOBE_FORMATTER hrg hl hc5 hc5' hc12
  · by_cases hc18 : pI801 = (103 : Int32)
    · exact grL0_1 l Z a0 hw ws pR1 pR2 pI4 pR5 pI801 pI802 pI803 pI804 pK6 pV7 h0 n0 Z0 F_state_pR1 S_String_COMPACT_STRINGS F_coder_pR2 E_pR2 F_value_pR2 V_pR5 S_Preconditions_SIOOBE_FORMATTER hrg hl hc5 hc5' hc12 hc18
    · exact grL0_2 l Z a0 hw ws pR1 pR2 pI4 pR5 pI801 pI802 pI803 pI804 pK6 pV7 h0 n0 Z0 F_state_pR1 S_String_COMPACT_STRINGS F_coder_pR2 E_pR2 F_value_pR2 V_pR5 S_Preconditions_SIOOBE_FORMATTER hrg hl hc5 hc5' hc12 hc18
theorem ef_grU0_0 (m : MethodId) (pR1 : Addr) : entryFrame m #[(.ref pR1), (.int 0)] 3 = mkF m 0 #[.val (.ref pR1), .val (.int 0), .unset] [] := by first | (simp [entryFrame, mkF, argsToLocals, Value.category]; done) | rfl
def QgrU0 (Z : State) (pR1 : Addr) (pR2 : Addr) (pI4 : Int32) (pR5 : Addr) (pI801 : Int32) (pI802 : Int32) (pI803 : Int32) (pI804 : Int32) (pK6 : ClassId) (pV7 : Value) (h0 : Heap) (n0 : Nat) (v : Option Value) (h : Heap) (L : List Loc) : Prop := v = some (.int (own_green pI801)) ∧ Fr n0 L ∧ h = h0
set_option maxRecDepth 65536 in
set_option maxHeartbeats 40000000 in
theorem grU0_0 (l : Launch) (Z : State) (a0 : Array Value) (hw : ∀ d ∈ tables_1, d.before a0 Z = true) (ws : List Jvm.Cond) (pR1 : Addr) (pR2 : Addr) (pI4 : Int32) (pR5 : Addr) (pI801 : Int32) (pI802 : Int32) (pI803 : Int32) (pI804 : Int32) (pK6 : ClassId) (pV7 : Value) (h0 : Heap) (n0 : Nat) (Z0 : n0 ≤ h0.size) (F_state_pR1 : Fld Z h0 pR1 "com/example/watchful_junction/watchfuljunction/importer/Network$Phase" "state" "Ljava/lang/String;" (.ref pR2)) (S_String_COMPACT_STRINGS : Sta Z h0 "java/lang/String" "COMPACT_STRINGS" "Z" (.int pI4)) (F_coder_pR2 : Fld Z h0 pR2 "java/lang/String" "coder" "B" (.int 1)) (E_pR2 : Exa Z h0 pR2 "java/lang/String") (F_value_pR2 : Fld Z h0 pR2 "java/lang/String" "value" "[B" (.ref pR5)) (V_pR5 : Arv Z h0 pR5 pK6 .byte (8 : Int32) [(.int ((pI801 >>> ((0 : Int32) &&& 31)).toInt8.toInt32)), (.int ((pI801 >>> ((8 : Int32) &&& 31)).toInt8.toInt32)), (.int ((pI802 >>> ((0 : Int32) &&& 31)).toInt8.toInt32)), (.int ((pI802 >>> ((8 : Int32) &&& 31)).toInt8.toInt32)), (.int ((pI803 >>> ((0 : Int32) &&& 31)).toInt8.toInt32)), (.int ((pI803 >>> ((8 : Int32) &&& 31)).toInt8.toInt32)), (.int ((pI804 >>> ((0 : Int32) &&& 31)).toInt8.toInt32)), (.int ((pI804 >>> ((8 : Int32) &&& 31)).toInt8.toInt32))] (.int (0 : Int32))) (S_Preconditions_SIOOBE_FORMATTER : Sta Z h0 "jdk/internal/util/Preconditions" "SIOOBE_FORMATTER" "Ljava/util/function/BiFunction;" pV7) (S_StringUTF16__assertionsDisabled : Sta Z h0 "java/lang/StringUTF16" "$assertionsDisabled" "Z" (.int 1)) (S_StringUTF16_HI_BYTE_SHIFT : Sta Z h0 "java/lang/StringUTF16" "HI_BYTE_SHIFT" "I" (.int 0)) (S_StringUTF16_LO_BYTE_SHIFT : Sta Z h0 "java/lang/StringUTF16" "LO_BYTE_SHIFT" "I" (.int 8)) (hrg : 0 ≤ pI801.toInt ∧ pI801.toInt ≤ 65535) (hc5 : ¬ (pI4 = (0 : Int32))) (hc5' : pV7.isRef = true) (hc12 : pI801 = (71 : Int32)) :
    oM l yN20 prog_18_method_3_code 3 (some .boolean) ws ({ frames := 5, cells := 0, slots := 0, locals := 66 } : Room) #[(.ref pR1), (.int 0)] Z h0 (QgrU0 Z pR1 pR2 pI4 pR5 pI801 pI802 pI803 pI804 pK6 pV7 h0 n0) := by
  refine MetFree.of_bodySF (plainFor_of_name pn_5) hisR ?_
  intro p e s m args below meth c s₁ Bd hml0 hP hK
  obtain ⟨rfl, hZ, hh⟩ := hP
  have hx := Bd.exec
  have hby := Bd.bytes
  have hml : c.maxLocals = 3 := hml0
  have hown : s.vm.findClass "com/example/watchful_junction/watchfuljunction/importer/Network$Phase" = some m.cls := findClass_of_methodNamed Bd.named
  have hnm := (name_of_methodNamed Bd.named Bd.method).1
  have X0 : Stand p l e ({ frames := 5, cells := 0, slots := 0, locals := 66 } : Room) s m #[(.ref pR1), (.int 0)] below meth c s₁ [] 0 0 := Stand.of_body Bd
  have e0 : s₁.heap = h0 := by rw [← hh, Bd.state]; rfl
  have N0 := Fr.nil n0
  obtain ⟨T3, X3, e3, st3⟩ := getF X0 hx hZ hown (host := "") (Or.inl (ow hw 43 rfl)) Via.refl e0 F_state_pR1 (g := (mkF m 1 #[.val (.ref pR1), .val (.int 0), .unset] [(.ref pR1)])) rfl rfl (hb hby d9_1)
  obtain ⟨cq8, kq8, q8a, q8b, q8c⟩ := isOf hZ e3 E_pR2
  obtain ⟨_, _, ⟨T8, L8, k8, n8⟩, -, X8, ⟨Lc8, hQ8, l8, y8, z8⟩, st8⟩ := X3.virtualBack hx (y := yN19) (z := yN19) hown (mvT hZ (ow hw 50 rfl)) (mvT hZ (ow hw 51 rfl)) (notFace_of_selects (args := #[]) (mvT hZ (ow hw 53 rfl))) (mvT hZ (ow hw 53 rfl)) (mvT hZ (ow hw 52 rfl)) (by decide) (backOf (W := 0) (scaU0 l Z a0 hw [] pR2 pI4 pR5 pI801 pI802 pI803 pI804 pK6 pV7 h0 n0 Z0 S_String_COMPACT_STRINGS F_coder_pR2 E_pR2 F_value_pR2 V_pR5 S_Preconditions_SIOOBE_FORMATTER S_StringUTF16__assertionsDisabled S_StringUTF16_HI_BYTE_SHIFT S_StringUTF16_LO_BYTE_SHIFT hrg hc5 hc5') hZ (ow hw 54 rfl) (ow hw 7 rfl) (by decide) (by decide)) q8a q8c (g := (mkF m 5 #[.val (.ref pR1), .val (.int 0), .unset] [(.int 0), (.ref pR2)])) rfl (by rw [hml]; rfl) (Steps.refl _) (argsL := [(.int 0)]) (rest := []) (lenOf pd_13 rfl) rfl (Nat.le_refl _) (hb hby d9_5) (fun _ _ => ⟨rfl, e3, (by decide : 0 + 0 ≤ _), (by decide : 0 + 0 ≤ _)⟩)
  dsimp only [Pt.U, Pt.locs, Pt.cells, Pt.slots] at X8 l8 y8 z8 st8 hQ8
  subst l8 y8 z8
  obtain ⟨rfl, Nq8, e8⟩ := hQ8
  have N8 := Fr.app N0 Nq8
  obtain ⟨fs, hr, hrun, hended, hW, hsame⟩ := X8.leave (v := some (.int 1)) (fun h => by rw [Bd.returns] at h; cases h)
  refine ⟨_, _, castTop (ef_grU0_0 m pR1) ?_, hrun, hended, _, _, rfl, ?_, ⟨_, rfl⟩, hW, hsame.mono (by decide) (by decide)⟩
  · show oS p e below s₁ m 0 #[.val (.ref pR1), .val (.int 0), .unset] [] _
    refine XS.aloadN X0.here hx rfl (hb hby d9_0) rfl rfl ?_
    refine st3 _ ?_
    refine XS.iloadN X3.here hx rfl (hb hby d9_4) rfl ?_
    refine st8.trans ?_
    refine XS.istoreN X8.here hx rfl (hb hby d9_8) rfl (l' := #[.val (.ref pR1), .val (.int 0), .val (.int pI801)]) rfl ?_
    refine XS.iloadN X8.here hx rfl (hb hby d9_9) rfl ?_
    show oS p e below T8 m 10 #[.val (.ref pR1), .val (.int 0), .val (.int pI801)] [(.int pI801)] _
    refine XS.bipush X8.here hx rfl (hb hby d9_10) ?_
    refine XS.icmpYes X8.here hx rfl (pc0 := 12) (pc' := 21) rfl (hb hby d9_12) rfl (teq hc12).1 (by decide) (by decide) ?_
    refine XS.iconst X8.here hx rfl (hb hby d9_21) ?_
    refine XS.goto X8.here hx rfl (pc0 := 22) (pc' := 26) rfl (hb hby d9_22) (by decide) (by decide) ?_
    exact retN X8 hx (t := .boolean) Bd.returns (by simp) (hb hby d9_26) hr
  · show QgrU0 Z pR1 pR2 pI4 pR5 pI801 pI802 pI803 pI804 pK6 pV7 h0 n0 _ T8.heap _
    rw [e8]
    exact ⟨(by simp [own_green, hc12]), N8, rfl⟩
theorem ef_grU0_1 (m : MethodId) (pR1 : Addr) : entryFrame m #[(.ref pR1), (.int 0)] 3 = mkF m 0 #[.val (.ref pR1), .val (.int 0), .unset] [] := by first | (simp [entryFrame, mkF, argsToLocals, Value.category]; done) | rfl
set_option maxRecDepth 65536 in
set_option maxHeartbeats 40000000 in
theorem grU0_1 (l : Launch) (Z : State) (a0 : Array Value) (hw : ∀ d ∈ tables_1, d.before a0 Z = true) (ws : List Jvm.Cond) (pR1 : Addr) (pR2 : Addr) (pI4 : Int32) (pR5 : Addr) (pI801 : Int32) (pI802 : Int32) (pI803 : Int32) (pI804 : Int32) (pK6 : ClassId) (pV7 : Value) (h0 : Heap) (n0 : Nat) (Z0 : n0 ≤ h0.size) (F_state_pR1 : Fld Z h0 pR1 "com/example/watchful_junction/watchfuljunction/importer/Network$Phase" "state" "Ljava/lang/String;" (.ref pR2)) (S_String_COMPACT_STRINGS : Sta Z h0 "java/lang/String" "COMPACT_STRINGS" "Z" (.int pI4)) (F_coder_pR2 : Fld Z h0 pR2 "java/lang/String" "coder" "B" (.int 1)) (E_pR2 : Exa Z h0 pR2 "java/lang/String") (F_value_pR2 : Fld Z h0 pR2 "java/lang/String" "value" "[B" (.ref pR5)) (V_pR5 : Arv Z h0 pR5 pK6 .byte (8 : Int32) [(.int ((pI801 >>> ((0 : Int32) &&& 31)).toInt8.toInt32)), (.int ((pI801 >>> ((8 : Int32) &&& 31)).toInt8.toInt32)), (.int ((pI802 >>> ((0 : Int32) &&& 31)).toInt8.toInt32)), (.int ((pI802 >>> ((8 : Int32) &&& 31)).toInt8.toInt32)), (.int ((pI803 >>> ((0 : Int32) &&& 31)).toInt8.toInt32)), (.int ((pI803 >>> ((8 : Int32) &&& 31)).toInt8.toInt32)), (.int ((pI804 >>> ((0 : Int32) &&& 31)).toInt8.toInt32)), (.int ((pI804 >>> ((8 : Int32) &&& 31)).toInt8.toInt32))] (.int (0 : Int32))) (S_Preconditions_SIOOBE_FORMATTER : Sta Z h0 "jdk/internal/util/Preconditions" "SIOOBE_FORMATTER" "Ljava/util/function/BiFunction;" pV7) (S_StringUTF16__assertionsDisabled : Sta Z h0 "java/lang/StringUTF16" "$assertionsDisabled" "Z" (.int 1)) (S_StringUTF16_HI_BYTE_SHIFT : Sta Z h0 "java/lang/StringUTF16" "HI_BYTE_SHIFT" "I" (.int 0)) (S_StringUTF16_LO_BYTE_SHIFT : Sta Z h0 "java/lang/StringUTF16" "LO_BYTE_SHIFT" "I" (.int 8)) (hrg : 0 ≤ pI801.toInt ∧ pI801.toInt ≤ 65535) (hc5 : ¬ (pI4 = (0 : Int32))) (hc5' : pV7.isRef = true) (hc12 : ¬ (pI801 = (71 : Int32))) (hc18 : pI801 = (103 : Int32)) :
    oM l yN20 prog_18_method_3_code 3 (some .boolean) ws ({ frames := 5, cells := 0, slots := 0, locals := 66 } : Room) #[(.ref pR1), (.int 0)] Z h0 (QgrU0 Z pR1 pR2 pI4 pR5 pI801 pI802 pI803 pI804 pK6 pV7 h0 n0) := by
  refine MetFree.of_bodySF (plainFor_of_name pn_5) hisR ?_
  intro p e s m args below meth c s₁ Bd hml0 hP hK
  obtain ⟨rfl, hZ, hh⟩ := hP
  have hx := Bd.exec
  have hby := Bd.bytes
  have hml : c.maxLocals = 3 := hml0
  have hown : s.vm.findClass "com/example/watchful_junction/watchfuljunction/importer/Network$Phase" = some m.cls := findClass_of_methodNamed Bd.named
  have hnm := (name_of_methodNamed Bd.named Bd.method).1
  have X0 : Stand p l e ({ frames := 5, cells := 0, slots := 0, locals := 66 } : Room) s m #[(.ref pR1), (.int 0)] below meth c s₁ [] 0 0 := Stand.of_body Bd
  have e0 : s₁.heap = h0 := by rw [← hh, Bd.state]; rfl
  have N0 := Fr.nil n0
  obtain ⟨T3, X3, e3, st3⟩ := getF X0 hx hZ hown (host := "") (Or.inl (ow hw 43 rfl)) Via.refl e0 F_state_pR1 (g := (mkF m 1 #[.val (.ref pR1), .val (.int 0), .unset] [(.ref pR1)])) rfl rfl (hb hby d9_1)
  obtain ⟨cq8, kq8, q8a, q8b, q8c⟩ := isOf hZ e3 E_pR2
  obtain ⟨_, _, ⟨T8, L8, k8, n8⟩, -, X8, ⟨Lc8, hQ8, l8, y8, z8⟩, st8⟩ := X3.virtualBack hx (y := yN19) (z := yN19) hown (mvT hZ (ow hw 50 rfl)) (mvT hZ (ow hw 51 rfl)) (notFace_of_selects (args := #[]) (mvT hZ (ow hw 53 rfl))) (mvT hZ (ow hw 53 rfl)) (mvT hZ (ow hw 52 rfl)) (by decide) (backOf (W := 0) (scaU0 l Z a0 hw [] pR2 pI4 pR5 pI801 pI802 pI803 pI804 pK6 pV7 h0 n0 Z0 S_String_COMPACT_STRINGS F_coder_pR2 E_pR2 F_value_pR2 V_pR5 S_Preconditions_SIOOBE_FORMATTER S_StringUTF16__assertionsDisabled S_StringUTF16_HI_BYTE_SHIFT S_StringUTF16_LO_BYTE_SHIFT hrg hc5 hc5') hZ (ow hw 54 rfl) (ow hw 7 rfl) (by decide) (by decide)) q8a q8c (g := (mkF m 5 #[.val (.ref pR1), .val (.int 0), .unset] [(.int 0), (.ref pR2)])) rfl (by rw [hml]; rfl) (Steps.refl _) (argsL := [(.int 0)]) (rest := []) (lenOf pd_13 rfl) rfl (Nat.le_refl _) (hb hby d9_5) (fun _ _ => ⟨rfl, e3, (by decide : 0 + 0 ≤ _), (by decide : 0 + 0 ≤ _)⟩)
  dsimp only [Pt.U, Pt.locs, Pt.cells, Pt.slots] at X8 l8 y8 z8 st8 hQ8
  subst l8 y8 z8
  obtain ⟨rfl, Nq8, e8⟩ := hQ8
  have N8 := Fr.app N0 Nq8
  obtain ⟨fs, hr, hrun, hended, hW, hsame⟩ := X8.leave (v := some (.int 1)) (fun h => by rw [Bd.returns] at h; cases h)
  refine ⟨_, _, castTop (ef_grU0_1 m pR1) ?_, hrun, hended, _, _, rfl, ?_, ⟨_, rfl⟩, hW, hsame.mono (by decide) (by decide)⟩
  · show oS p e below s₁ m 0 #[.val (.ref pR1), .val (.int 0), .unset] [] _
    refine XS.aloadN X0.here hx rfl (hb hby d9_0) rfl rfl ?_
    refine st3 _ ?_
    refine XS.iloadN X3.here hx rfl (hb hby d9_4) rfl ?_
    refine st8.trans ?_
    refine XS.istoreN X8.here hx rfl (hb hby d9_8) rfl (l' := #[.val (.ref pR1), .val (.int 0), .val (.int pI801)]) rfl ?_
    refine XS.iloadN X8.here hx rfl (hb hby d9_9) rfl ?_
    show oS p e below T8 m 10 #[.val (.ref pR1), .val (.int 0), .val (.int pI801)] [(.int pI801)] _
    refine XS.bipush X8.here hx rfl (hb hby d9_10) ?_
    refine XS.icmpNo X8.here hx rfl (hb hby d9_12) rfl (feq hc12).1 ?_
    refine XS.iloadN X8.here hx rfl (hb hby d9_15) rfl ?_
    refine XS.bipush X8.here hx rfl (hb hby d9_16) ?_
    refine XS.icmpNo X8.here hx rfl (hb hby d9_18) rfl (teq hc18).2 ?_
    refine XS.iconst X8.here hx rfl (hb hby d9_21) ?_
    show oS p e below T8 m 22 #[.val (.ref pR1), .val (.int 0), .val (.int pI801)] [(.int 1)] _
    refine XS.goto X8.here hx rfl (pc0 := 22) (pc' := 26) rfl (hb hby d9_22) (by decide) (by decide) ?_
    exact retN X8 hx (t := .boolean) Bd.returns (by simp) (hb hby d9_26) hr
  · show QgrU0 Z pR1 pR2 pI4 pR5 pI801 pI802 pI803 pI804 pK6 pV7 h0 n0 _ T8.heap _
    rw [e8]
    exact ⟨(by simp [own_green, hc18]), N8, rfl⟩
theorem ef_grU0_2 (m : MethodId) (pR1 : Addr) : entryFrame m #[(.ref pR1), (.int 0)] 3 = mkF m 0 #[.val (.ref pR1), .val (.int 0), .unset] [] := by first | (simp [entryFrame, mkF, argsToLocals, Value.category]; done) | rfl
set_option maxRecDepth 65536 in
set_option maxHeartbeats 40000000 in
theorem grU0_2 (l : Launch) (Z : State) (a0 : Array Value) (hw : ∀ d ∈ tables_1, d.before a0 Z = true) (ws : List Jvm.Cond) (pR1 : Addr) (pR2 : Addr) (pI4 : Int32) (pR5 : Addr) (pI801 : Int32) (pI802 : Int32) (pI803 : Int32) (pI804 : Int32) (pK6 : ClassId) (pV7 : Value) (h0 : Heap) (n0 : Nat) (Z0 : n0 ≤ h0.size) (F_state_pR1 : Fld Z h0 pR1 "com/example/watchful_junction/watchfuljunction/importer/Network$Phase" "state" "Ljava/lang/String;" (.ref pR2)) (S_String_COMPACT_STRINGS : Sta Z h0 "java/lang/String" "COMPACT_STRINGS" "Z" (.int pI4)) (F_coder_pR2 : Fld Z h0 pR2 "java/lang/String" "coder" "B" (.int 1)) (E_pR2 : Exa Z h0 pR2 "java/lang/String") (F_value_pR2 : Fld Z h0 pR2 "java/lang/String" "value" "[B" (.ref pR5)) (V_pR5 : Arv Z h0 pR5 pK6 .byte (8 : Int32) [(.int ((pI801 >>> ((0 : Int32) &&& 31)).toInt8.toInt32)), (.int ((pI801 >>> ((8 : Int32) &&& 31)).toInt8.toInt32)), (.int ((pI802 >>> ((0 : Int32) &&& 31)).toInt8.toInt32)), (.int ((pI802 >>> ((8 : Int32) &&& 31)).toInt8.toInt32)), (.int ((pI803 >>> ((0 : Int32) &&& 31)).toInt8.toInt32)), (.int ((pI803 >>> ((8 : Int32) &&& 31)).toInt8.toInt32)), (.int ((pI804 >>> ((0 : Int32) &&& 31)).toInt8.toInt32)), (.int ((pI804 >>> ((8 : Int32) &&& 31)).toInt8.toInt32))] (.int (0 : Int32))) (S_Preconditions_SIOOBE_FORMATTER : Sta Z h0 "jdk/internal/util/Preconditions" "SIOOBE_FORMATTER" "Ljava/util/function/BiFunction;" pV7) (S_StringUTF16__assertionsDisabled : Sta Z h0 "java/lang/StringUTF16" "$assertionsDisabled" "Z" (.int 1)) (S_StringUTF16_HI_BYTE_SHIFT : Sta Z h0 "java/lang/StringUTF16" "HI_BYTE_SHIFT" "I" (.int 0)) (S_StringUTF16_LO_BYTE_SHIFT : Sta Z h0 "java/lang/StringUTF16" "LO_BYTE_SHIFT" "I" (.int 8)) (hrg : 0 ≤ pI801.toInt ∧ pI801.toInt ≤ 65535) (hc5 : ¬ (pI4 = (0 : Int32))) (hc5' : pV7.isRef = true) (hc12 : ¬ (pI801 = (71 : Int32))) (hc18 : ¬ (pI801 = (103 : Int32))) :
    oM l yN20 prog_18_method_3_code 3 (some .boolean) ws ({ frames := 5, cells := 0, slots := 0, locals := 66 } : Room) #[(.ref pR1), (.int 0)] Z h0 (QgrU0 Z pR1 pR2 pI4 pR5 pI801 pI802 pI803 pI804 pK6 pV7 h0 n0) := by
  refine MetFree.of_bodySF (plainFor_of_name pn_5) hisR ?_
  intro p e s m args below meth c s₁ Bd hml0 hP hK
  obtain ⟨rfl, hZ, hh⟩ := hP
  have hx := Bd.exec
  have hby := Bd.bytes
  have hml : c.maxLocals = 3 := hml0
  have hown : s.vm.findClass "com/example/watchful_junction/watchfuljunction/importer/Network$Phase" = some m.cls := findClass_of_methodNamed Bd.named
  have hnm := (name_of_methodNamed Bd.named Bd.method).1
  have X0 : Stand p l e ({ frames := 5, cells := 0, slots := 0, locals := 66 } : Room) s m #[(.ref pR1), (.int 0)] below meth c s₁ [] 0 0 := Stand.of_body Bd
  have e0 : s₁.heap = h0 := by rw [← hh, Bd.state]; rfl
  have N0 := Fr.nil n0
  obtain ⟨T3, X3, e3, st3⟩ := getF X0 hx hZ hown (host := "") (Or.inl (ow hw 43 rfl)) Via.refl e0 F_state_pR1 (g := (mkF m 1 #[.val (.ref pR1), .val (.int 0), .unset] [(.ref pR1)])) rfl rfl (hb hby d9_1)
  obtain ⟨cq8, kq8, q8a, q8b, q8c⟩ := isOf hZ e3 E_pR2
  obtain ⟨_, _, ⟨T8, L8, k8, n8⟩, -, X8, ⟨Lc8, hQ8, l8, y8, z8⟩, st8⟩ := X3.virtualBack hx (y := yN19) (z := yN19) hown (mvT hZ (ow hw 50 rfl)) (mvT hZ (ow hw 51 rfl)) (notFace_of_selects (args := #[]) (mvT hZ (ow hw 53 rfl))) (mvT hZ (ow hw 53 rfl)) (mvT hZ (ow hw 52 rfl)) (by decide) (backOf (W := 0) (scaU0 l Z a0 hw [] pR2 pI4 pR5 pI801 pI802 pI803 pI804 pK6 pV7 h0 n0 Z0 S_String_COMPACT_STRINGS F_coder_pR2 E_pR2 F_value_pR2 V_pR5 S_Preconditions_SIOOBE_FORMATTER S_StringUTF16__assertionsDisabled S_StringUTF16_HI_BYTE_SHIFT S_StringUTF16_LO_BYTE_SHIFT hrg hc5 hc5') hZ (ow hw 54 rfl) (ow hw 7 rfl) (by decide) (by decide)) q8a q8c (g := (mkF m 5 #[.val (.ref pR1), .val (.int 0), .unset] [(.int 0), (.ref pR2)])) rfl (by rw [hml]; rfl) (Steps.refl _) (argsL := [(.int 0)]) (rest := []) (lenOf pd_13 rfl) rfl (Nat.le_refl _) (hb hby d9_5) (fun _ _ => ⟨rfl, e3, (by decide : 0 + 0 ≤ _), (by decide : 0 + 0 ≤ _)⟩)
  dsimp only [Pt.U, Pt.locs, Pt.cells, Pt.slots] at X8 l8 y8 z8 st8 hQ8
  subst l8 y8 z8
  obtain ⟨rfl, Nq8, e8⟩ := hQ8
  have N8 := Fr.app N0 Nq8
  obtain ⟨fs, hr, hrun, hended, hW, hsame⟩ := X8.leave (v := some (.int 0)) (fun h => by rw [Bd.returns] at h; cases h)
  refine ⟨_, _, castTop (ef_grU0_2 m pR1) ?_, hrun, hended, _, _, rfl, ?_, ⟨_, rfl⟩, hW, hsame.mono (by decide) (by decide)⟩
  · show oS p e below s₁ m 0 #[.val (.ref pR1), .val (.int 0), .unset] [] _
    refine XS.aloadN X0.here hx rfl (hb hby d9_0) rfl rfl ?_
    refine st3 _ ?_
    refine XS.iloadN X3.here hx rfl (hb hby d9_4) rfl ?_
    refine st8.trans ?_
    refine XS.istoreN X8.here hx rfl (hb hby d9_8) rfl (l' := #[.val (.ref pR1), .val (.int 0), .val (.int pI801)]) rfl ?_
    refine XS.iloadN X8.here hx rfl (hb hby d9_9) rfl ?_
    show oS p e below T8 m 10 #[.val (.ref pR1), .val (.int 0), .val (.int pI801)] [(.int pI801)] _
    refine XS.bipush X8.here hx rfl (hb hby d9_10) ?_
    refine XS.icmpNo X8.here hx rfl (hb hby d9_12) rfl (feq hc12).1 ?_
    refine XS.iloadN X8.here hx rfl (hb hby d9_15) rfl ?_
    refine XS.bipush X8.here hx rfl (hb hby d9_16) ?_
    refine XS.icmpYes X8.here hx rfl (pc0 := 18) (pc' := 25) rfl (hb hby d9_18) rfl (feq hc18).2 (by decide) (by decide) ?_
    refine XS.iconst X8.here hx rfl (hb hby d9_25) ?_
    show oS p e below T8 m 26 #[.val (.ref pR1), .val (.int 0), .val (.int pI801)] [(.int 0)] _
    exact retN X8 hx (t := .boolean) Bd.returns (by simp) (hb hby d9_26) hr
  · show QgrU0 Z pR1 pR2 pI4 pR5 pI801 pI802 pI803 pI804 pK6 pV7 h0 n0 _ T8.heap _
    rw [e8]
    exact ⟨(by simp [own_green, hc12, hc18]), N8, rfl⟩
theorem grU0 (l : Launch) (Z : State) (a0 : Array Value) (hw : ∀ d ∈ tables_1, d.before a0 Z = true) (ws : List Jvm.Cond) (pR1 : Addr) (pR2 : Addr) (pI4 : Int32) (pR5 : Addr) (pI801 : Int32) (pI802 : Int32) (pI803 : Int32) (pI804 : Int32) (pK6 : ClassId) (pV7 : Value) (h0 : Heap) (n0 : Nat) (Z0 : n0 ≤ h0.size) (F_state_pR1 : Fld Z h0 pR1 "com/example/watchful_junction/watchfuljunction/importer/Network$Phase" "state" "Ljava/lang/String;" (.ref pR2)) (S_String_COMPACT_STRINGS : Sta Z h0 "java/lang/String" "COMPACT_STRINGS" "Z" (.int pI4)) (F_coder_pR2 : Fld Z h0 pR2 "java/lang/String" "coder" "B" (.int 1)) (E_pR2 : Exa Z h0 pR2 "java/lang/String") (F_value_pR2 : Fld Z h0 pR2 "java/lang/String" "value" "[B" (.ref pR5)) (V_pR5 : Arv Z h0 pR5 pK6 .byte (8 : Int32) [(.int ((pI801 >>> ((0 : Int32) &&& 31)).toInt8.toInt32)), (.int ((pI801 >>> ((8 : Int32) &&& 31)).toInt8.toInt32)), (.int ((pI802 >>> ((0 : Int32) &&& 31)).toInt8.toInt32)), (.int ((pI802 >>> ((8 : Int32) &&& 31)).toInt8.toInt32)), (.int ((pI803 >>> ((0 : Int32) &&& 31)).toInt8.toInt32)), (.int ((pI803 >>> ((8 : Int32) &&& 31)).toInt8.toInt32)), (.int ((pI804 >>> ((0 : Int32) &&& 31)).toInt8.toInt32)), (.int ((pI804 >>> ((8 : Int32) &&& 31)).toInt8.toInt32))] (.int (0 : Int32))) (S_Preconditions_SIOOBE_FORMATTER : Sta Z h0 "jdk/internal/util/Preconditions" "SIOOBE_FORMATTER" "Ljava/util/function/BiFunction;" pV7) (S_StringUTF16__assertionsDisabled : Sta Z h0 "java/lang/StringUTF16" "$assertionsDisabled" "Z" (.int 1)) (S_StringUTF16_HI_BYTE_SHIFT : Sta Z h0 "java/lang/StringUTF16" "HI_BYTE_SHIFT" "I" (.int 0)) (S_StringUTF16_LO_BYTE_SHIFT : Sta Z h0 "java/lang/StringUTF16" "LO_BYTE_SHIFT" "I" (.int 8)) (hrg : 0 ≤ pI801.toInt ∧ pI801.toInt ≤ 65535) (hc5 : ¬ (pI4 = (0 : Int32))) (hc5' : pV7.isRef = true) :
    oM l yN20 prog_18_method_3_code 3 (some .boolean) ws ({ frames := 5, cells := 0, slots := 0, locals := 66 } : Room) #[(.ref pR1), (.int 0)] Z h0 (QgrU0 Z pR1 pR2 pI4 pR5 pI801 pI802 pI803 pI804 pK6 pV7 h0 n0) := by
  by_cases hc12 : pI801 = (71 : Int32)
  · exact grU0_0 l Z a0 hw ws pR1 pR2 pI4 pR5 pI801 pI802 pI803 pI804 pK6 pV7 h0 n0 Z0 F_state_pR1 S_String_COMPACT_STRINGS F_coder_pR2 E_pR2 F_value_pR2 V_pR5 S_Preconditions_SIOOBE_FORMATTER S_StringUTF16__assertionsDisabled S_StringUTF16_HI_BYTE_SHIFT S_StringUTF16_LO_BYTE_SHIFT hrg hc5 hc5' hc12
  · by_cases hc18 : pI801 = (103 : Int32)
    · exact grU0_1 l Z a0 hw ws pR1 pR2 pI4 pR5 pI801 pI802 pI803 pI804 pK6 pV7 h0 n0 Z0 F_state_pR1 S_String_COMPACT_STRINGS F_coder_pR2 E_pR2 F_value_pR2 V_pR5 S_Preconditions_SIOOBE_FORMATTER S_StringUTF16__assertionsDisabled S_StringUTF16_HI_BYTE_SHIFT S_StringUTF16_LO_BYTE_SHIFT hrg hc5 hc5' hc12 hc18
    · exact grU0_2 l Z a0 hw ws pR1 pR2 pI4 pR5 pI801 pI802 pI803 pI804 pK6 pV7 h0 n0 Z0 F_state_pR1 S_String_COMPACT_STRINGS F_coder_pR2 E_pR2 F_value_pR2 V_pR5 S_Preconditions_SIOOBE_FORMATTER S_StringUTF16__assertionsDisabled S_StringUTF16_HI_BYTE_SHIFT S_StringUTF16_LO_BYTE_SHIFT hrg hc5 hc5' hc12 hc18
theorem ef_lca1 (m : MethodId) (pR1 : Addr) : entryFrame m #[(.ref pR1), (.int 1)] 2 = mkF m 0 #[.val (.ref pR1), .val (.int 1)] [] := by first | (simp [entryFrame, mkF, argsToLocals, Value.category]; done) | rfl
def Qlca1 (Z : State) (pR1 : Addr) (pI801 : Int32) (pI802 : Int32) (pI803 : Int32) (pI804 : Int32) (pK2 : ClassId) (pV4 : Value) (h0 : Heap) (n0 : Nat) (v : Option Value) (h : Heap) (L : List Loc) : Prop := v = some (.int pI802) ∧ Fr n0 L ∧ h = h0
set_option maxRecDepth 65536 in
set_option maxHeartbeats 40000000 in
theorem lca1 (l : Launch) (Z : State) (a0 : Array Value) (hw : ∀ d ∈ tables_1, d.before a0 Z = true) (ws : List Jvm.Cond) (pR1 : Addr) (pI801 : Int32) (pI802 : Int32) (pI803 : Int32) (pI804 : Int32) (pK2 : ClassId) (pV4 : Value) (h0 : Heap) (n0 : Nat) (Z0 : n0 ≤ h0.size) (V_pR1 : Arv Z h0 pR1 pK2 .byte (4 : Int32) [(.int (pI801.toInt8.toInt32)), (.int (pI802.toInt8.toInt32)), (.int (pI803.toInt8.toInt32)), (.int (pI804.toInt8.toInt32))] (.int (0 : Int32))) (S_Preconditions_SIOOBE_FORMATTER : Sta Z h0 "jdk/internal/util/Preconditions" "SIOOBE_FORMATTER" "Ljava/util/function/BiFunction;" pV4) (hrg : 0 ≤ pI802.toInt ∧ pI802.toInt ≤ 65535) (hl : ¬ ((255 : Int32) < pI802)) (hc3 : pV4.isRef = true) :
    oM l yN16 jdk_43_method_2_code 2 (some .char) ws ({ frames := 2, cells := 0, slots := 0, locals := 27 } : Room) #[(.ref pR1), (.int 1)] Z h0 (Qlca1 Z pR1 pI801 pI802 pI803 pI804 pK2 pV4 h0 n0) := by
  refine MetFree.of_bodySF (plainFor_of_name pn_4) hisR ?_
  intro p e s m args below meth c s₁ Bd hml0 hP hK
  obtain ⟨rfl, hZ, hh⟩ := hP
  have hx := Bd.exec
  have hby := Bd.bytes
  have hml : c.maxLocals = 2 := hml0
  have hown : s.vm.findClass "java/lang/StringLatin1" = some m.cls := findClass_of_methodNamed Bd.named
  have hnm := (name_of_methodNamed Bd.named Bd.method).1
  have X0 : Stand p l e ({ frames := 2, cells := 0, slots := 0, locals := 27 } : Room) s m #[(.ref pR1), (.int 1)] below meth c s₁ [] 0 0 := Stand.of_body Bd
  have e0 : s₁.heap = h0 := by rw [← hh, Bd.state]; rfl
  have N0 := Fr.nil n0
  obtain ⟨clq3, Arq3, Akq3, Asq3, Anq3, Ahq3, Agq3⟩ := id V_pR1
  obtain ⟨_, _, ⟨T5, L5, k5, n5⟩, -, X5, ⟨Lc5, hQ5, l5, y5, z5⟩, st5⟩ := Jvm.LawKit.callS X0 hx (y := yN13) hown (mvT hZ (ow hw 64 rfl)) (mvT hZ (ow hw 65 rfl)) (mvT hZ (ow hw 7 rfl)) (mvT hZ (ow hw 66 rfl)) (by decide) (backOf (W := 0) (sci l Z a0 hw [] (1 : Int32) (4 : Int32) pV4 h0 n0 Z0 S_Preconditions_SIOOBE_FORMATTER (by decide) (by decide) hc3) hZ (ow hw 66 rfl) (ow hw 7 rfl) (by decide) (by decide)) (g := (mkF m 3 #[.val (.ref pR1), .val (.int 1)] [(.int 4), (.int 1)])) rfl (by rw [hml]; rfl) (argsL := [(.int 1), (.int 4)]) (rest := []) (lenOf pd_9 rfl) rfl (Nat.le_refl _) (hb hby d12_3) (fun _ _ => ⟨rfl, e0, (by decide : 0 + 0 ≤ _), (by decide : 0 + 0 ≤ _)⟩)
  dsimp only [Pt.U, Pt.locs, Pt.cells, Pt.slots] at X5 l5 y5 z5 st5 hQ5
  subst l5 y5 z5
  obtain ⟨rfl, Nq5, e5⟩ := hQ5
  have N5 := Fr.app N0 Nq5
  obtain ⟨clq6, Arq6, Akq6, Asq6, Anq6, Ahq6, Agq6⟩ := id V_pR1
  have hin7 : ¬ ((1 : Int32) < 0 ∨ clq6.slots.size ≤ ((1 : Int32)).toNatClampNeg) := inb_of Asq6 ⟨by decide, by decide⟩
  obtain ⟨fs, hr, hrun, hended, hW, hsame⟩ := X5.leave (v := some (.int (nar .char (((pI802.toInt8.toInt32) &&& (255 : Int32)).toUInt32.toUInt16.toUInt32.toInt32)))) (fun h => by rw [Bd.returns] at h; cases h)
  refine ⟨_, _, castTop (ef_lca1 m pR1) ?_, hrun, hended, _, _, rfl, ?_, ⟨_, rfl⟩, hW, hsame.mono (by decide) (by decide)⟩
  · show oS p e below s₁ m 0 #[.val (.ref pR1), .val (.int 1)] [] _
    refine XS.iloadN X0.here hx rfl (hb hby d12_0) rfl ?_
    refine XS.aloadN X0.here hx rfl (hb hby d12_1) rfl rfl ?_
    refine X0.arraylength hx (by rw [e0]; exact Arq3.1) (State.isArrayOf_alike hZ.alike Arq3.2.1) (g := (mkF m 2 #[.val (.ref pR1), .val (.int 1)] [(.ref pR1), (.int 1)])) rfl rfl (hb hby d12_2) _ ?_
    rw [len_of Asq3 Anq3]
    refine st5 _ ?_
    refine XS.aloadN X5.here hx rfl (hb hby d12_6) rfl rfl ?_
    refine XS.iloadN X5.here hx rfl (hb hby d12_7) rfl ?_
    show oS p e below T5 m 8 #[.val (.ref pR1), .val (.int 1)] [(.int 1), (.ref pR1)] _
    refine X5.baloadBytes hx (j := (1 : Int32)) (v := (.int (pI802.toInt8.toInt32))) (by rw [e5]; exact Arq6.1) (State.isArrayOf_alike hZ.alike Arq6.2.1) Arq6.2.2 hin7 (Has.at Ahq6 hin7 rfl) (g := (mkF m 8 #[.val (.ref pR1), .val (.int 1)] [(.int 1), (.ref pR1)])) rfl rfl (hb hby d12_8) _ ?_
    refine XS.sipush X5.here hx rfl (hb hby d12_9) ?_
    refine XS.iand X5.here hx rfl (hb hby d12_12) rfl ?_
    refine XS.i2c X5.here hx rfl (hb hby d12_13) rfl ?_
    exact retN X5 hx (t := .char) Bd.returns (by simp) (hb hby d12_14) hr
  · show Qlca1 Z pR1 pI801 pI802 pI803 pI804 pK2 pV4 h0 n0 _ T5.heap _
    rw [e5]
    exact ⟨(by rw [own_latin hrg hl]), N5, rfl⟩
theorem ef_uci1 (m : MethodId) (pR1 : Addr) : entryFrame m #[(.int 1), (.ref pR1)] 2 = mkF m 0 #[.val (.int 1), .val (.ref pR1)] [] := by first | (simp [entryFrame, mkF, argsToLocals, Value.category]; done) | rfl
def Quci1 (Z : State) (pR1 : Addr) (pI801 : Int32) (pI802 : Int32) (pI803 : Int32) (pI804 : Int32) (pK2 : ClassId) (pV4 : Value) (h0 : Heap) (n0 : Nat) (v : Option Value) (h : Heap) (L : List Loc) : Prop := v = none ∧ Fr n0 L ∧ h = h0
set_option maxRecDepth 65536 in
set_option maxHeartbeats 40000000 in
theorem uci1 (l : Launch) (Z : State) (a0 : Array Value) (hw : ∀ d ∈ tables_1, d.before a0 Z = true) (ws : List Jvm.Cond) (pR1 : Addr) (pI801 : Int32) (pI802 : Int32) (pI803 : Int32) (pI804 : Int32) (pK2 : ClassId) (pV4 : Value) (h0 : Heap) (n0 : Nat) (Z0 : n0 ≤ h0.size) (V_pR1 : Arv Z h0 pR1 pK2 .byte (8 : Int32) [(.int ((pI801 >>> ((0 : Int32) &&& 31)).toInt8.toInt32)), (.int ((pI801 >>> ((8 : Int32) &&& 31)).toInt8.toInt32)), (.int ((pI802 >>> ((0 : Int32) &&& 31)).toInt8.toInt32)), (.int ((pI802 >>> ((8 : Int32) &&& 31)).toInt8.toInt32)), (.int ((pI803 >>> ((0 : Int32) &&& 31)).toInt8.toInt32)), (.int ((pI803 >>> ((8 : Int32) &&& 31)).toInt8.toInt32)), (.int ((pI804 >>> ((0 : Int32) &&& 31)).toInt8.toInt32)), (.int ((pI804 >>> ((8 : Int32) &&& 31)).toInt8.toInt32))] (.int (0 : Int32))) (S_Preconditions_SIOOBE_FORMATTER : Sta Z h0 "jdk/internal/util/Preconditions" "SIOOBE_FORMATTER" "Ljava/util/function/BiFunction;" pV4) (hc5 : pV4.isRef = true) :
    oM l yN17 jdk_52_method_91_code 2 none ws ({ frames := 2, cells := 0, slots := 0, locals := 27 } : Room) #[(.int 1), (.ref pR1)] Z h0 (Quci1 Z pR1 pI801 pI802 pI803 pI804 pK2 pV4 h0 n0) := by
  refine MetFree.of_bodySF (plainFor_of_name pn_1) hisR ?_
  intro p e s m args below meth c s₁ Bd hml0 hP hK
  obtain ⟨rfl, hZ, hh⟩ := hP
  have hx := Bd.exec
  have hby := Bd.bytes
  have hml : c.maxLocals = 2 := hml0
  have hown : s.vm.findClass "java/lang/StringUTF16" = some m.cls := findClass_of_methodNamed Bd.named
  have hnm := (name_of_methodNamed Bd.named Bd.method).1
  have X0 : Stand p l e ({ frames := 2, cells := 0, slots := 0, locals := 27 } : Room) s m #[(.int 1), (.ref pR1)] below meth c s₁ [] 0 0 := Stand.of_body Bd
  have e0 : s₁.heap = h0 := by rw [← hh, Bd.state]; rfl
  have N0 := Fr.nil n0
  obtain ⟨_, _, ⟨T3, L3, k3, n3⟩, -, X3, ⟨Lc3, hQ3, l3, y3, z3⟩, st3⟩ := Jvm.LawKit.callS X0 hx (y := yN15) hown (mvT hZ (ow hw 100 rfl)) (mvT hZ (ow hw 101 rfl)) (mvT hZ (ow hw 21 rfl)) (mvT hZ (ow hw 102 rfl)) (by decide) (backOf (W := 1) (ulen l Z a0 hw [] pR1 pI801 pI802 pI803 pI804 pK2 h0 n0 Z0 V_pR1) hZ (ow hw 102 rfl) (ow hw 21 rfl) (by decide) (by decide)) (g := (mkF m 2 #[.val (.int 1), .val (.ref pR1)] [(.ref pR1), (.int 1)])) rfl (by rw [hml]; rfl) (argsL := [(.ref pR1)]) (rest := [(.int 1)]) (lenOf pd_10 rfl) rfl (Nat.le_refl _) (hb hby d22_2) (fun _ _ => ⟨rfl, e0, (by decide : 0 + 0 ≤ _), (by decide : 0 + 0 ≤ _)⟩)
  dsimp only [Pt.U, Pt.locs, Pt.cells, Pt.slots] at X3 l3 y3 z3 st3 hQ3
  subst l3 y3 z3
  obtain ⟨rfl, Nq3, e3⟩ := hQ3
  have N3 := Fr.app N0 Nq3
  obtain ⟨_, _, ⟨T5, L5, k5, n5⟩, -, X5, ⟨Lc5, hQ5, l5, y5, z5⟩, st5⟩ := Jvm.LawKit.callS X3 hx (y := yN13) hown (mvT hZ (ow hw 103 rfl)) (mvT hZ (ow hw 65 rfl)) (mvT hZ (ow hw 7 rfl)) (mvT hZ (ow hw 66 rfl)) (by decide) (backOf (W := 0) (sci l Z a0 hw [] (1 : Int32) (4 : Int32) pV4 h0 n0 Z0 S_Preconditions_SIOOBE_FORMATTER (by decide) (by decide) hc5) hZ (ow hw 66 rfl) (ow hw 7 rfl) (by decide) (by decide)) (g := (mkF m 5 #[.val (.int 1), .val (.ref pR1)] [(.int 4), (.int 1)])) rfl (by rw [hml]; rfl) (argsL := [(.int 1), (.int 4)]) (rest := []) (lenOf pd_9 rfl) rfl (Nat.le_refl _) (hb hby d22_5) (fun _ _ => ⟨rfl, e3, (by decide : 0 + 0 ≤ _), (by decide : 0 + 0 ≤ _)⟩)
  dsimp only [Pt.U, Pt.locs, Pt.cells, Pt.slots] at X5 l5 y5 z5 st5 hQ5
  subst l5 y5 z5
  obtain ⟨rfl, Nq5, e5⟩ := hQ5
  have N5 := Fr.app N3 Nq5
  obtain ⟨fs, hr, hrun, hended, hW, hsame⟩ := X5.leave (v := none) (fun _ => rfl)
  refine ⟨_, _, castTop (ef_uci1 m pR1) ?_, hrun, hended, _, _, rfl, ?_, ⟨_, rfl⟩, hW, hsame.mono (by decide) (by decide)⟩
  · show oS p e below s₁ m 0 #[.val (.int 1), .val (.ref pR1)] [] _
    refine XS.iloadN X0.here hx rfl (hb hby d22_0) rfl ?_
    refine XS.aloadN X0.here hx rfl (hb hby d22_1) rfl rfl ?_
    refine st3 _ ?_
    refine st5 _ ?_
    exact X5.returnOut hx Bd.returns (hb hby d22_8) hr
  · show Quci1 Z pR1 pI801 pI802 pI803 pI804 pK2 pV4 h0 n0 _ T5.heap _
    rw [e5]
    exact ⟨rfl, N5, rfl⟩
theorem ef_uca1 (m : MethodId) (pR1 : Addr) : entryFrame m #[(.ref pR1), (.int 1)] 2 = mkF m 0 #[.val (.ref pR1), .val (.int 1)] [] := by first | (simp [entryFrame, mkF, argsToLocals, Value.category]; done) | rfl
def Quca1 (Z : State) (pR1 : Addr) (pI801 : Int32) (pI802 : Int32) (pI803 : Int32) (pI804 : Int32) (pK2 : ClassId) (pV3 : Value) (h0 : Heap) (n0 : Nat) (v : Option Value) (h : Heap) (L : List Loc) : Prop := v = some (.int pI802) ∧ Fr n0 L ∧ h = h0
set_option maxRecDepth 65536 in
set_option maxHeartbeats 40000000 in
theorem uca1 (l : Launch) (Z : State) (a0 : Array Value) (hw : ∀ d ∈ tables_1, d.before a0 Z = true) (ws : List Jvm.Cond) (pR1 : Addr) (pI801 : Int32) (pI802 : Int32) (pI803 : Int32) (pI804 : Int32) (pK2 : ClassId) (pV3 : Value) (h0 : Heap) (n0 : Nat) (Z0 : n0 ≤ h0.size) (V_pR1 : Arv Z h0 pR1 pK2 .byte (8 : Int32) [(.int ((pI801 >>> ((0 : Int32) &&& 31)).toInt8.toInt32)), (.int ((pI801 >>> ((8 : Int32) &&& 31)).toInt8.toInt32)), (.int ((pI802 >>> ((0 : Int32) &&& 31)).toInt8.toInt32)), (.int ((pI802 >>> ((8 : Int32) &&& 31)).toInt8.toInt32)), (.int ((pI803 >>> ((0 : Int32) &&& 31)).toInt8.toInt32)), (.int ((pI803 >>> ((8 : Int32) &&& 31)).toInt8.toInt32)), (.int ((pI804 >>> ((0 : Int32) &&& 31)).toInt8.toInt32)), (.int ((pI804 >>> ((8 : Int32) &&& 31)).toInt8.toInt32))] (.int (0 : Int32))) (S_Preconditions_SIOOBE_FORMATTER : Sta Z h0 "jdk/internal/util/Preconditions" "SIOOBE_FORMATTER" "Ljava/util/function/BiFunction;" pV3) (S_StringUTF16__assertionsDisabled : Sta Z h0 "java/lang/StringUTF16" "$assertionsDisabled" "Z" (.int 1)) (S_StringUTF16_HI_BYTE_SHIFT : Sta Z h0 "java/lang/StringUTF16" "HI_BYTE_SHIFT" "I" (.int 0)) (S_StringUTF16_LO_BYTE_SHIFT : Sta Z h0 "java/lang/StringUTF16" "LO_BYTE_SHIFT" "I" (.int 8)) (hrg : 0 ≤ pI802.toInt ∧ pI802.toInt ≤ 65535) (hc2 : pV3.isRef = true) :
    oM l yN18 jdk_52_method_83_code 2 (some .char) ws ({ frames := 3, cells := 0, slots := 0, locals := 40 } : Room) #[(.ref pR1), (.int 1)] Z h0 (Quca1 Z pR1 pI801 pI802 pI803 pI804 pK2 pV3 h0 n0) := by
  refine MetFree.of_bodySF (plainFor_of_name pn_1) hisR ?_
  intro p e s m args below meth c s₁ Bd hml0 hP hK
  obtain ⟨rfl, hZ, hh⟩ := hP
  have hx := Bd.exec
  have hby := Bd.bytes
  have hml : c.maxLocals = 2 := hml0
  have hown : s.vm.findClass "java/lang/StringUTF16" = some m.cls := findClass_of_methodNamed Bd.named
  have hnm := (name_of_methodNamed Bd.named Bd.method).1
  have X0 : Stand p l e ({ frames := 3, cells := 0, slots := 0, locals := 40 } : Room) s m #[(.ref pR1), (.int 1)] below meth c s₁ [] 0 0 := Stand.of_body Bd
  have e0 : s₁.heap = h0 := by rw [← hh, Bd.state]; rfl
  have N0 := Fr.nil n0
  obtain ⟨_, _, ⟨T4, L4, k4, n4⟩, -, X4, ⟨Lc4, hQ4, l4, y4, z4⟩, st4⟩ := Jvm.LawKit.callS X0 hx (y := yN17) hown (mvT hZ (ow hw 97 rfl)) (mvT hZ (ow hw 98 rfl)) (mvT hZ (ow hw 21 rfl)) (mvT hZ (ow hw 99 rfl)) (by decide) (backOf (W := 0) (uci1 l Z a0 hw [] pR1 pI801 pI802 pI803 pI804 pK2 pV3 h0 n0 Z0 V_pR1 S_Preconditions_SIOOBE_FORMATTER hc2) hZ (ow hw 99 rfl) (ow hw 21 rfl) (by decide) (by decide)) (g := (mkF m 2 #[.val (.ref pR1), .val (.int 1)] [(.ref pR1), (.int 1)])) rfl (by rw [hml]; rfl) (argsL := [(.int 1), (.ref pR1)]) (rest := []) (lenOf pd_11 rfl) rfl (Nat.le_refl _) (hb hby d21_2) (fun _ _ => ⟨rfl, e0, (by decide : 0 + 0 ≤ _), (by decide : 0 + 0 ≤ _)⟩)
  dsimp only [Pt.U, Pt.locs, Pt.cells, Pt.slots] at X4 l4 y4 z4 st4 hQ4
  subst l4 y4 z4
  obtain ⟨rfl, Nq4, e4⟩ := hQ4
  have N4 := Fr.app N0 Nq4
  obtain ⟨_, _, ⟨T5, L5, k5, n5⟩, -, X5, ⟨Lc5, hQ5, l5, y5, z5⟩, st5⟩ := Jvm.LawKit.callS X4 hx (y := yN7) hown (mvT hZ (ow hw 91 rfl)) (mvT hZ (ow hw 92 rfl)) (mvT hZ (ow hw 21 rfl)) (mvT hZ (ow hw 93 rfl)) (by decide) (backOf (W := 0) (gc1 l Z a0 hw [] pR1 pI801 pI802 pI803 pI804 pK2 h0 n0 Z0 S_StringUTF16__assertionsDisabled V_pR1 S_StringUTF16_HI_BYTE_SHIFT S_StringUTF16_LO_BYTE_SHIFT hrg) hZ (ow hw 93 rfl) (ow hw 21 rfl) (by decide) (by decide)) (g := (mkF m 7 #[.val (.ref pR1), .val (.int 1)] [(.int 1), (.ref pR1)])) rfl (by rw [hml]; rfl) (argsL := [(.ref pR1), (.int 1)]) (rest := []) (lenOf pd_5 rfl) rfl (Nat.le_refl _) (hb hby d21_7) (fun _ _ => ⟨rfl, e4, (by decide : 0 + 0 ≤ _), (by decide : 0 + 0 ≤ _)⟩)
  dsimp only [Pt.U, Pt.locs, Pt.cells, Pt.slots] at X5 l5 y5 z5 st5 hQ5
  subst l5 y5 z5
  obtain ⟨rfl, Nq5, e5⟩ := hQ5
  have N5 := Fr.app N4 Nq5
  obtain ⟨fs, hr, hrun, hended, hW, hsame⟩ := X5.leave (v := some (.int (nar .char pI802))) (fun h => by rw [Bd.returns] at h; cases h)
  refine ⟨_, _, castTop (ef_uca1 m pR1) ?_, hrun, hended, _, _, rfl, ?_, ⟨_, rfl⟩, hW, hsame.mono (by decide) (by decide)⟩
  · show oS p e below s₁ m 0 #[.val (.ref pR1), .val (.int 1)] [] _
    refine XS.iloadN X0.here hx rfl (hb hby d21_0) rfl ?_
    refine XS.aloadN X0.here hx rfl (hb hby d21_1) rfl rfl ?_
    refine st4 _ ?_
    refine XS.aloadN X4.here hx rfl (hb hby d21_5) rfl rfl ?_
    refine XS.iloadN X4.here hx rfl (hb hby d21_6) rfl ?_
    refine st5 _ ?_
    show oS p e below T5 m 10 #[.val (.ref pR1), .val (.int 1)] [(.int pI802)] _
    exact retN X5 hx (t := .char) Bd.returns (by simp) (hb hby d21_10) hr
  · show Quca1 Z pR1 pI801 pI802 pI803 pI804 pK2 pV3 h0 n0 _ T5.heap _
    rw [e5]
    exact ⟨(by rw [own_narc hrg]), N5, rfl⟩
theorem ef_scaL1 (m : MethodId) (pR1 : Addr) : entryFrame m #[(.ref pR1), (.int 1)] 2 = mkF m 0 #[.val (.ref pR1), .val (.int 1)] [] := by first | (simp [entryFrame, mkF, argsToLocals, Value.category]; done) | rfl
def QscaL1 (Z : State) (pR1 : Addr) (pI2 : Int32) (pR4 : Addr) (pI801 : Int32) (pI802 : Int32) (pI803 : Int32) (pI804 : Int32) (pK6 : ClassId) (pV7 : Value) (h0 : Heap) (n0 : Nat) (v : Option Value) (h : Heap) (L : List Loc) : Prop := v = some (.int pI802) ∧ Fr n0 L ∧ h = h0
set_option maxRecDepth 65536 in
set_option maxHeartbeats 40000000 in
theorem scaL1 (l : Launch) (Z : State) (a0 : Array Value) (hw : ∀ d ∈ tables_1, d.before a0 Z = true) (ws : List Jvm.Cond) (pR1 : Addr) (pI2 : Int32) (pR4 : Addr) (pI801 : Int32) (pI802 : Int32) (pI803 : Int32) (pI804 : Int32) (pK6 : ClassId) (pV7 : Value) (h0 : Heap) (n0 : Nat) (Z0 : n0 ≤ h0.size) (S_String_COMPACT_STRINGS : Sta Z h0 "java/lang/String" "COMPACT_STRINGS" "Z" (.int pI2)) (F_coder_pR1 : Fld Z h0 pR1 "java/lang/String" "coder" "B" (.int 0)) (E_pR1 : Exa Z h0 pR1 "java/lang/String") (F_value_pR1 : Fld Z h0 pR1 "java/lang/String" "value" "[B" (.ref pR4)) (V_pR4 : Arv Z h0 pR4 pK6 .byte (4 : Int32) [(.int (pI801.toInt8.toInt32)), (.int (pI802.toInt8.toInt32)), (.int (pI803.toInt8.toInt32)), (.int (pI804.toInt8.toInt32))] (.int (0 : Int32))) (S_Preconditions_SIOOBE_FORMATTER : Sta Z h0 "jdk/internal/util/Preconditions" "SIOOBE_FORMATTER" "Ljava/util/function/BiFunction;" pV7) (hrg : 0 ≤ pI802.toInt ∧ pI802.toInt ≤ 65535) (hl : ¬ ((255 : Int32) < pI802)) (hc1 : ¬ (pI2 = (0 : Int32))) (hc12 : pV7.isRef = true) :
    oM l yN19 jdk_42_method_56_code 2 (some .char) ws ({ frames := 3, cells := 0, slots := 0, locals := 40 } : Room) #[(.ref pR1), (.int 1)] Z h0 (QscaL1 Z pR1 pI2 pR4 pI801 pI802 pI803 pI804 pK6 pV7 h0 n0) := by
  refine MetFree.of_bodySF (plainFor_of_name pn_2) hisR ?_
  intro p e s m args below meth c s₁ Bd hml0 hP hK
  obtain ⟨rfl, hZ, hh⟩ := hP
  have hx := Bd.exec
  have hby := Bd.bytes
  have hml : c.maxLocals = 2 := hml0
  have hown : s.vm.findClass "java/lang/String" = some m.cls := findClass_of_methodNamed Bd.named
  have hnm := (name_of_methodNamed Bd.named Bd.method).1
  have X0 : Stand p l e ({ frames := 3, cells := 0, slots := 0, locals := 40 } : Room) s m #[(.ref pR1), (.int 1)] below meth c s₁ [] 0 0 := Stand.of_body Bd
  have e0 : s₁.heap = h0 := by rw [← hh, Bd.state]; rfl
  have N0 := Fr.nil n0
  obtain ⟨cq3, kq3, q3a, q3b, q3c⟩ := isOf hZ e0 E_pR1
  obtain ⟨_, _, ⟨T3, L3, k3, n3⟩, -, X3, ⟨Lc3, hQ3, l3, y3, z3⟩, st3⟩ := X0.virtualBack hx (y := yN14) (z := yN14) hown (mvT hZ (ow hw 55 rfl)) (mvT hZ (ow hw 56 rfl)) (notFace_of_selects (args := #[]) (mvT hZ (ow hw 58 rfl))) (mvT hZ (ow hw 58 rfl)) (mvT hZ (ow hw 57 rfl)) (by decide) (backOf (W := 0) (islL l Z a0 hw [] pR1 pI2 h0 n0 Z0 S_String_COMPACT_STRINGS F_coder_pR1 hc1) hZ (ow hw 59 rfl) (ow hw 7 rfl) (by decide) (by decide)) q3a q3c (g := (mkF m 1 #[.val (.ref pR1), .val (.int 1)] [(.ref pR1)])) rfl (by rw [hml]; rfl) (Steps.refl _) (argsL := []) (rest := []) (lenOf pd_12 rfl) rfl (Nat.le_refl _) (hb hby d10_1) (fun _ _ => ⟨rfl, e0, (by decide : 0 + 0 ≤ _), (by decide : 0 + 0 ≤ _)⟩)
  dsimp only [Pt.U, Pt.locs, Pt.cells, Pt.slots] at X3 l3 y3 z3 st3 hQ3
  subst l3 y3 z3
  obtain ⟨rfl, Nq3, e3⟩ := hQ3
  have N3 := Fr.app N0 Nq3
  obtain ⟨T5, X5, e5, st5⟩ := getF X3 hx hZ hown (host := "") (Or.inl (ow hw 32 rfl)) Via.refl e3 F_value_pR1 (g := (mkF m 8 #[.val (.ref pR1), .val (.int 1)] [(.ref pR1)])) rfl rfl (hb hby d10_8)
  obtain ⟨_, _, ⟨T8, L8, k8, n8⟩, -, X8, ⟨Lc8, hQ8, l8, y8, z8⟩, st8⟩ := Jvm.LawKit.callS X5 hx (y := yN16) hown (mvT hZ (ow hw 60 rfl)) (mvT hZ (ow hw 61 rfl)) (mvT hZ (ow hw 62 rfl)) (mvT hZ (ow hw 63 rfl)) (by decide) (backOf (W := 0) (lca1 l Z a0 hw [] pR4 pI801 pI802 pI803 pI804 pK6 pV7 h0 n0 Z0 V_pR4 S_Preconditions_SIOOBE_FORMATTER hrg hl hc12) hZ (ow hw 63 rfl) (ow hw 62 rfl) (by decide) (by decide)) (g := (mkF m 12 #[.val (.ref pR1), .val (.int 1)] [(.int 1), (.ref pR4)])) rfl (by rw [hml]; rfl) (argsL := [(.ref pR4), (.int 1)]) (rest := []) (lenOf pd_5 rfl) rfl (Nat.le_refl _) (hb hby d10_12) (fun _ _ => ⟨rfl, e5, (by decide : 0 + 0 ≤ _), (by decide : 0 + 0 ≤ _)⟩)
  dsimp only [Pt.U, Pt.locs, Pt.cells, Pt.slots] at X8 l8 y8 z8 st8 hQ8
  subst l8 y8 z8
  obtain ⟨rfl, Nq8, e8⟩ := hQ8
  have N8 := Fr.app N3 Nq8
  obtain ⟨fs, hr, hrun, hended, hW, hsame⟩ := X8.leave (v := some (.int (nar .char pI802))) (fun h => by rw [Bd.returns] at h; cases h)
  refine ⟨_, _, castTop (ef_scaL1 m pR1) ?_, hrun, hended, _, _, rfl, ?_, ⟨_, rfl⟩, hW, hsame.mono (by decide) (by decide)⟩
  · show oS p e below s₁ m 0 #[.val (.ref pR1), .val (.int 1)] [] _
    refine XS.aloadN X0.here hx rfl (hb hby d10_0) rfl rfl ?_
    refine st3.trans ?_
    refine XS.ifNo X3.here hx rfl (hb hby d10_4) rfl ((if0 _ _).trans (feq (by decide : ¬ ((1 : Int32) = (0 : Int32)))).1) ?_
    refine XS.aloadN X3.here hx rfl (hb hby d10_7) rfl rfl ?_
    refine st5 _ ?_
    refine XS.iloadN X5.here hx rfl (hb hby d10_11) rfl ?_
    show oS p e below T5 m 12 #[.val (.ref pR1), .val (.int 1)] [(.int 1), (.ref pR4)] _
    refine st8 _ ?_
    exact retN X8 hx (t := .char) Bd.returns (by simp) (hb hby d10_15) hr
  · show QscaL1 Z pR1 pI2 pR4 pI801 pI802 pI803 pI804 pK6 pV7 h0 n0 _ T8.heap _
    rw [e8]
    exact ⟨(by rw [own_narc hrg]), N8, rfl⟩
theorem ef_scaU1 (m : MethodId) (pR1 : Addr) : entryFrame m #[(.ref pR1), (.int 1)] 2 = mkF m 0 #[.val (.ref pR1), .val (.int 1)] [] := by first | (simp [entryFrame, mkF, argsToLocals, Value.category]; done) | rfl
def QscaU1 (Z : State) (pR1 : Addr) (pI2 : Int32) (pR4 : Addr) (pI801 : Int32) (pI802 : Int32) (pI803 : Int32) (pI804 : Int32) (pK6 : ClassId) (pV7 : Value) (h0 : Heap) (n0 : Nat) (v : Option Value) (h : Heap) (L : List Loc) : Prop := v = some (.int pI802) ∧ Fr n0 L ∧ h = h0
set_option maxRecDepth 65536 in
set_option maxHeartbeats 40000000 in
theorem scaU1 (l : Launch) (Z : State) (a0 : Array Value) (hw : ∀ d ∈ tables_1, d.before a0 Z = true) (ws : List Jvm.Cond) (pR1 : Addr) (pI2 : Int32) (pR4 : Addr) (pI801 : Int32) (pI802 : Int32) (pI803 : Int32) (pI804 : Int32) (pK6 : ClassId) (pV7 : Value) (h0 : Heap) (n0 : Nat) (Z0 : n0 ≤ h0.size) (S_String_COMPACT_STRINGS : Sta Z h0 "java/lang/String" "COMPACT_STRINGS" "Z" (.int pI2)) (F_coder_pR1 : Fld Z h0 pR1 "java/lang/String" "coder" "B" (.int 1)) (E_pR1 : Exa Z h0 pR1 "java/lang/String") (F_value_pR1 : Fld Z h0 pR1 "java/lang/String" "value" "[B" (.ref pR4)) (V_pR4 : Arv Z h0 pR4 pK6 .byte (8 : Int32) [(.int ((pI801 >>> ((0 : Int32) &&& 31)).toInt8.toInt32)), (.int ((pI801 >>> ((8 : Int32) &&& 31)).toInt8.toInt32)), (.int ((pI802 >>> ((0 : Int32) &&& 31)).toInt8.toInt32)), (.int ((pI802 >>> ((8 : Int32) &&& 31)).toInt8.toInt32)), (.int ((pI803 >>> ((0 : Int32) &&& 31)).toInt8.toInt32)), (.int ((pI803 >>> ((8 : Int32) &&& 31)).toInt8.toInt32)), (.int ((pI804 >>> ((0 : Int32) &&& 31)).toInt8.toInt32)), (.int ((pI804 >>> ((8 : Int32) &&& 31)).toInt8.toInt32))] (.int (0 : Int32))) (S_Preconditions_SIOOBE_FORMATTER : Sta Z h0 "jdk/internal/util/Preconditions" "SIOOBE_FORMATTER" "Ljava/util/function/BiFunction;" pV7) (S_StringUTF16__assertionsDisabled : Sta Z h0 "java/lang/StringUTF16" "$assertionsDisabled" "Z" (.int 1)) (S_StringUTF16_HI_BYTE_SHIFT : Sta Z h0 "java/lang/StringUTF16" "HI_BYTE_SHIFT" "I" (.int 0)) (S_StringUTF16_LO_BYTE_SHIFT : Sta Z h0 "java/lang/StringUTF16" "LO_BYTE_SHIFT" "I" (.int 8)) (hrg : 0 ≤ pI802.toInt ∧ pI802.toInt ≤ 65535) (hc1 : ¬ (pI2 = (0 : Int32))) (hc21 : pV7.isRef = true) :
    oM l yN19 jdk_42_method_56_code 2 (some .char) ws ({ frames := 4, cells := 0, slots := 0, locals := 53 } : Room) #[(.ref pR1), (.int 1)] Z h0 (QscaU1 Z pR1 pI2 pR4 pI801 pI802 pI803 pI804 pK6 pV7 h0 n0) := by
  refine MetFree.of_bodySF (plainFor_of_name pn_2) hisR ?_
  intro p e s m args below meth c s₁ Bd hml0 hP hK
  obtain ⟨rfl, hZ, hh⟩ := hP
  have hx := Bd.exec
  have hby := Bd.bytes
  have hml : c.maxLocals = 2 := hml0
  have hown : s.vm.findClass "java/lang/String" = some m.cls := findClass_of_methodNamed Bd.named
  have hnm := (name_of_methodNamed Bd.named Bd.method).1
  have X0 : Stand p l e ({ frames := 4, cells := 0, slots := 0, locals := 53 } : Room) s m #[(.ref pR1), (.int 1)] below meth c s₁ [] 0 0 := Stand.of_body Bd
  have e0 : s₁.heap = h0 := by rw [← hh, Bd.state]; rfl
  have N0 := Fr.nil n0
  obtain ⟨cq3, kq3, q3a, q3b, q3c⟩ := isOf hZ e0 E_pR1
  obtain ⟨_, _, ⟨T3, L3, k3, n3⟩, -, X3, ⟨Lc3, hQ3, l3, y3, z3⟩, st3⟩ := X0.virtualBack hx (y := yN14) (z := yN14) hown (mvT hZ (ow hw 55 rfl)) (mvT hZ (ow hw 56 rfl)) (notFace_of_selects (args := #[]) (mvT hZ (ow hw 58 rfl))) (mvT hZ (ow hw 58 rfl)) (mvT hZ (ow hw 57 rfl)) (by decide) (backOf (W := 0) (islU l Z a0 hw [] pR1 pI2 h0 n0 Z0 S_String_COMPACT_STRINGS F_coder_pR1 hc1) hZ (ow hw 59 rfl) (ow hw 7 rfl) (by decide) (by decide)) q3a q3c (g := (mkF m 1 #[.val (.ref pR1), .val (.int 1)] [(.ref pR1)])) rfl (by rw [hml]; rfl) (Steps.refl _) (argsL := []) (rest := []) (lenOf pd_12 rfl) rfl (Nat.le_refl _) (hb hby d10_1) (fun _ _ => ⟨rfl, e0, (by decide : 0 + 0 ≤ _), (by decide : 0 + 0 ≤ _)⟩)
  dsimp only [Pt.U, Pt.locs, Pt.cells, Pt.slots] at X3 l3 y3 z3 st3 hQ3
  subst l3 y3 z3
  obtain ⟨rfl, Nq3, e3⟩ := hQ3
  have N3 := Fr.app N0 Nq3
  obtain ⟨T5, X5, e5, st5⟩ := getF X3 hx hZ hown (host := "") (Or.inl (ow hw 32 rfl)) Via.refl e3 F_value_pR1 (g := (mkF m 17 #[.val (.ref pR1), .val (.int 1)] [(.ref pR1)])) rfl rfl (hb hby d10_17)
  obtain ⟨_, _, ⟨T8, L8, k8, n8⟩, -, X8, ⟨Lc8, hQ8, l8, y8, z8⟩, st8⟩ := Jvm.LawKit.callS X5 hx (y := yN18) hown (mvT hZ (ow hw 94 rfl)) (mvT hZ (ow hw 95 rfl)) (mvT hZ (ow hw 21 rfl)) (mvT hZ (ow hw 96 rfl)) (by decide) (backOf (W := 0) (uca1 l Z a0 hw [] pR4 pI801 pI802 pI803 pI804 pK6 pV7 h0 n0 Z0 V_pR4 S_Preconditions_SIOOBE_FORMATTER S_StringUTF16__assertionsDisabled S_StringUTF16_HI_BYTE_SHIFT S_StringUTF16_LO_BYTE_SHIFT hrg hc21) hZ (ow hw 96 rfl) (ow hw 21 rfl) (by decide) (by decide)) (g := (mkF m 21 #[.val (.ref pR1), .val (.int 1)] [(.int 1), (.ref pR4)])) rfl (by rw [hml]; rfl) (argsL := [(.ref pR4), (.int 1)]) (rest := []) (lenOf pd_5 rfl) rfl (Nat.le_refl _) (hb hby d10_21) (fun _ _ => ⟨rfl, e5, (by decide : 0 + 0 ≤ _), (by decide : 0 + 0 ≤ _)⟩)
  dsimp only [Pt.U, Pt.locs, Pt.cells, Pt.slots] at X8 l8 y8 z8 st8 hQ8
  subst l8 y8 z8
  obtain ⟨rfl, Nq8, e8⟩ := hQ8
  have N8 := Fr.app N3 Nq8
  obtain ⟨fs, hr, hrun, hended, hW, hsame⟩ := X8.leave (v := some (.int (nar .char pI802))) (fun h => by rw [Bd.returns] at h; cases h)
  refine ⟨_, _, castTop (ef_scaU1 m pR1) ?_, hrun, hended, _, _, rfl, ?_, ⟨_, rfl⟩, hW, hsame.mono (by decide) (by decide)⟩
  · show oS p e below s₁ m 0 #[.val (.ref pR1), .val (.int 1)] [] _
    refine XS.aloadN X0.here hx rfl (hb hby d10_0) rfl rfl ?_
    refine st3.trans ?_
    refine XS.ifYes X3.here hx rfl (pc0 := 4) (pc' := 16) rfl (hb hby d10_4) rfl ((if0 _ _).trans (teq (by decide : (0 : Int32) = (0 : Int32))).1) (by decide) (by decide) ?_
    refine XS.aloadN X3.here hx rfl (hb hby d10_16) rfl rfl ?_
    refine st5 _ ?_
    refine XS.iloadN X5.here hx rfl (hb hby d10_20) rfl ?_
    show oS p e below T5 m 21 #[.val (.ref pR1), .val (.int 1)] [(.int 1), (.ref pR4)] _
    refine st8 _ ?_
    exact retN X8 hx (t := .char) Bd.returns (by simp) (hb hby d10_24) hr
  · show QscaU1 Z pR1 pI2 pR4 pI801 pI802 pI803 pI804 pK6 pV7 h0 n0 _ T8.heap _
    rw [e8]
    exact ⟨(by rw [own_narc hrg]), N8, rfl⟩
theorem ef_grL1_0 (m : MethodId) (pR1 : Addr) : entryFrame m #[(.ref pR1), (.int 1)] 3 = mkF m 0 #[.val (.ref pR1), .val (.int 1), .unset] [] := by first | (simp [entryFrame, mkF, argsToLocals, Value.category]; done) | rfl
def QgrL1 (Z : State) (pR1 : Addr) (pR2 : Addr) (pI4 : Int32) (pR5 : Addr) (pI801 : Int32) (pI802 : Int32) (pI803 : Int32) (pI804 : Int32) (pK6 : ClassId) (pV7 : Value) (h0 : Heap) (n0 : Nat) (v : Option Value) (h : Heap) (L : List Loc) : Prop := v = some (.int (own_green pI802)) ∧ Fr n0 L ∧ h = h0
set_option maxRecDepth 65536 in
set_option maxHeartbeats 40000000 in
theorem grL1_0 (l : Launch) (Z : State) (a0 : Array Value) (hw : ∀ d ∈ tables_1, d.before a0 Z = true) (ws : List Jvm.Cond) (pR1 : Addr) (pR2 : Addr) (pI4 : Int32) (pR5 : Addr) (pI801 : Int32) (pI802 : Int32) (pI803 : Int32) (pI804 : Int32) (pK6 : ClassId) (pV7 : Value) (h0 : Heap) (n0 : Nat) (Z0 : n0 ≤ h0.size) (F_state_pR1 : Fld Z h0 pR1 "com/example/watchful_junction/watchfuljunction/importer/Network$Phase" "state" "Ljava/lang/String;" (.ref pR2)) (S_String_COMPACT_STRINGS : Sta Z h0 "java/lang/String" "COMPACT_STRINGS" "Z" (.int pI4)) (F_coder_pR2 : Fld Z h0 pR2 "java/lang/String" "coder" "B" (.int 0)) (E_pR2 : Exa Z h0 pR2 "java/lang/String") (F_value_pR2 : Fld Z h0 pR2 "java/lang/String" "value" "[B" (.ref pR5)) (V_pR5 : Arv Z h0 pR5 pK6 .byte (4 : Int32) [(.int (pI801.toInt8.toInt32)), (.int (pI802.toInt8.toInt32)), (.int (pI803.toInt8.toInt32)), (.int (pI804.toInt8.toInt32))] (.int (0 : Int32))) (S_Preconditions_SIOOBE_FORMATTER : Sta Z h0 "jdk/internal/util/Preconditions" "SIOOBE_FORMATTER" "Ljava/util/function/BiFunction;" pV7) (hrg : 0 ≤ pI802.toInt ∧ pI802.toInt ≤ 65535) (hl : ¬ ((255 : Int32) < pI802)) (hc5 : ¬ (pI4 = (0 : Int32))) (hc5' : pV7.isRef = true) (hc12 : pI802 = (71 : Int32)) :
    oM l yN20 prog_18_method_3_code 3 (some .boolean) ws ({ frames := 4, cells := 0, slots := 0, locals := 53 } : Room) #[(.ref pR1), (.int 1)] Z h0 (QgrL1 Z pR1 pR2 pI4 pR5 pI801 pI802 pI803 pI804 pK6 pV7 h0 n0) := by
  refine MetFree.of_bodySF (plainFor_of_name pn_5) hisR ?_
  intro p e s m args below meth c s₁ Bd hml0 hP hK
  obtain ⟨rfl, hZ, hh⟩ := hP
  have hx := Bd.exec
  have hby := Bd.bytes
  have hml : c.maxLocals = 3 := hml0
  have hown : s.vm.findClass "com/example/watchful_junction/watchfuljunction/importer/Network$Phase" = some m.cls := findClass_of_methodNamed Bd.named
  have hnm := (name_of_methodNamed Bd.named Bd.method).1
  have X0 : Stand p l e ({ frames := 4, cells := 0, slots := 0, locals := 53 } : Room) s m #[(.ref pR1), (.int 1)] below meth c s₁ [] 0 0 := Stand.of_body Bd
  have e0 : s₁.heap = h0 := by rw [← hh, Bd.state]; rfl
  have N0 := Fr.nil n0
  obtain ⟨T3, X3, e3, st3⟩ := getF X0 hx hZ hown (host := "") (Or.inl (ow hw 43 rfl)) Via.refl e0 F_state_pR1 (g := (mkF m 1 #[.val (.ref pR1), .val (.int 1), .unset] [(.ref pR1)])) rfl rfl (hb hby d9_1)
  obtain ⟨cq8, kq8, q8a, q8b, q8c⟩ := isOf hZ e3 E_pR2
  obtain ⟨_, _, ⟨T8, L8, k8, n8⟩, -, X8, ⟨Lc8, hQ8, l8, y8, z8⟩, st8⟩ := X3.virtualBack hx (y := yN19) (z := yN19) hown (mvT hZ (ow hw 50 rfl)) (mvT hZ (ow hw 51 rfl)) (notFace_of_selects (args := #[]) (mvT hZ (ow hw 53 rfl))) (mvT hZ (ow hw 53 rfl)) (mvT hZ (ow hw 52 rfl)) (by decide) (backOf (W := 0) (scaL1 l Z a0 hw [] pR2 pI4 pR5 pI801 pI802 pI803 pI804 pK6 pV7 h0 n0 Z0 S_String_COMPACT_STRINGS F_coder_pR2 E_pR2 F_value_pR2 V_pR5 S_Preconditions_SIOOBE_FORMATTER hrg hl hc5 hc5') hZ (ow hw 54 rfl) (ow hw 7 rfl) (by decide) (by decide)) q8a q8c (g := (mkF m 5 #[.val (.ref pR1), .val (.int 1), .unset] [(.int 1), (.ref pR2)])) rfl (by rw [hml]; rfl) (Steps.refl _) (argsL := [(.int 1)]) (rest := []) (lenOf pd_13 rfl) rfl (Nat.le_refl _) (hb hby d9_5) (fun _ _ => ⟨rfl, e3, (by decide : 0 + 0 ≤ _), (by decide : 0 + 0 ≤ _)⟩)
  dsimp only [Pt.U, Pt.locs, Pt.cells, Pt.slots] at X8 l8 y8 z8 st8 hQ8
  subst l8 y8 z8
  obtain ⟨rfl, Nq8, e8⟩ := hQ8
  have N8 := Fr.app N0 Nq8
  obtain ⟨fs, hr, hrun, hended, hW, hsame⟩ := X8.leave (v := some (.int 1)) (fun h => by rw [Bd.returns] at h; cases h)
  refine ⟨_, _, castTop (ef_grL1_0 m pR1) ?_, hrun, hended, _, _, rfl, ?_, ⟨_, rfl⟩, hW, hsame.mono (by decide) (by decide)⟩
  · show oS p e below s₁ m 0 #[.val (.ref pR1), .val (.int 1), .unset] [] _
    refine XS.aloadN X0.here hx rfl (hb hby d9_0) rfl rfl ?_
    refine st3 _ ?_
    refine XS.iloadN X3.here hx rfl (hb hby d9_4) rfl ?_
    refine st8.trans ?_
    refine XS.istoreN X8.here hx rfl (hb hby d9_8) rfl (l' := #[.val (.ref pR1), .val (.int 1), .val (.int pI802)]) rfl ?_
    refine XS.iloadN X8.here hx rfl (hb hby d9_9) rfl ?_
    show oS p e below T8 m 10 #[.val (.ref pR1), .val (.int 1), .val (.int pI802)] [(.int pI802)] _
    refine XS.bipush X8.here hx rfl (hb hby d9_10) ?_
    refine XS.icmpYes X8.here hx rfl (pc0 := 12) (pc' := 21) rfl (hb hby d9_12) rfl (teq hc12).1 (by decide) (by decide) ?_
    refine XS.iconst X8.here hx rfl (hb hby d9_21) ?_
    refine XS.goto X8.here hx rfl (pc0 := 22) (pc' := 26) rfl (hb hby d9_22) (by decide) (by decide) ?_
    exact retN X8 hx (t := .boolean) Bd.returns (by simp) (hb hby d9_26) hr
  · show QgrL1 Z pR1 pR2 pI4 pR5 pI801 pI802 pI803 pI804 pK6 pV7 h0 n0 _ T8.heap _
    rw [e8]
    exact ⟨(by simp [own_green, hc12]), N8, rfl⟩
theorem ef_grL1_1 (m : MethodId) (pR1 : Addr) : entryFrame m #[(.ref pR1), (.int 1)] 3 = mkF m 0 #[.val (.ref pR1), .val (.int 1), .unset] [] := by first | (simp [entryFrame, mkF, argsToLocals, Value.category]; done) | rfl
set_option maxRecDepth 65536 in
set_option maxHeartbeats 40000000 in
theorem grL1_1 (l : Launch) (Z : State) (a0 : Array Value) (hw : ∀ d ∈ tables_1, d.before a0 Z = true) (ws : List Jvm.Cond) (pR1 : Addr) (pR2 : Addr) (pI4 : Int32) (pR5 : Addr) (pI801 : Int32) (pI802 : Int32) (pI803 : Int32) (pI804 : Int32) (pK6 : ClassId) (pV7 : Value) (h0 : Heap) (n0 : Nat) (Z0 : n0 ≤ h0.size) (F_state_pR1 : Fld Z h0 pR1 "com/example/watchful_junction/watchfuljunction/importer/Network$Phase" "state" "Ljava/lang/String;" (.ref pR2)) (S_String_COMPACT_STRINGS : Sta Z h0 "java/lang/String" "COMPACT_STRINGS" "Z" (.int pI4)) (F_coder_pR2 : Fld Z h0 pR2 "java/lang/String" "coder" "B" (.int 0)) (E_pR2 : Exa Z h0 pR2 "java/lang/String") (F_value_pR2 : Fld Z h0 pR2 "java/lang/String" "value" "[B" (.ref pR5)) (V_pR5 : Arv Z h0 pR5 pK6 .byte (4 : Int32) [(.int (pI801.toInt8.toInt32)), (.int (pI802.toInt8.toInt32)), (.int (pI803.toInt8.toInt32)), (.int (pI804.toInt8.toInt32))] (.int (0 : Int32))) (S_Preconditions_SIOOBE_FORMATTER : Sta Z h0 "jdk/internal/util/Preconditions" "SIOOBE_FORMATTER" "Ljava/util/function/BiFunction;" pV7) (hrg : 0 ≤ pI802.toInt ∧ pI802.toInt ≤ 65535) (hl : ¬ ((255 : Int32) < pI802)) (hc5 : ¬ (pI4 = (0 : Int32))) (hc5' : pV7.isRef = true) (hc12 : ¬ (pI802 = (71 : Int32))) (hc18 : pI802 = (103 : Int32)) :
    oM l yN20 prog_18_method_3_code 3 (some .boolean) ws ({ frames := 4, cells := 0, slots := 0, locals := 53 } : Room) #[(.ref pR1), (.int 1)] Z h0 (QgrL1 Z pR1 pR2 pI4 pR5 pI801 pI802 pI803 pI804 pK6 pV7 h0 n0) := by
  refine MetFree.of_bodySF (plainFor_of_name pn_5) hisR ?_
  intro p e s m args below meth c s₁ Bd hml0 hP hK
  obtain ⟨rfl, hZ, hh⟩ := hP
  have hx := Bd.exec
  have hby := Bd.bytes
  have hml : c.maxLocals = 3 := hml0
  have hown : s.vm.findClass "com/example/watchful_junction/watchfuljunction/importer/Network$Phase" = some m.cls := findClass_of_methodNamed Bd.named
  have hnm := (name_of_methodNamed Bd.named Bd.method).1
  have X0 : Stand p l e ({ frames := 4, cells := 0, slots := 0, locals := 53 } : Room) s m #[(.ref pR1), (.int 1)] below meth c s₁ [] 0 0 := Stand.of_body Bd
  have e0 : s₁.heap = h0 := by rw [← hh, Bd.state]; rfl
  have N0 := Fr.nil n0
  obtain ⟨T3, X3, e3, st3⟩ := getF X0 hx hZ hown (host := "") (Or.inl (ow hw 43 rfl)) Via.refl e0 F_state_pR1 (g := (mkF m 1 #[.val (.ref pR1), .val (.int 1), .unset] [(.ref pR1)])) rfl rfl (hb hby d9_1)
  obtain ⟨cq8, kq8, q8a, q8b, q8c⟩ := isOf hZ e3 E_pR2
  obtain ⟨_, _, ⟨T8, L8, k8, n8⟩, -, X8, ⟨Lc8, hQ8, l8, y8, z8⟩, st8⟩ := X3.virtualBack hx (y := yN19) (z := yN19) hown (mvT hZ (ow hw 50 rfl)) (mvT hZ (ow hw 51 rfl)) (notFace_of_selects (args := #[]) (mvT hZ (ow hw 53 rfl))) (mvT hZ (ow hw 53 rfl)) (mvT hZ (ow hw 52 rfl)) (by decide) (backOf (W := 0) (scaL1 l Z a0 hw [] pR2 pI4 pR5 pI801 pI802 pI803 pI804 pK6 pV7 h0 n0 Z0 S_String_COMPACT_STRINGS F_coder_pR2 E_pR2 F_value_pR2 V_pR5 S_Preconditions_SIOOBE_FORMATTER hrg hl hc5 hc5') hZ (ow hw 54 rfl) (ow hw 7 rfl) (by decide) (by decide)) q8a q8c (g := (mkF m 5 #[.val (.ref pR1), .val (.int 1), .unset] [(.int 1), (.ref pR2)])) rfl (by rw [hml]; rfl) (Steps.refl _) (argsL := [(.int 1)]) (rest := []) (lenOf pd_13 rfl) rfl (Nat.le_refl _) (hb hby d9_5) (fun _ _ => ⟨rfl, e3, (by decide : 0 + 0 ≤ _), (by decide : 0 + 0 ≤ _)⟩)
  dsimp only [Pt.U, Pt.locs, Pt.cells, Pt.slots] at X8 l8 y8 z8 st8 hQ8
  subst l8 y8 z8
  obtain ⟨rfl, Nq8, e8⟩ := hQ8
  have N8 := Fr.app N0 Nq8
  obtain ⟨fs, hr, hrun, hended, hW, hsame⟩ := X8.leave (v := some (.int 1)) (fun h => by rw [Bd.returns] at h; cases h)
  refine ⟨_, _, castTop (ef_grL1_1 m pR1) ?_, hrun, hended, _, _, rfl, ?_, ⟨_, rfl⟩, hW, hsame.mono (by decide) (by decide)⟩
  · show oS p e below s₁ m 0 #[.val (.ref pR1), .val (.int 1), .unset] [] _
    refine XS.aloadN X0.here hx rfl (hb hby d9_0) rfl rfl ?_
    refine st3 _ ?_
    refine XS.iloadN X3.here hx rfl (hb hby d9_4) rfl ?_
    refine st8.trans ?_
    refine XS.istoreN X8.here hx rfl (hb hby d9_8) rfl (l' := #[.val (.ref pR1), .val (.int 1), .val (.int pI802)]) rfl ?_
    refine XS.iloadN X8.here hx rfl (hb hby d9_9) rfl ?_
    show oS p e below T8 m 10 #[.val (.ref pR1), .val (.int 1), .val (.int pI802)] [(.int pI802)] _
    refine XS.bipush X8.here hx rfl (hb hby d9_10) ?_
    refine XS.icmpNo X8.here hx rfl (hb hby d9_12) rfl (feq hc12).1 ?_
    refine XS.iloadN X8.here hx rfl (hb hby d9_15) rfl ?_
    refine XS.bipush X8.here hx rfl (hb hby d9_16) ?_
    refine XS.icmpNo X8.here hx rfl (hb hby d9_18) rfl (teq hc18).2 ?_
    refine XS.iconst X8.here hx rfl (hb hby d9_21) ?_
    show oS p e below T8 m 22 #[.val (.ref pR1), .val (.int 1), .val (.int pI802)] [(.int 1)] _
    refine XS.goto X8.here hx rfl (pc0 := 22) (pc' := 26) rfl (hb hby d9_22) (by decide) (by decide) ?_
    exact retN X8 hx (t := .boolean) Bd.returns (by simp) (hb hby d9_26) hr
  · show QgrL1 Z pR1 pR2 pI4 pR5 pI801 pI802 pI803 pI804 pK6 pV7 h0 n0 _ T8.heap _
    rw [e8]
    exact ⟨(by simp [own_green, hc18]), N8, rfl⟩
theorem ef_grL1_2 (m : MethodId) (pR1 : Addr) : entryFrame m #[(.ref pR1), (.int 1)] 3 = mkF m 0 #[.val (.ref pR1), .val (.int 1), .unset] [] := by first | (simp [entryFrame, mkF, argsToLocals, Value.category]; done) | rfl
set_option maxRecDepth 65536 in
set_option maxHeartbeats 40000000 in
theorem grL1_2 (l : Launch) (Z : State) (a0 : Array Value) (hw : ∀ d ∈ tables_1, d.before a0 Z = true) (ws : List Jvm.Cond) (pR1 : Addr) (pR2 : Addr) (pI4 : Int32) (pR5 : Addr) (pI801 : Int32) (pI802 : Int32) (pI803 : Int32) (pI804 : Int32) (pK6 : ClassId) (pV7 : Value) (h0 : Heap) (n0 : Nat) (Z0 : n0 ≤ h0.size) (F_state_pR1 : Fld Z h0 pR1 "com/example/watchful_junction/watchfuljunction/importer/Network$Phase" "state" "Ljava/lang/String;" (.ref pR2)) (S_String_COMPACT_STRINGS : Sta Z h0 "java/lang/String" "COMPACT_STRINGS" "Z" (.int pI4)) (F_coder_pR2 : Fld Z h0 pR2 "java/lang/String" "coder" "B" (.int 0)) (E_pR2 : Exa Z h0 pR2 "java/lang/String") (F_value_pR2 : Fld Z h0 pR2 "java/lang/String" "value" "[B" (.ref pR5)) (V_pR5 : Arv Z h0 pR5 pK6 .byte (4 : Int32) [(.int (pI801.toInt8.toInt32)), (.int (pI802.toInt8.toInt32)), (.int (pI803.toInt8.toInt32)), (.int (pI804.toInt8.toInt32))] (.int (0 : Int32))) (S_Preconditions_SIOOBE_FORMATTER : Sta Z h0 "jdk/internal/util/Preconditions" "SIOOBE_FORMATTER" "Ljava/util/function/BiFunction;" pV7) (hrg : 0 ≤ pI802.toInt ∧ pI802.toInt ≤ 65535) (hl : ¬ ((255 : Int32) < pI802)) (hc5 : ¬ (pI4 = (0 : Int32))) (hc5' : pV7.isRef = true) (hc12 : ¬ (pI802 = (71 : Int32))) (hc18 : ¬ (pI802 = (103 : Int32))) :
    oM l yN20 prog_18_method_3_code 3 (some .boolean) ws ({ frames := 4, cells := 0, slots := 0, locals := 53 } : Room) #[(.ref pR1), (.int 1)] Z h0 (QgrL1 Z pR1 pR2 pI4 pR5 pI801 pI802 pI803 pI804 pK6 pV7 h0 n0) := by
  refine MetFree.of_bodySF (plainFor_of_name pn_5) hisR ?_
  intro p e s m args below meth c s₁ Bd hml0 hP hK
  obtain ⟨rfl, hZ, hh⟩ := hP
  have hx := Bd.exec
  have hby := Bd.bytes
  have hml : c.maxLocals = 3 := hml0
  have hown : s.vm.findClass "com/example/watchful_junction/watchfuljunction/importer/Network$Phase" = some m.cls := findClass_of_methodNamed Bd.named
  have hnm := (name_of_methodNamed Bd.named Bd.method).1
  have X0 : Stand p l e ({ frames := 4, cells := 0, slots := 0, locals := 53 } : Room) s m #[(.ref pR1), (.int 1)] below meth c s₁ [] 0 0 := Stand.of_body Bd
  have e0 : s₁.heap = h0 := by rw [← hh, Bd.state]; rfl
  have N0 := Fr.nil n0
  obtain ⟨T3, X3, e3, st3⟩ := getF X0 hx hZ hown (host := "") (Or.inl (ow hw 43 rfl)) Via.refl e0 F_state_pR1 (g := (mkF m 1 #[.val (.ref pR1), .val (.int 1), .unset] [(.ref pR1)])) rfl rfl (hb hby d9_1)
  obtain ⟨cq8, kq8, q8a, q8b, q8c⟩ := isOf hZ e3 E_pR2
  obtain ⟨_, _, ⟨T8, L8, k8, n8⟩, -, X8, ⟨Lc8, hQ8, l8, y8, z8⟩, st8⟩ := X3.virtualBack hx (y := yN19) (z := yN19) hown (mvT hZ (ow hw 50 rfl)) (mvT hZ (ow hw 51 rfl)) (notFace_of_selects (args := #[]) (mvT hZ (ow hw 53 rfl))) (mvT hZ (ow hw 53 rfl)) (mvT hZ (ow hw 52 rfl)) (by decide) (backOf (W := 0) (scaL1 l Z a0 hw [] pR2 pI4 pR5 pI801 pI802 pI803 pI804 pK6 pV7 h0 n0 Z0 S_String_COMPACT_STRINGS F_coder_pR2 E_pR2 F_value_pR2 V_pR5 S_Preconditions_SIOOBE_FORMATTER hrg hl hc5 hc5') hZ (ow hw 54 rfl) (ow hw 7 rfl) (by decide) (by decide)) q8a q8c (g := (mkF m 5 #[.val (.ref pR1), .val (.int 1), .unset] [(.int 1), (.ref pR2)])) rfl (by rw [hml]; rfl) (Steps.refl _) (argsL := [(.int 1)]) (rest := []) (lenOf pd_13 rfl) rfl (Nat.le_refl _) (hb hby d9_5) (fun _ _ => ⟨rfl, e3, (by decide : 0 + 0 ≤ _), (by decide : 0 + 0 ≤ _)⟩)
  dsimp only [Pt.U, Pt.locs, Pt.cells, Pt.slots] at X8 l8 y8 z8 st8 hQ8
  subst l8 y8 z8
  obtain ⟨rfl, Nq8, e8⟩ := hQ8
  have N8 := Fr.app N0 Nq8
  obtain ⟨fs, hr, hrun, hended, hW, hsame⟩ := X8.leave (v := some (.int 0)) (fun h => by rw [Bd.returns] at h; cases h)
  refine ⟨_, _, castTop (ef_grL1_2 m pR1) ?_, hrun, hended, _, _, rfl, ?_, ⟨_, rfl⟩, hW, hsame.mono (by decide) (by decide)⟩
  · show oS p e below s₁ m 0 #[.val (.ref pR1), .val (.int 1), .unset] [] _
    refine XS.aloadN X0.here hx rfl (hb hby d9_0) rfl rfl ?_
    refine st3 _ ?_
    refine XS.iloadN X3.here hx rfl (hb hby d9_4) rfl ?_
    refine st8.trans ?_
    refine XS.istoreN X8.here hx rfl (hb hby d9_8) rfl (l' := #[.val (.ref pR1), .val (.int 1), .val (.int pI802)]) rfl ?_
    refine XS.iloadN X8.here hx rfl (hb hby d9_9) rfl ?_
    show oS p e below T8 m 10 #[.val (.ref pR1), .val (.int 1), .val (.int pI802)] [(.int pI802)] _
    refine XS.bipush X8.here hx rfl (hb hby d9_10) ?_
    refine XS.icmpNo X8.here hx rfl (hb hby d9_12) rfl (feq hc12).1 ?_
    refine XS.iloadN X8.here hx rfl (hb hby d9_15) rfl ?_
    refine XS.bipush X8.here hx rfl (hb hby d9_16) ?_
    refine XS.icmpYes X8.here hx rfl (pc0 := 18) (pc' := 25) rfl (hb hby d9_18) rfl (feq hc18).2 (by decide) (by decide) ?_
    refine XS.iconst X8.here hx rfl (hb hby d9_25) ?_
    show oS p e below T8 m 26 #[.val (.ref pR1), .val (.int 1), .val (.int pI802)] [(.int 0)] _
    exact retN X8 hx (t := .boolean) Bd.returns (by simp) (hb hby d9_26) hr
  · show QgrL1 Z pR1 pR2 pI4 pR5 pI801 pI802 pI803 pI804 pK6 pV7 h0 n0 _ T8.heap _
    rw [e8]
    exact ⟨(by simp [own_green, hc12, hc18]), N8, rfl⟩
theorem grL1 (l : Launch) (Z : State) (a0 : Array Value) (hw : ∀ d ∈ tables_1, d.before a0 Z = true) (ws : List Jvm.Cond) (pR1 : Addr) (pR2 : Addr) (pI4 : Int32) (pR5 : Addr) (pI801 : Int32) (pI802 : Int32) (pI803 : Int32) (pI804 : Int32) (pK6 : ClassId) (pV7 : Value) (h0 : Heap) (n0 : Nat) (Z0 : n0 ≤ h0.size) (F_state_pR1 : Fld Z h0 pR1 "com/example/watchful_junction/watchfuljunction/importer/Network$Phase" "state" "Ljava/lang/String;" (.ref pR2)) (S_String_COMPACT_STRINGS : Sta Z h0 "java/lang/String" "COMPACT_STRINGS" "Z" (.int pI4)) (F_coder_pR2 : Fld Z h0 pR2 "java/lang/String" "coder" "B" (.int 0)) (E_pR2 : Exa Z h0 pR2 "java/lang/String") (F_value_pR2 : Fld Z h0 pR2 "java/lang/String" "value" "[B" (.ref pR5)) (V_pR5 : Arv Z h0 pR5 pK6 .byte (4 : Int32) [(.int (pI801.toInt8.toInt32)), (.int (pI802.toInt8.toInt32)), (.int (pI803.toInt8.toInt32)), (.int (pI804.toInt8.toInt32))] (.int (0 : Int32))) (S_Preconditions_SIOOBE_FORMATTER : Sta Z h0 "jdk/internal/util/Preconditions" "SIOOBE_FORMATTER" "Ljava/util/function/BiFunction;" pV7) (hrg : 0 ≤ pI802.toInt ∧ pI802.toInt ≤ 65535) (hl : ¬ ((255 : Int32) < pI802)) (hc5 : ¬ (pI4 = (0 : Int32))) (hc5' : pV7.isRef = true) :
    oM l yN20 prog_18_method_3_code 3 (some .boolean) ws ({ frames := 4, cells := 0, slots := 0, locals := 53 } : Room) #[(.ref pR1), (.int 1)] Z h0 (QgrL1 Z pR1 pR2 pI4 pR5 pI801 pI802 pI803 pI804 pK6 pV7 h0 n0) := by
  by_cases hc12 : pI802 = (71 : Int32)
  · exact grL1_0 l Z a0 hw ws pR1 pR2 pI4 pR5 pI801 pI802 pI803 pI804 pK6 pV7 h0 n0 Z0 F_state_pR1 S_String_COMPACT_STRINGS F_coder_pR2 E_pR2 F_value_pR2 V_pR5 S_Preconditions_SIOOBE_FORMATTER hrg hl hc5 hc5' hc12
  · by_cases hc18 : pI802 = (103 : Int32)
    · exact grL1_1 l Z a0 hw ws pR1 pR2 pI4 pR5 pI801 pI802 pI803 pI804 pK6 pV7 h0 n0 Z0 F_state_pR1 S_String_COMPACT_STRINGS F_coder_pR2 E_pR2 F_value_pR2 V_pR5 S_Preconditions_SIOOBE_FORMATTER hrg hl hc5 hc5' hc12 hc18
    · exact grL1_2 l Z a0 hw ws pR1 pR2 pI4 pR5 pI801 pI802 pI803 pI804 pK6 pV7 h0 n0 Z0 F_state_pR1 S_String_COMPACT_STRINGS F_coder_pR2 E_pR2 F_value_pR2 V_pR5 S_Preconditions_SIOOBE_FORMATTER hrg hl hc5 hc5' hc12 hc18
theorem ef_grU1_0 (m : MethodId) (pR1 : Addr) : entryFrame m #[(.ref pR1), (.int 1)] 3 = mkF m 0 #[.val (.ref pR1), .val (.int 1), .unset] [] := by first | (simp [entryFrame, mkF, argsToLocals, Value.category]; done) | rfl
def QgrU1 (Z : State) (pR1 : Addr) (pR2 : Addr) (pI4 : Int32) (pR5 : Addr) (pI801 : Int32) (pI802 : Int32) (pI803 : Int32) (pI804 : Int32) (pK6 : ClassId) (pV7 : Value) (h0 : Heap) (n0 : Nat) (v : Option Value) (h : Heap) (L : List Loc) : Prop := v = some (.int (own_green pI802)) ∧ Fr n0 L ∧ h = h0
set_option maxRecDepth 65536 in
set_option maxHeartbeats 40000000 in
theorem grU1_0 (l : Launch) (Z : State) (a0 : Array Value) (hw : ∀ d ∈ tables_1, d.before a0 Z = true) (ws : List Jvm.Cond) (pR1 : Addr) (pR2 : Addr) (pI4 : Int32) (pR5 : Addr) (pI801 : Int32) (pI802 : Int32) (pI803 : Int32) (pI804 : Int32) (pK6 : ClassId) (pV7 : Value) (h0 : Heap) (n0 : Nat) (Z0 : n0 ≤ h0.size) (F_state_pR1 : Fld Z h0 pR1 "com/example/watchful_junction/watchfuljunction/importer/Network$Phase" "state" "Ljava/lang/String;" (.ref pR2)) (S_String_COMPACT_STRINGS : Sta Z h0 "java/lang/String" "COMPACT_STRINGS" "Z" (.int pI4)) (F_coder_pR2 : Fld Z h0 pR2 "java/lang/String" "coder" "B" (.int 1)) (E_pR2 : Exa Z h0 pR2 "java/lang/String") (F_value_pR2 : Fld Z h0 pR2 "java/lang/String" "value" "[B" (.ref pR5)) (V_pR5 : Arv Z h0 pR5 pK6 .byte (8 : Int32) [(.int ((pI801 >>> ((0 : Int32) &&& 31)).toInt8.toInt32)), (.int ((pI801 >>> ((8 : Int32) &&& 31)).toInt8.toInt32)), (.int ((pI802 >>> ((0 : Int32) &&& 31)).toInt8.toInt32)), (.int ((pI802 >>> ((8 : Int32) &&& 31)).toInt8.toInt32)), (.int ((pI803 >>> ((0 : Int32) &&& 31)).toInt8.toInt32)), (.int ((pI803 >>> ((8 : Int32) &&& 31)).toInt8.toInt32)), (.int ((pI804 >>> ((0 : Int32) &&& 31)).toInt8.toInt32)), (.int ((pI804 >>> ((8 : Int32) &&& 31)).toInt8.toInt32))] (.int (0 : Int32))) (S_Preconditions_SIOOBE_FORMATTER : Sta Z h0 "jdk/internal/util/Preconditions" "SIOOBE_FORMATTER" "Ljava/util/function/BiFunction;" pV7) (S_StringUTF16__assertionsDisabled : Sta Z h0 "java/lang/StringUTF16" "$assertionsDisabled" "Z" (.int 1)) (S_StringUTF16_HI_BYTE_SHIFT : Sta Z h0 "java/lang/StringUTF16" "HI_BYTE_SHIFT" "I" (.int 0)) (S_StringUTF16_LO_BYTE_SHIFT : Sta Z h0 "java/lang/StringUTF16" "LO_BYTE_SHIFT" "I" (.int 8)) (hrg : 0 ≤ pI802.toInt ∧ pI802.toInt ≤ 65535) (hc5 : ¬ (pI4 = (0 : Int32))) (hc5' : pV7.isRef = true) (hc12 : pI802 = (71 : Int32)) :
    oM l yN20 prog_18_method_3_code 3 (some .boolean) ws ({ frames := 5, cells := 0, slots := 0, locals := 66 } : Room) #[(.ref pR1), (.int 1)] Z h0 (QgrU1 Z pR1 pR2 pI4 pR5 pI801 pI802 pI803 pI804 pK6 pV7 h0 n0) := by
  refine MetFree.of_bodySF (plainFor_of_name pn_5) hisR ?_
  intro p e s m args below meth c s₁ Bd hml0 hP hK
  obtain ⟨rfl, hZ, hh⟩ := hP
  have hx := Bd.exec
  have hby := Bd.bytes
  have hml : c.maxLocals = 3 := hml0
  have hown : s.vm.findClass "com/example/watchful_junction/watchfuljunction/importer/Network$Phase" = some m.cls := findClass_of_methodNamed Bd.named
  have hnm := (name_of_methodNamed Bd.named Bd.method).1
  have X0 : Stand p l e ({ frames := 5, cells := 0, slots := 0, locals := 66 } : Room) s m #[(.ref pR1), (.int 1)] below meth c s₁ [] 0 0 := Stand.of_body Bd
  have e0 : s₁.heap = h0 := by rw [← hh, Bd.state]; rfl
  have N0 := Fr.nil n0
  obtain ⟨T3, X3, e3, st3⟩ := getF X0 hx hZ hown (host := "") (Or.inl (ow hw 43 rfl)) Via.refl e0 F_state_pR1 (g := (mkF m 1 #[.val (.ref pR1), .val (.int 1), .unset] [(.ref pR1)])) rfl rfl (hb hby d9_1)
  obtain ⟨cq8, kq8, q8a, q8b, q8c⟩ := isOf hZ e3 E_pR2
  obtain ⟨_, _, ⟨T8, L8, k8, n8⟩, -, X8, ⟨Lc8, hQ8, l8, y8, z8⟩, st8⟩ := X3.virtualBack hx (y := yN19) (z := yN19) hown (mvT hZ (ow hw 50 rfl)) (mvT hZ (ow hw 51 rfl)) (notFace_of_selects (args := #[]) (mvT hZ (ow hw 53 rfl))) (mvT hZ (ow hw 53 rfl)) (mvT hZ (ow hw 52 rfl)) (by decide) (backOf (W := 0) (scaU1 l Z a0 hw [] pR2 pI4 pR5 pI801 pI802 pI803 pI804 pK6 pV7 h0 n0 Z0 S_String_COMPACT_STRINGS F_coder_pR2 E_pR2 F_value_pR2 V_pR5 S_Preconditions_SIOOBE_FORMATTER S_StringUTF16__assertionsDisabled S_StringUTF16_HI_BYTE_SHIFT S_StringUTF16_LO_BYTE_SHIFT hrg hc5 hc5') hZ (ow hw 54 rfl) (ow hw 7 rfl) (by decide) (by decide)) q8a q8c (g := (mkF m 5 #[.val (.ref pR1), .val (.int 1), .unset] [(.int 1), (.ref pR2)])) rfl (by rw [hml]; rfl) (Steps.refl _) (argsL := [(.int 1)]) (rest := []) (lenOf pd_13 rfl) rfl (Nat.le_refl _) (hb hby d9_5) (fun _ _ => ⟨rfl, e3, (by decide : 0 + 0 ≤ _), (by decide : 0 + 0 ≤ _)⟩)
  dsimp only [Pt.U, Pt.locs, Pt.cells, Pt.slots] at X8 l8 y8 z8 st8 hQ8
  subst l8 y8 z8
  obtain ⟨rfl, Nq8, e8⟩ := hQ8
  have N8 := Fr.app N0 Nq8
  obtain ⟨fs, hr, hrun, hended, hW, hsame⟩ := X8.leave (v := some (.int 1)) (fun h => by rw [Bd.returns] at h; cases h)
  refine ⟨_, _, castTop (ef_grU1_0 m pR1) ?_, hrun, hended, _, _, rfl, ?_, ⟨_, rfl⟩, hW, hsame.mono (by decide) (by decide)⟩
  · show oS p e below s₁ m 0 #[.val (.ref pR1), .val (.int 1), .unset] [] _
    refine XS.aloadN X0.here hx rfl (hb hby d9_0) rfl rfl ?_
    refine st3 _ ?_
    refine XS.iloadN X3.here hx rfl (hb hby d9_4) rfl ?_
    refine st8.trans ?_
    refine XS.istoreN X8.here hx rfl (hb hby d9_8) rfl (l' := #[.val (.ref pR1), .val (.int 1), .val (.int pI802)]) rfl ?_
    refine XS.iloadN X8.here hx rfl (hb hby d9_9) rfl ?_
    show oS p e below T8 m 10 #[.val (.ref pR1), .val (.int 1), .val (.int pI802)] [(.int pI802)] _
    refine XS.bipush X8.here hx rfl (hb hby d9_10) ?_
    refine XS.icmpYes X8.here hx rfl (pc0 := 12) (pc' := 21) rfl (hb hby d9_12) rfl (teq hc12).1 (by decide) (by decide) ?_
    refine XS.iconst X8.here hx rfl (hb hby d9_21) ?_
    refine XS.goto X8.here hx rfl (pc0 := 22) (pc' := 26) rfl (hb hby d9_22) (by decide) (by decide) ?_
    exact retN X8 hx (t := .boolean) Bd.returns (by simp) (hb hby d9_26) hr
  · show QgrU1 Z pR1 pR2 pI4 pR5 pI801 pI802 pI803 pI804 pK6 pV7 h0 n0 _ T8.heap _
    rw [e8]
    exact ⟨(by simp [own_green, hc12]), N8, rfl⟩
theorem ef_grU1_1 (m : MethodId) (pR1 : Addr) : entryFrame m #[(.ref pR1), (.int 1)] 3 = mkF m 0 #[.val (.ref pR1), .val (.int 1), .unset] [] := by first | (simp [entryFrame, mkF, argsToLocals, Value.category]; done) | rfl
set_option maxRecDepth 65536 in
set_option maxHeartbeats 40000000 in
theorem grU1_1 (l : Launch) (Z : State) (a0 : Array Value) (hw : ∀ d ∈ tables_1, d.before a0 Z = true) (ws : List Jvm.Cond) (pR1 : Addr) (pR2 : Addr) (pI4 : Int32) (pR5 : Addr) (pI801 : Int32) (pI802 : Int32) (pI803 : Int32) (pI804 : Int32) (pK6 : ClassId) (pV7 : Value) (h0 : Heap) (n0 : Nat) (Z0 : n0 ≤ h0.size) (F_state_pR1 : Fld Z h0 pR1 "com/example/watchful_junction/watchfuljunction/importer/Network$Phase" "state" "Ljava/lang/String;" (.ref pR2)) (S_String_COMPACT_STRINGS : Sta Z h0 "java/lang/String" "COMPACT_STRINGS" "Z" (.int pI4)) (F_coder_pR2 : Fld Z h0 pR2 "java/lang/String" "coder" "B" (.int 1)) (E_pR2 : Exa Z h0 pR2 "java/lang/String") (F_value_pR2 : Fld Z h0 pR2 "java/lang/String" "value" "[B" (.ref pR5)) (V_pR5 : Arv Z h0 pR5 pK6 .byte (8 : Int32) [(.int ((pI801 >>> ((0 : Int32) &&& 31)).toInt8.toInt32)), (.int ((pI801 >>> ((8 : Int32) &&& 31)).toInt8.toInt32)), (.int ((pI802 >>> ((0 : Int32) &&& 31)).toInt8.toInt32)), (.int ((pI802 >>> ((8 : Int32) &&& 31)).toInt8.toInt32)), (.int ((pI803 >>> ((0 : Int32) &&& 31)).toInt8.toInt32)), (.int ((pI803 >>> ((8 : Int32) &&& 31)).toInt8.toInt32)), (.int ((pI804 >>> ((0 : Int32) &&& 31)).toInt8.toInt32)), (.int ((pI804 >>> ((8 : Int32) &&& 31)).toInt8.toInt32))] (.int (0 : Int32))) (S_Preconditions_SIOOBE_FORMATTER : Sta Z h0 "jdk/internal/util/Preconditions" "SIOOBE_FORMATTER" "Ljava/util/function/BiFunction;" pV7) (S_StringUTF16__assertionsDisabled : Sta Z h0 "java/lang/StringUTF16" "$assertionsDisabled" "Z" (.int 1)) (S_StringUTF16_HI_BYTE_SHIFT : Sta Z h0 "java/lang/StringUTF16" "HI_BYTE_SHIFT" "I" (.int 0)) (S_StringUTF16_LO_BYTE_SHIFT : Sta Z h0 "java/lang/StringUTF16" "LO_BYTE_SHIFT" "I" (.int 8)) (hrg : 0 ≤ pI802.toInt ∧ pI802.toInt ≤ 65535) (hc5 : ¬ (pI4 = (0 : Int32))) (hc5' : pV7.isRef = true) (hc12 : ¬ (pI802 = (71 : Int32))) (hc18 : pI802 = (103 : Int32)) :
    oM l yN20 prog_18_method_3_code 3 (some .boolean) ws ({ frames := 5, cells := 0, slots := 0, locals := 66 } : Room) #[(.ref pR1), (.int 1)] Z h0 (QgrU1 Z pR1 pR2 pI4 pR5 pI801 pI802 pI803 pI804 pK6 pV7 h0 n0) := by
  refine MetFree.of_bodySF (plainFor_of_name pn_5) hisR ?_
  intro p e s m args below meth c s₁ Bd hml0 hP hK
  obtain ⟨rfl, hZ, hh⟩ := hP
  have hx := Bd.exec
  have hby := Bd.bytes
  have hml : c.maxLocals = 3 := hml0
  have hown : s.vm.findClass "com/example/watchful_junction/watchfuljunction/importer/Network$Phase" = some m.cls := findClass_of_methodNamed Bd.named
  have hnm := (name_of_methodNamed Bd.named Bd.method).1
  have X0 : Stand p l e ({ frames := 5, cells := 0, slots := 0, locals := 66 } : Room) s m #[(.ref pR1), (.int 1)] below meth c s₁ [] 0 0 := Stand.of_body Bd
  have e0 : s₁.heap = h0 := by rw [← hh, Bd.state]; rfl
  have N0 := Fr.nil n0
  obtain ⟨T3, X3, e3, st3⟩ := getF X0 hx hZ hown (host := "") (Or.inl (ow hw 43 rfl)) Via.refl e0 F_state_pR1 (g := (mkF m 1 #[.val (.ref pR1), .val (.int 1), .unset] [(.ref pR1)])) rfl rfl (hb hby d9_1)
  obtain ⟨cq8, kq8, q8a, q8b, q8c⟩ := isOf hZ e3 E_pR2
  obtain ⟨_, _, ⟨T8, L8, k8, n8⟩, -, X8, ⟨Lc8, hQ8, l8, y8, z8⟩, st8⟩ := X3.virtualBack hx (y := yN19) (z := yN19) hown (mvT hZ (ow hw 50 rfl)) (mvT hZ (ow hw 51 rfl)) (notFace_of_selects (args := #[]) (mvT hZ (ow hw 53 rfl))) (mvT hZ (ow hw 53 rfl)) (mvT hZ (ow hw 52 rfl)) (by decide) (backOf (W := 0) (scaU1 l Z a0 hw [] pR2 pI4 pR5 pI801 pI802 pI803 pI804 pK6 pV7 h0 n0 Z0 S_String_COMPACT_STRINGS F_coder_pR2 E_pR2 F_value_pR2 V_pR5 S_Preconditions_SIOOBE_FORMATTER S_StringUTF16__assertionsDisabled S_StringUTF16_HI_BYTE_SHIFT S_StringUTF16_LO_BYTE_SHIFT hrg hc5 hc5') hZ (ow hw 54 rfl) (ow hw 7 rfl) (by decide) (by decide)) q8a q8c (g := (mkF m 5 #[.val (.ref pR1), .val (.int 1), .unset] [(.int 1), (.ref pR2)])) rfl (by rw [hml]; rfl) (Steps.refl _) (argsL := [(.int 1)]) (rest := []) (lenOf pd_13 rfl) rfl (Nat.le_refl _) (hb hby d9_5) (fun _ _ => ⟨rfl, e3, (by decide : 0 + 0 ≤ _), (by decide : 0 + 0 ≤ _)⟩)
  dsimp only [Pt.U, Pt.locs, Pt.cells, Pt.slots] at X8 l8 y8 z8 st8 hQ8
  subst l8 y8 z8
  obtain ⟨rfl, Nq8, e8⟩ := hQ8
  have N8 := Fr.app N0 Nq8
  obtain ⟨fs, hr, hrun, hended, hW, hsame⟩ := X8.leave (v := some (.int 1)) (fun h => by rw [Bd.returns] at h; cases h)
  refine ⟨_, _, castTop (ef_grU1_1 m pR1) ?_, hrun, hended, _, _, rfl, ?_, ⟨_, rfl⟩, hW, hsame.mono (by decide) (by decide)⟩
  · show oS p e below s₁ m 0 #[.val (.ref pR1), .val (.int 1), .unset] [] _
    refine XS.aloadN X0.here hx rfl (hb hby d9_0) rfl rfl ?_
    refine st3 _ ?_
    refine XS.iloadN X3.here hx rfl (hb hby d9_4) rfl ?_
    refine st8.trans ?_
    refine XS.istoreN X8.here hx rfl (hb hby d9_8) rfl (l' := #[.val (.ref pR1), .val (.int 1), .val (.int pI802)]) rfl ?_
    refine XS.iloadN X8.here hx rfl (hb hby d9_9) rfl ?_
    show oS p e below T8 m 10 #[.val (.ref pR1), .val (.int 1), .val (.int pI802)] [(.int pI802)] _
    refine XS.bipush X8.here hx rfl (hb hby d9_10) ?_
    refine XS.icmpNo X8.here hx rfl (hb hby d9_12) rfl (feq hc12).1 ?_
    refine XS.iloadN X8.here hx rfl (hb hby d9_15) rfl ?_
    refine XS.bipush X8.here hx rfl (hb hby d9_16) ?_
    refine XS.icmpNo X8.here hx rfl (hb hby d9_18) rfl (teq hc18).2 ?_
    refine XS.iconst X8.here hx rfl (hb hby d9_21) ?_
    show oS p e below T8 m 22 #[.val (.ref pR1), .val (.int 1), .val (.int pI802)] [(.int 1)] _
    refine XS.goto X8.here hx rfl (pc0 := 22) (pc' := 26) rfl (hb hby d9_22) (by decide) (by decide) ?_
    exact retN X8 hx (t := .boolean) Bd.returns (by simp) (hb hby d9_26) hr
  · show QgrU1 Z pR1 pR2 pI4 pR5 pI801 pI802 pI803 pI804 pK6 pV7 h0 n0 _ T8.heap _
    rw [e8]
    exact ⟨(by simp [own_green, hc18]), N8, rfl⟩
theorem ef_grU1_2 (m : MethodId) (pR1 : Addr) : entryFrame m #[(.ref pR1), (.int 1)] 3 = mkF m 0 #[.val (.ref pR1), .val (.int 1), .unset] [] := by first | (simp [entryFrame, mkF, argsToLocals, Value.category]; done) | rfl
set_option maxRecDepth 65536 in
set_option maxHeartbeats 40000000 in
theorem grU1_2 (l : Launch) (Z : State) (a0 : Array Value) (hw : ∀ d ∈ tables_1, d.before a0 Z = true) (ws : List Jvm.Cond) (pR1 : Addr) (pR2 : Addr) (pI4 : Int32) (pR5 : Addr) (pI801 : Int32) (pI802 : Int32) (pI803 : Int32) (pI804 : Int32) (pK6 : ClassId) (pV7 : Value) (h0 : Heap) (n0 : Nat) (Z0 : n0 ≤ h0.size) (F_state_pR1 : Fld Z h0 pR1 "com/example/watchful_junction/watchfuljunction/importer/Network$Phase" "state" "Ljava/lang/String;" (.ref pR2)) (S_String_COMPACT_STRINGS : Sta Z h0 "java/lang/String" "COMPACT_STRINGS" "Z" (.int pI4)) (F_coder_pR2 : Fld Z h0 pR2 "java/lang/String" "coder" "B" (.int 1)) (E_pR2 : Exa Z h0 pR2 "java/lang/String") (F_value_pR2 : Fld Z h0 pR2 "java/lang/String" "value" "[B" (.ref pR5)) (V_pR5 : Arv Z h0 pR5 pK6 .byte (8 : Int32) [(.int ((pI801 >>> ((0 : Int32) &&& 31)).toInt8.toInt32)), (.int ((pI801 >>> ((8 : Int32) &&& 31)).toInt8.toInt32)), (.int ((pI802 >>> ((0 : Int32) &&& 31)).toInt8.toInt32)), (.int ((pI802 >>> ((8 : Int32) &&& 31)).toInt8.toInt32)), (.int ((pI803 >>> ((0 : Int32) &&& 31)).toInt8.toInt32)), (.int ((pI803 >>> ((8 : Int32) &&& 31)).toInt8.toInt32)), (.int ((pI804 >>> ((0 : Int32) &&& 31)).toInt8.toInt32)), (.int ((pI804 >>> ((8 : Int32) &&& 31)).toInt8.toInt32))] (.int (0 : Int32))) (S_Preconditions_SIOOBE_FORMATTER : Sta Z h0 "jdk/internal/util/Preconditions" "SIOOBE_FORMATTER" "Ljava/util/function/BiFunction;" pV7) (S_StringUTF16__assertionsDisabled : Sta Z h0 "java/lang/StringUTF16" "$assertionsDisabled" "Z" (.int 1)) (S_StringUTF16_HI_BYTE_SHIFT : Sta Z h0 "java/lang/StringUTF16" "HI_BYTE_SHIFT" "I" (.int 0)) (S_StringUTF16_LO_BYTE_SHIFT : Sta Z h0 "java/lang/StringUTF16" "LO_BYTE_SHIFT" "I" (.int 8)) (hrg : 0 ≤ pI802.toInt ∧ pI802.toInt ≤ 65535) (hc5 : ¬ (pI4 = (0 : Int32))) (hc5' : pV7.isRef = true) (hc12 : ¬ (pI802 = (71 : Int32))) (hc18 : ¬ (pI802 = (103 : Int32))) :
    oM l yN20 prog_18_method_3_code 3 (some .boolean) ws ({ frames := 5, cells := 0, slots := 0, locals := 66 } : Room) #[(.ref pR1), (.int 1)] Z h0 (QgrU1 Z pR1 pR2 pI4 pR5 pI801 pI802 pI803 pI804 pK6 pV7 h0 n0) := by
  refine MetFree.of_bodySF (plainFor_of_name pn_5) hisR ?_
  intro p e s m args below meth c s₁ Bd hml0 hP hK
  obtain ⟨rfl, hZ, hh⟩ := hP
  have hx := Bd.exec
  have hby := Bd.bytes
  have hml : c.maxLocals = 3 := hml0
  have hown : s.vm.findClass "com/example/watchful_junction/watchfuljunction/importer/Network$Phase" = some m.cls := findClass_of_methodNamed Bd.named
  have hnm := (name_of_methodNamed Bd.named Bd.method).1
  have X0 : Stand p l e ({ frames := 5, cells := 0, slots := 0, locals := 66 } : Room) s m #[(.ref pR1), (.int 1)] below meth c s₁ [] 0 0 := Stand.of_body Bd
  have e0 : s₁.heap = h0 := by rw [← hh, Bd.state]; rfl
  have N0 := Fr.nil n0
  obtain ⟨T3, X3, e3, st3⟩ := getF X0 hx hZ hown (host := "") (Or.inl (ow hw 43 rfl)) Via.refl e0 F_state_pR1 (g := (mkF m 1 #[.val (.ref pR1), .val (.int 1), .unset] [(.ref pR1)])) rfl rfl (hb hby d9_1)
  obtain ⟨cq8, kq8, q8a, q8b, q8c⟩ := isOf hZ e3 E_pR2
  obtain ⟨_, _, ⟨T8, L8, k8, n8⟩, -, X8, ⟨Lc8, hQ8, l8, y8, z8⟩, st8⟩ := X3.virtualBack hx (y := yN19) (z := yN19) hown (mvT hZ (ow hw 50 rfl)) (mvT hZ (ow hw 51 rfl)) (notFace_of_selects (args := #[]) (mvT hZ (ow hw 53 rfl))) (mvT hZ (ow hw 53 rfl)) (mvT hZ (ow hw 52 rfl)) (by decide) (backOf (W := 0) (scaU1 l Z a0 hw [] pR2 pI4 pR5 pI801 pI802 pI803 pI804 pK6 pV7 h0 n0 Z0 S_String_COMPACT_STRINGS F_coder_pR2 E_pR2 F_value_pR2 V_pR5 S_Preconditions_SIOOBE_FORMATTER S_StringUTF16__assertionsDisabled S_StringUTF16_HI_BYTE_SHIFT S_StringUTF16_LO_BYTE_SHIFT hrg hc5 hc5') hZ (ow hw 54 rfl) (ow hw 7 rfl) (by decide) (by decide)) q8a q8c (g := (mkF m 5 #[.val (.ref pR1), .val (.int 1), .unset] [(.int 1), (.ref pR2)])) rfl (by rw [hml]; rfl) (Steps.refl _) (argsL := [(.int 1)]) (rest := []) (lenOf pd_13 rfl) rfl (Nat.le_refl _) (hb hby d9_5) (fun _ _ => ⟨rfl, e3, (by decide : 0 + 0 ≤ _), (by decide : 0 + 0 ≤ _)⟩)
  dsimp only [Pt.U, Pt.locs, Pt.cells, Pt.slots] at X8 l8 y8 z8 st8 hQ8
  subst l8 y8 z8
  obtain ⟨rfl, Nq8, e8⟩ := hQ8
  have N8 := Fr.app N0 Nq8
  obtain ⟨fs, hr, hrun, hended, hW, hsame⟩ := X8.leave (v := some (.int 0)) (fun h => by rw [Bd.returns] at h; cases h)
  refine ⟨_, _, castTop (ef_grU1_2 m pR1) ?_, hrun, hended, _, _, rfl, ?_, ⟨_, rfl⟩, hW, hsame.mono (by decide) (by decide)⟩
  · show oS p e below s₁ m 0 #[.val (.ref pR1), .val (.int 1), .unset] [] _
    refine XS.aloadN X0.here hx rfl (hb hby d9_0) rfl rfl ?_
    refine st3 _ ?_
    refine XS.iloadN X3.here hx rfl (hb hby d9_4) rfl ?_
    refine st8.trans ?_
    refine XS.istoreN X8.here hx rfl (hb hby d9_8) rfl (l' := #[.val (.ref pR1), .val (.int 1), .val (.int pI802)]) rfl ?_
    refine XS.iloadN X8.here hx rfl (hb hby d9_9) rfl ?_
    show oS p e below T8 m 10 #[.val (.ref pR1), .val (.int 1), .val (.int pI802)] [(.int pI802)] _
    refine XS.bipush X8.here hx rfl (hb hby d9_10) ?_
    refine XS.icmpNo X8.here hx rfl (hb hby d9_12) rfl (feq hc12).1 ?_
    refine XS.iloadN X8.here hx rfl (hb hby d9_15) rfl ?_
    refine XS.bipush X8.here hx rfl (hb hby d9_16) ?_
    refine XS.icmpYes X8.here hx rfl (pc0 := 18) (pc' := 25) rfl (hb hby d9_18) rfl (feq hc18).2 (by decide) (by decide) ?_
    refine XS.iconst X8.here hx rfl (hb hby d9_25) ?_
    show oS p e below T8 m 26 #[.val (.ref pR1), .val (.int 1), .val (.int pI802)] [(.int 0)] _
    exact retN X8 hx (t := .boolean) Bd.returns (by simp) (hb hby d9_26) hr
  · show QgrU1 Z pR1 pR2 pI4 pR5 pI801 pI802 pI803 pI804 pK6 pV7 h0 n0 _ T8.heap _
    rw [e8]
    exact ⟨(by simp [own_green, hc12, hc18]), N8, rfl⟩
theorem grU1 (l : Launch) (Z : State) (a0 : Array Value) (hw : ∀ d ∈ tables_1, d.before a0 Z = true) (ws : List Jvm.Cond) (pR1 : Addr) (pR2 : Addr) (pI4 : Int32) (pR5 : Addr) (pI801 : Int32) (pI802 : Int32) (pI803 : Int32) (pI804 : Int32) (pK6 : ClassId) (pV7 : Value) (h0 : Heap) (n0 : Nat) (Z0 : n0 ≤ h0.size) (F_state_pR1 : Fld Z h0 pR1 "com/example/watchful_junction/watchfuljunction/importer/Network$Phase" "state" "Ljava/lang/String;" (.ref pR2)) (S_String_COMPACT_STRINGS : Sta Z h0 "java/lang/String" "COMPACT_STRINGS" "Z" (.int pI4)) (F_coder_pR2 : Fld Z h0 pR2 "java/lang/String" "coder" "B" (.int 1)) (E_pR2 : Exa Z h0 pR2 "java/lang/String") (F_value_pR2 : Fld Z h0 pR2 "java/lang/String" "value" "[B" (.ref pR5)) (V_pR5 : Arv Z h0 pR5 pK6 .byte (8 : Int32) [(.int ((pI801 >>> ((0 : Int32) &&& 31)).toInt8.toInt32)), (.int ((pI801 >>> ((8 : Int32) &&& 31)).toInt8.toInt32)), (.int ((pI802 >>> ((0 : Int32) &&& 31)).toInt8.toInt32)), (.int ((pI802 >>> ((8 : Int32) &&& 31)).toInt8.toInt32)), (.int ((pI803 >>> ((0 : Int32) &&& 31)).toInt8.toInt32)), (.int ((pI803 >>> ((8 : Int32) &&& 31)).toInt8.toInt32)), (.int ((pI804 >>> ((0 : Int32) &&& 31)).toInt8.toInt32)), (.int ((pI804 >>> ((8 : Int32) &&& 31)).toInt8.toInt32))] (.int (0 : Int32))) (S_Preconditions_SIOOBE_FORMATTER : Sta Z h0 "jdk/internal/util/Preconditions" "SIOOBE_FORMATTER" "Ljava/util/function/BiFunction;" pV7) (S_StringUTF16__assertionsDisabled : Sta Z h0 "java/lang/StringUTF16" "$assertionsDisabled" "Z" (.int 1)) (S_StringUTF16_HI_BYTE_SHIFT : Sta Z h0 "java/lang/StringUTF16" "HI_BYTE_SHIFT" "I" (.int 0)) (S_StringUTF16_LO_BYTE_SHIFT : Sta Z h0 "java/lang/StringUTF16" "LO_BYTE_SHIFT" "I" (.int 8)) (hrg : 0 ≤ pI802.toInt ∧ pI802.toInt ≤ 65535) (hc5 : ¬ (pI4 = (0 : Int32))) (hc5' : pV7.isRef = true) :
    oM l yN20 prog_18_method_3_code 3 (some .boolean) ws ({ frames := 5, cells := 0, slots := 0, locals := 66 } : Room) #[(.ref pR1), (.int 1)] Z h0 (QgrU1 Z pR1 pR2 pI4 pR5 pI801 pI802 pI803 pI804 pK6 pV7 h0 n0) := by
  by_cases hc12 : pI802 = (71 : Int32)
  · exact grU1_0 l Z a0 hw ws pR1 pR2 pI4 pR5 pI801 pI802 pI803 pI804 pK6 pV7 h0 n0 Z0 F_state_pR1 S_String_COMPACT_STRINGS F_coder_pR2 E_pR2 F_value_pR2 V_pR5 S_Preconditions_SIOOBE_FORMATTER S_StringUTF16__assertionsDisabled S_StringUTF16_HI_BYTE_SHIFT S_StringUTF16_LO_BYTE_SHIFT hrg hc5 hc5' hc12
  · by_cases hc18 : pI802 = (103 : Int32)
    · exact grU1_1 l Z a0 hw ws pR1 pR2 pI4 pR5 pI801 pI802 pI803 pI804 pK6 pV7 h0 n0 Z0 F_state_pR1 S_String_COMPACT_STRINGS F_coder_pR2 E_pR2 F_value_pR2 V_pR5 S_Preconditions_SIOOBE_FORMATTER S_StringUTF16__assertionsDisabled S_StringUTF16_HI_BYTE_SHIFT S_StringUTF16_LO_BYTE_SHIFT hrg hc5 hc5' hc12 hc18
    · exact grU1_2 l Z a0 hw ws pR1 pR2 pI4 pR5 pI801 pI802 pI803 pI804 pK6 pV7 h0 n0 Z0 F_state_pR1 S_String_COMPACT_STRINGS F_coder_pR2 E_pR2 F_value_pR2 V_pR5 S_Preconditions_SIOOBE_FORMATTER S_StringUTF16__assertionsDisabled S_StringUTF16_HI_BYTE_SHIFT S_StringUTF16_LO_BYTE_SHIFT hrg hc5 hc5' hc12 hc18
theorem ef_lca2 (m : MethodId) (pR1 : Addr) : entryFrame m #[(.ref pR1), (.int 2)] 2 = mkF m 0 #[.val (.ref pR1), .val (.int 2)] [] := by first | (simp [entryFrame, mkF, argsToLocals, Value.category]; done) | rfl
def Qlca2 (Z : State) (pR1 : Addr) (pI801 : Int32) (pI802 : Int32) (pI803 : Int32) (pI804 : Int32) (pK2 : ClassId) (pV4 : Value) (h0 : Heap) (n0 : Nat) (v : Option Value) (h : Heap) (L : List Loc) : Prop := v = some (.int pI803) ∧ Fr n0 L ∧ h = h0
set_option maxRecDepth 65536 in
set_option maxHeartbeats 40000000 in
theorem lca2 (l : Launch) (Z : State) (a0 : Array Value) (hw : ∀ d ∈ tables_1, d.before a0 Z = true) (ws : List Jvm.Cond) (pR1 : Addr) (pI801 : Int32) (pI802 : Int32) (pI803 : Int32) (pI804 : Int32) (pK2 : ClassId) (pV4 : Value) (h0 : Heap) (n0 : Nat) (Z0 : n0 ≤ h0.size) (V_pR1 : Arv Z h0 pR1 pK2 .byte (4 : Int32) [(.int (pI801.toInt8.toInt32)), (.int (pI802.toInt8.toInt32)), (.int (pI803.toInt8.toInt32)), (.int (pI804.toInt8.toInt32))] (.int (0 : Int32))) (S_Preconditions_SIOOBE_FORMATTER : Sta Z h0 "jdk/internal/util/Preconditions" "SIOOBE_FORMATTER" "Ljava/util/function/BiFunction;" pV4) (hrg : 0 ≤ pI803.toInt ∧ pI803.toInt ≤ 65535) (hl : ¬ ((255 : Int32) < pI803)) (hc3 : pV4.isRef = true) :
    oM l yN16 jdk_43_method_2_code 2 (some .char) ws ({ frames := 2, cells := 0, slots := 0, locals := 27 } : Room) #[(.ref pR1), (.int 2)] Z h0 (Qlca2 Z pR1 pI801 pI802 pI803 pI804 pK2 pV4 h0 n0) := by
  refine MetFree.of_bodySF (plainFor_of_name pn_4) hisR ?_
  intro p e s m args below meth c s₁ Bd hml0 hP hK
  obtain ⟨rfl, hZ, hh⟩ := hP
  have hx := Bd.exec
  have hby := Bd.bytes
  have hml : c.maxLocals = 2 := hml0
  have hown : s.vm.findClass "java/lang/StringLatin1" = some m.cls := findClass_of_methodNamed Bd.named
  have hnm := (name_of_methodNamed Bd.named Bd.method).1
  have X0 : Stand p l e ({ frames := 2, cells := 0, slots := 0, locals := 27 } : Room) s m #[(.ref pR1), (.int 2)] below meth c s₁ [] 0 0 := Stand.of_body Bd
  have e0 : s₁.heap = h0 := by rw [← hh, Bd.state]; rfl
  have N0 := Fr.nil n0
  obtain ⟨clq3, Arq3, Akq3, Asq3, Anq3, Ahq3, Agq3⟩ := id V_pR1
  obtain ⟨_, _, ⟨T5, L5, k5, n5⟩, -, X5, ⟨Lc5, hQ5, l5, y5, z5⟩, st5⟩ := Jvm.LawKit.callS X0 hx (y := yN13) hown (mvT hZ (ow hw 64 rfl)) (mvT hZ (ow hw 65 rfl)) (mvT hZ (ow hw 7 rfl)) (mvT hZ (ow hw 66 rfl)) (by decide) (backOf (W := 0) (sci l Z a0 hw [] (2 : Int32) (4 : Int32) pV4 h0 n0 Z0 S_Preconditions_SIOOBE_FORMATTER (by decide) (by decide) hc3) hZ (ow hw 66 rfl) (ow hw 7 rfl) (by decide) (by decide)) (g := (mkF m 3 #[.val (.ref pR1), .val (.int 2)] [(.int 4), (.int 2)])) rfl (by rw [hml]; rfl) (argsL := [(.int 2), (.int 4)]) (rest := []) (lenOf pd_9 rfl) rfl (Nat.le_refl _) (hb hby d12_3) (fun _ _ => ⟨rfl, e0, (by decide : 0 + 0 ≤ _), (by decide : 0 + 0 ≤ _)⟩)
  dsimp only [Pt.U, Pt.locs, Pt.cells, Pt.slots] at X5 l5 y5 z5 st5 hQ5
  subst l5 y5 z5
  obtain ⟨rfl, Nq5, e5⟩ := hQ5
  have N5 := Fr.app N0 Nq5
  obtain ⟨clq6, Arq6, Akq6, Asq6, Anq6, Ahq6, Agq6⟩ := id V_pR1
  have hin7 : ¬ ((2 : Int32) < 0 ∨ clq6.slots.size ≤ ((2 : Int32)).toNatClampNeg) := inb_of Asq6 ⟨by decide, by decide⟩
  obtain ⟨fs, hr, hrun, hended, hW, hsame⟩ := X5.leave (v := some (.int (nar .char (((pI803.toInt8.toInt32) &&& (255 : Int32)).toUInt32.toUInt16.toUInt32.toInt32)))) (fun h => by rw [Bd.returns] at h; cases h)
  refine ⟨_, _, castTop (ef_lca2 m pR1) ?_, hrun, hended, _, _, rfl, ?_, ⟨_, rfl⟩, hW, hsame.mono (by decide) (by decide)⟩
  · show oS p e below s₁ m 0 #[.val (.ref pR1), .val (.int 2)] [] _
    refine XS.iloadN X0.here hx rfl (hb hby d12_0) rfl ?_
    refine XS.aloadN X0.here hx rfl (hb hby d12_1) rfl rfl ?_
    refine X0.arraylength hx (by rw [e0]; exact Arq3.1) (State.isArrayOf_alike hZ.alike Arq3.2.1) (g := (mkF m 2 #[.val (.ref pR1), .val (.int 2)] [(.ref pR1), (.int 2)])) rfl rfl (hb hby d12_2) _ ?_
    rw [len_of Asq3 Anq3]
    refine st5 _ ?_
    refine XS.aloadN X5.here hx rfl (hb hby d12_6) rfl rfl ?_
    refine XS.iloadN X5.here hx rfl (hb hby d12_7) rfl ?_
    show oS p e below T5 m 8 #[.val (.ref pR1), .val (.int 2)] [(.int 2), (.ref pR1)] _
    refine X5.baloadBytes hx (j := (2 : Int32)) (v := (.int (pI803.toInt8.toInt32))) (by rw [e5]; exact Arq6.1) (State.isArrayOf_alike hZ.alike Arq6.2.1) Arq6.2.2 hin7 (Has.at Ahq6 hin7 rfl) (g := (mkF m 8 #[.val (.ref pR1), .val (.int 2)] [(.int 2), (.ref pR1)])) rfl rfl (hb hby d12_8) _ ?_
    refine XS.sipush X5.here hx rfl (hb hby d12_9) ?_
    refine XS.iand X5.here hx rfl (hb hby d12_12) rfl ?_
    refine XS.i2c X5.here hx rfl (hb hby d12_13) rfl ?_
    exact retN X5 hx (t := .char) Bd.returns (by simp) (hb hby d12_14) hr
  · show Qlca2 Z pR1 pI801 pI802 pI803 pI804 pK2 pV4 h0 n0 _ T5.heap _
    rw [e5]
    exact ⟨(by rw [own_latin hrg hl]), N5, rfl⟩
theorem ef_uci2 (m : MethodId) (pR1 : Addr) : entryFrame m #[(.int 2), (.ref pR1)] 2 = mkF m 0 #[.val (.int 2), .val (.ref pR1)] [] := by first | (simp [entryFrame, mkF, argsToLocals, Value.category]; done) | rfl
def Quci2 (Z : State) (pR1 : Addr) (pI801 : Int32) (pI802 : Int32) (pI803 : Int32) (pI804 : Int32) (pK2 : ClassId) (pV4 : Value) (h0 : Heap) (n0 : Nat) (v : Option Value) (h : Heap) (L : List Loc) : Prop := v = none ∧ Fr n0 L ∧ h = h0
set_option maxRecDepth 65536 in
set_option maxHeartbeats 40000000 in
theorem uci2 (l : Launch) (Z : State) (a0 : Array Value) (hw : ∀ d ∈ tables_1, d.before a0 Z = true) (ws : List Jvm.Cond) (pR1 : Addr) (pI801 : Int32) (pI802 : Int32) (pI803 : Int32) (pI804 : Int32) (pK2 : ClassId) (pV4 : Value) (h0 : Heap) (n0 : Nat) (Z0 : n0 ≤ h0.size) (V_pR1 : Arv Z h0 pR1 pK2 .byte (8 : Int32) [(.int ((pI801 >>> ((0 : Int32) &&& 31)).toInt8.toInt32)), (.int ((pI801 >>> ((8 : Int32) &&& 31)).toInt8.toInt32)), (.int ((pI802 >>> ((0 : Int32) &&& 31)).toInt8.toInt32)), (.int ((pI802 >>> ((8 : Int32) &&& 31)).toInt8.toInt32)), (.int ((pI803 >>> ((0 : Int32) &&& 31)).toInt8.toInt32)), (.int ((pI803 >>> ((8 : Int32) &&& 31)).toInt8.toInt32)), (.int ((pI804 >>> ((0 : Int32) &&& 31)).toInt8.toInt32)), (.int ((pI804 >>> ((8 : Int32) &&& 31)).toInt8.toInt32))] (.int (0 : Int32))) (S_Preconditions_SIOOBE_FORMATTER : Sta Z h0 "jdk/internal/util/Preconditions" "SIOOBE_FORMATTER" "Ljava/util/function/BiFunction;" pV4) (hc5 : pV4.isRef = true) :
    oM l yN17 jdk_52_method_91_code 2 none ws ({ frames := 2, cells := 0, slots := 0, locals := 27 } : Room) #[(.int 2), (.ref pR1)] Z h0 (Quci2 Z pR1 pI801 pI802 pI803 pI804 pK2 pV4 h0 n0) := by
  refine MetFree.of_bodySF (plainFor_of_name pn_1) hisR ?_
  intro p e s m args below meth c s₁ Bd hml0 hP hK
  obtain ⟨rfl, hZ, hh⟩ := hP
  have hx := Bd.exec
  have hby := Bd.bytes
  have hml : c.maxLocals = 2 := hml0
  have hown : s.vm.findClass "java/lang/StringUTF16" = some m.cls := findClass_of_methodNamed Bd.named
  have hnm := (name_of_methodNamed Bd.named Bd.method).1
  have X0 : Stand p l e ({ frames := 2, cells := 0, slots := 0, locals := 27 } : Room) s m #[(.int 2), (.ref pR1)] below meth c s₁ [] 0 0 := Stand.of_body Bd
  have e0 : s₁.heap = h0 := by rw [← hh, Bd.state]; rfl
  have N0 := Fr.nil n0
  obtain ⟨_, _, ⟨T3, L3, k3, n3⟩, -, X3, ⟨Lc3, hQ3, l3, y3, z3⟩, st3⟩ := Jvm.LawKit.callS X0 hx (y := yN15) hown (mvT hZ (ow hw 100 rfl)) (mvT hZ (ow hw 101 rfl)) (mvT hZ (ow hw 21 rfl)) (mvT hZ (ow hw 102 rfl)) (by decide) (backOf (W := 1) (ulen l Z a0 hw [] pR1 pI801 pI802 pI803 pI804 pK2 h0 n0 Z0 V_pR1) hZ (ow hw 102 rfl) (ow hw 21 rfl) (by decide) (by decide)) (g := (mkF m 2 #[.val (.int 2), .val (.ref pR1)] [(.ref pR1), (.int 2)])) rfl (by rw [hml]; rfl) (argsL := [(.ref pR1)]) (rest := [(.int 2)]) (lenOf pd_10 rfl) rfl (Nat.le_refl _) (hb hby d22_2) (fun _ _ => ⟨rfl, e0, (by decide : 0 + 0 ≤ _), (by decide : 0 + 0 ≤ _)⟩)
  dsimp only [Pt.U, Pt.locs, Pt.cells, Pt.slots] at X3 l3 y3 z3 st3 hQ3
  subst l3 y3 z3
  obtain ⟨rfl, Nq3, e3⟩ := hQ3
  have N3 := Fr.app N0 Nq3
  obtain ⟨_, _, ⟨T5, L5, k5, n5⟩, -, X5, ⟨Lc5, hQ5, l5, y5, z5⟩, st5⟩ := Jvm.LawKit.callS X3 hx (y := yN13) hown (mvT hZ (ow hw 103 rfl)) (mvT hZ (ow hw 65 rfl)) (mvT hZ (ow hw 7 rfl)) (mvT hZ (ow hw 66 rfl)) (by decide) (backOf (W := 0) (sci l Z a0 hw [] (2 : Int32) (4 : Int32) pV4 h0 n0 Z0 S_Preconditions_SIOOBE_FORMATTER (by decide) (by decide) hc5) hZ (ow hw 66 rfl) (ow hw 7 rfl) (by decide) (by decide)) (g := (mkF m 5 #[.val (.int 2), .val (.ref pR1)] [(.int 4), (.int 2)])) rfl (by rw [hml]; rfl) (argsL := [(.int 2), (.int 4)]) (rest := []) (lenOf pd_9 rfl) rfl (Nat.le_refl _) (hb hby d22_5) (fun _ _ => ⟨rfl, e3, (by decide : 0 + 0 ≤ _), (by decide : 0 + 0 ≤ _)⟩)
  dsimp only [Pt.U, Pt.locs, Pt.cells, Pt.slots] at X5 l5 y5 z5 st5 hQ5
  subst l5 y5 z5
  obtain ⟨rfl, Nq5, e5⟩ := hQ5
  have N5 := Fr.app N3 Nq5
  obtain ⟨fs, hr, hrun, hended, hW, hsame⟩ := X5.leave (v := none) (fun _ => rfl)
  refine ⟨_, _, castTop (ef_uci2 m pR1) ?_, hrun, hended, _, _, rfl, ?_, ⟨_, rfl⟩, hW, hsame.mono (by decide) (by decide)⟩
  · show oS p e below s₁ m 0 #[.val (.int 2), .val (.ref pR1)] [] _
    refine XS.iloadN X0.here hx rfl (hb hby d22_0) rfl ?_
    refine XS.aloadN X0.here hx rfl (hb hby d22_1) rfl rfl ?_
    refine st3 _ ?_
    refine st5 _ ?_
    exact X5.returnOut hx Bd.returns (hb hby d22_8) hr
  · show Quci2 Z pR1 pI801 pI802 pI803 pI804 pK2 pV4 h0 n0 _ T5.heap _
    rw [e5]
    exact ⟨rfl, N5, rfl⟩
theorem ef_uca2 (m : MethodId) (pR1 : Addr) : entryFrame m #[(.ref pR1), (.int 2)] 2 = mkF m 0 #[.val (.ref pR1), .val (.int 2)] [] := by first | (simp [entryFrame, mkF, argsToLocals, Value.category]; done) | rfl
def Quca2 (Z : State) (pR1 : Addr) (pI801 : Int32) (pI802 : Int32) (pI803 : Int32) (pI804 : Int32) (pK2 : ClassId) (pV3 : Value) (h0 : Heap) (n0 : Nat) (v : Option Value) (h : Heap) (L : List Loc) : Prop := v = some (.int pI803) ∧ Fr n0 L ∧ h = h0
set_option maxRecDepth 65536 in
set_option maxHeartbeats 40000000 in
theorem uca2 (l : Launch) (Z : State) (a0 : Array Value) (hw : ∀ d ∈ tables_1, d.before a0 Z = true) (ws : List Jvm.Cond) (pR1 : Addr) (pI801 : Int32) (pI802 : Int32) (pI803 : Int32) (pI804 : Int32) (pK2 : ClassId) (pV3 : Value) (h0 : Heap) (n0 : Nat) (Z0 : n0 ≤ h0.size) (V_pR1 : Arv Z h0 pR1 pK2 .byte (8 : Int32) [(.int ((pI801 >>> ((0 : Int32) &&& 31)).toInt8.toInt32)), (.int ((pI801 >>> ((8 : Int32) &&& 31)).toInt8.toInt32)), (.int ((pI802 >>> ((0 : Int32) &&& 31)).toInt8.toInt32)), (.int ((pI802 >>> ((8 : Int32) &&& 31)).toInt8.toInt32)), (.int ((pI803 >>> ((0 : Int32) &&& 31)).toInt8.toInt32)), (.int ((pI803 >>> ((8 : Int32) &&& 31)).toInt8.toInt32)), (.int ((pI804 >>> ((0 : Int32) &&& 31)).toInt8.toInt32)), (.int ((pI804 >>> ((8 : Int32) &&& 31)).toInt8.toInt32))] (.int (0 : Int32))) (S_Preconditions_SIOOBE_FORMATTER : Sta Z h0 "jdk/internal/util/Preconditions" "SIOOBE_FORMATTER" "Ljava/util/function/BiFunction;" pV3) (S_StringUTF16__assertionsDisabled : Sta Z h0 "java/lang/StringUTF16" "$assertionsDisabled" "Z" (.int 1)) (S_StringUTF16_HI_BYTE_SHIFT : Sta Z h0 "java/lang/StringUTF16" "HI_BYTE_SHIFT" "I" (.int 0)) (S_StringUTF16_LO_BYTE_SHIFT : Sta Z h0 "java/lang/StringUTF16" "LO_BYTE_SHIFT" "I" (.int 8)) (hrg : 0 ≤ pI803.toInt ∧ pI803.toInt ≤ 65535) (hc2 : pV3.isRef = true) :
    oM l yN18 jdk_52_method_83_code 2 (some .char) ws ({ frames := 3, cells := 0, slots := 0, locals := 40 } : Room) #[(.ref pR1), (.int 2)] Z h0 (Quca2 Z pR1 pI801 pI802 pI803 pI804 pK2 pV3 h0 n0) := by
  refine MetFree.of_bodySF (plainFor_of_name pn_1) hisR ?_
  intro p e s m args below meth c s₁ Bd hml0 hP hK
  obtain ⟨rfl, hZ, hh⟩ := hP
  have hx := Bd.exec
  have hby := Bd.bytes
  have hml : c.maxLocals = 2 := hml0
  have hown : s.vm.findClass "java/lang/StringUTF16" = some m.cls := findClass_of_methodNamed Bd.named
  have hnm := (name_of_methodNamed Bd.named Bd.method).1
  have X0 : Stand p l e ({ frames := 3, cells := 0, slots := 0, locals := 40 } : Room) s m #[(.ref pR1), (.int 2)] below meth c s₁ [] 0 0 := Stand.of_body Bd
  have e0 : s₁.heap = h0 := by rw [← hh, Bd.state]; rfl
  have N0 := Fr.nil n0
  obtain ⟨_, _, ⟨T4, L4, k4, n4⟩, -, X4, ⟨Lc4, hQ4, l4, y4, z4⟩, st4⟩ := Jvm.LawKit.callS X0 hx (y := yN17) hown (mvT hZ (ow hw 97 rfl)) (mvT hZ (ow hw 98 rfl)) (mvT hZ (ow hw 21 rfl)) (mvT hZ (ow hw 99 rfl)) (by decide) (backOf (W := 0) (uci2 l Z a0 hw [] pR1 pI801 pI802 pI803 pI804 pK2 pV3 h0 n0 Z0 V_pR1 S_Preconditions_SIOOBE_FORMATTER hc2) hZ (ow hw 99 rfl) (ow hw 21 rfl) (by decide) (by decide)) (g := (mkF m 2 #[.val (.ref pR1), .val (.int 2)] [(.ref pR1), (.int 2)])) rfl (by rw [hml]; rfl) (argsL := [(.int 2), (.ref pR1)]) (rest := []) (lenOf pd_11 rfl) rfl (Nat.le_refl _) (hb hby d21_2) (fun _ _ => ⟨rfl, e0, (by decide : 0 + 0 ≤ _), (by decide : 0 + 0 ≤ _)⟩)
  dsimp only [Pt.U, Pt.locs, Pt.cells, Pt.slots] at X4 l4 y4 z4 st4 hQ4
  subst l4 y4 z4
  obtain ⟨rfl, Nq4, e4⟩ := hQ4
  have N4 := Fr.app N0 Nq4
  obtain ⟨_, _, ⟨T5, L5, k5, n5⟩, -, X5, ⟨Lc5, hQ5, l5, y5, z5⟩, st5⟩ := Jvm.LawKit.callS X4 hx (y := yN7) hown (mvT hZ (ow hw 91 rfl)) (mvT hZ (ow hw 92 rfl)) (mvT hZ (ow hw 21 rfl)) (mvT hZ (ow hw 93 rfl)) (by decide) (backOf (W := 0) (gc2 l Z a0 hw [] pR1 pI801 pI802 pI803 pI804 pK2 h0 n0 Z0 S_StringUTF16__assertionsDisabled V_pR1 S_StringUTF16_HI_BYTE_SHIFT S_StringUTF16_LO_BYTE_SHIFT hrg) hZ (ow hw 93 rfl) (ow hw 21 rfl) (by decide) (by decide)) (g := (mkF m 7 #[.val (.ref pR1), .val (.int 2)] [(.int 2), (.ref pR1)])) rfl (by rw [hml]; rfl) (argsL := [(.ref pR1), (.int 2)]) (rest := []) (lenOf pd_5 rfl) rfl (Nat.le_refl _) (hb hby d21_7) (fun _ _ => ⟨rfl, e4, (by decide : 0 + 0 ≤ _), (by decide : 0 + 0 ≤ _)⟩)
  dsimp only [Pt.U, Pt.locs, Pt.cells, Pt.slots] at X5 l5 y5 z5 st5 hQ5
  subst l5 y5 z5
  obtain ⟨rfl, Nq5, e5⟩ := hQ5
  have N5 := Fr.app N4 Nq5
  obtain ⟨fs, hr, hrun, hended, hW, hsame⟩ := X5.leave (v := some (.int (nar .char pI803))) (fun h => by rw [Bd.returns] at h; cases h)
  refine ⟨_, _, castTop (ef_uca2 m pR1) ?_, hrun, hended, _, _, rfl, ?_, ⟨_, rfl⟩, hW, hsame.mono (by decide) (by decide)⟩
  · show oS p e below s₁ m 0 #[.val (.ref pR1), .val (.int 2)] [] _
    refine XS.iloadN X0.here hx rfl (hb hby d21_0) rfl ?_
    refine XS.aloadN X0.here hx rfl (hb hby d21_1) rfl rfl ?_
    refine st4 _ ?_
    refine XS.aloadN X4.here hx rfl (hb hby d21_5) rfl rfl ?_
    refine XS.iloadN X4.here hx rfl (hb hby d21_6) rfl ?_
    refine st5 _ ?_
    show oS p e below T5 m 10 #[.val (.ref pR1), .val (.int 2)] [(.int pI803)] _
    exact retN X5 hx (t := .char) Bd.returns (by simp) (hb hby d21_10) hr
  · show Quca2 Z pR1 pI801 pI802 pI803 pI804 pK2 pV3 h0 n0 _ T5.heap _
    rw [e5]
    exact ⟨(by rw [own_narc hrg]), N5, rfl⟩
theorem ef_scaL2 (m : MethodId) (pR1 : Addr) : entryFrame m #[(.ref pR1), (.int 2)] 2 = mkF m 0 #[.val (.ref pR1), .val (.int 2)] [] := by first | (simp [entryFrame, mkF, argsToLocals, Value.category]; done) | rfl
def QscaL2 (Z : State) (pR1 : Addr) (pI2 : Int32) (pR4 : Addr) (pI801 : Int32) (pI802 : Int32) (pI803 : Int32) (pI804 : Int32) (pK6 : ClassId) (pV7 : Value) (h0 : Heap) (n0 : Nat) (v : Option Value) (h : Heap) (L : List Loc) : Prop := v = some (.int pI803) ∧ Fr n0 L ∧ h = h0
set_option maxRecDepth 65536 in
set_option maxHeartbeats 40000000 in
theorem scaL2 (l : Launch) (Z : State) (a0 : Array Value) (hw : ∀ d ∈ tables_1, d.before a0 Z = true) (ws : List Jvm.Cond) (pR1 : Addr) (pI2 : Int32) (pR4 : Addr) (pI801 : Int32) (pI802 : Int32) (pI803 : Int32) (pI804 : Int32) (pK6 : ClassId) (pV7 : Value) (h0 : Heap) (n0 : Nat) (Z0 : n0 ≤ h0.size) (S_String_COMPACT_STRINGS : Sta Z h0 "java/lang/String" "COMPACT_STRINGS" "Z" (.int pI2)) (F_coder_pR1 : Fld Z h0 pR1 "java/lang/String" "coder" "B" (.int 0)) (E_pR1 : Exa Z h0 pR1 "java/lang/String") (F_value_pR1 : Fld Z h0 pR1 "java/lang/String" "value" "[B" (.ref pR4)) (V_pR4 : Arv Z h0 pR4 pK6 .byte (4 : Int32) [(.int (pI801.toInt8.toInt32)), (.int (pI802.toInt8.toInt32)), (.int (pI803.toInt8.toInt32)), (.int (pI804.toInt8.toInt32))] (.int (0 : Int32))) (S_Preconditions_SIOOBE_FORMATTER : Sta Z h0 "jdk/internal/util/Preconditions" "SIOOBE_FORMATTER" "Ljava/util/function/BiFunction;" pV7) (hrg : 0 ≤ pI803.toInt ∧ pI803.toInt ≤ 65535) (hl : ¬ ((255 : Int32) < pI803)) (hc1 : ¬ (pI2 = (0 : Int32))) (hc12 : pV7.isRef = true) :
    oM l yN19 jdk_42_method_56_code 2 (some .char) ws ({ frames := 3, cells := 0, slots := 0, locals := 40 } : Room) #[(.ref pR1), (.int 2)] Z h0 (QscaL2 Z pR1 pI2 pR4 pI801 pI802 pI803 pI804 pK6 pV7 h0 n0) := by
  refine MetFree.of_bodySF (plainFor_of_name pn_2) hisR ?_
  intro p e s m args below meth c s₁ Bd hml0 hP hK
  obtain ⟨rfl, hZ, hh⟩ := hP
  have hx := Bd.exec
  have hby := Bd.bytes
  have hml : c.maxLocals = 2 := hml0
  have hown : s.vm.findClass "java/lang/String" = some m.cls := findClass_of_methodNamed Bd.named
  have hnm := (name_of_methodNamed Bd.named Bd.method).1
  have X0 : Stand p l e ({ frames := 3, cells := 0, slots := 0, locals := 40 } : Room) s m #[(.ref pR1), (.int 2)] below meth c s₁ [] 0 0 := Stand.of_body Bd
  have e0 : s₁.heap = h0 := by rw [← hh, Bd.state]; rfl
  have N0 := Fr.nil n0
  obtain ⟨cq3, kq3, q3a, q3b, q3c⟩ := isOf hZ e0 E_pR1
  obtain ⟨_, _, ⟨T3, L3, k3, n3⟩, -, X3, ⟨Lc3, hQ3, l3, y3, z3⟩, st3⟩ := X0.virtualBack hx (y := yN14) (z := yN14) hown (mvT hZ (ow hw 55 rfl)) (mvT hZ (ow hw 56 rfl)) (notFace_of_selects (args := #[]) (mvT hZ (ow hw 58 rfl))) (mvT hZ (ow hw 58 rfl)) (mvT hZ (ow hw 57 rfl)) (by decide) (backOf (W := 0) (islL l Z a0 hw [] pR1 pI2 h0 n0 Z0 S_String_COMPACT_STRINGS F_coder_pR1 hc1) hZ (ow hw 59 rfl) (ow hw 7 rfl) (by decide) (by decide)) q3a q3c (g := (mkF m 1 #[.val (.ref pR1), .val (.int 2)] [(.ref pR1)])) rfl (by rw [hml]; rfl) (Steps.refl _) (argsL := []) (rest := []) (lenOf pd_12 rfl) rfl (Nat.le_refl _) (hb hby d10_1) (fun _ _ => ⟨rfl, e0, (by decide : 0 + 0 ≤ _), (by decide : 0 + 0 ≤ _)⟩)
  dsimp only [Pt.U, Pt.locs, Pt.cells, Pt.slots] at X3 l3 y3 z3 st3 hQ3
  subst l3 y3 z3
  obtain ⟨rfl, Nq3, e3⟩ := hQ3
  have N3 := Fr.app N0 Nq3
  obtain ⟨T5, X5, e5, st5⟩ := getF X3 hx hZ hown (host := "") (Or.inl (ow hw 32 rfl)) Via.refl e3 F_value_pR1 (g := (mkF m 8 #[.val (.ref pR1), .val (.int 2)] [(.ref pR1)])) rfl rfl (hb hby d10_8)
  obtain ⟨_, _, ⟨T8, L8, k8, n8⟩, -, X8, ⟨Lc8, hQ8, l8, y8, z8⟩, st8⟩ := Jvm.LawKit.callS X5 hx (y := yN16) hown (mvT hZ (ow hw 60 rfl)) (mvT hZ (ow hw 61 rfl)) (mvT hZ (ow hw 62 rfl)) (mvT hZ (ow hw 63 rfl)) (by decide) (backOf (W := 0) (lca2 l Z a0 hw [] pR4 pI801 pI802 pI803 pI804 pK6 pV7 h0 n0 Z0 V_pR4 S_Preconditions_SIOOBE_FORMATTER hrg hl hc12) hZ (ow hw 63 rfl) (ow hw 62 rfl) (by decide) (by decide)) (g := (mkF m 12 #[.val (.ref pR1), .val (.int 2)] [(.int 2), (.ref pR4)])) rfl (by rw [hml]; rfl) (argsL := [(.ref pR4), (.int 2)]) (rest := []) (lenOf pd_5 rfl) rfl (Nat.le_refl _) (hb hby d10_12) (fun _ _ => ⟨rfl, e5, (by decide : 0 + 0 ≤ _), (by decide : 0 + 0 ≤ _)⟩)
  dsimp only [Pt.U, Pt.locs, Pt.cells, Pt.slots] at X8 l8 y8 z8 st8 hQ8
  subst l8 y8 z8
  obtain ⟨rfl, Nq8, e8⟩ := hQ8
  have N8 := Fr.app N3 Nq8
  obtain ⟨fs, hr, hrun, hended, hW, hsame⟩ := X8.leave (v := some (.int (nar .char pI803))) (fun h => by rw [Bd.returns] at h; cases h)
  refine ⟨_, _, castTop (ef_scaL2 m pR1) ?_, hrun, hended, _, _, rfl, ?_, ⟨_, rfl⟩, hW, hsame.mono (by decide) (by decide)⟩
  · show oS p e below s₁ m 0 #[.val (.ref pR1), .val (.int 2)] [] _
    refine XS.aloadN X0.here hx rfl (hb hby d10_0) rfl rfl ?_
    refine st3.trans ?_
    refine XS.ifNo X3.here hx rfl (hb hby d10_4) rfl ((if0 _ _).trans (feq (by decide : ¬ ((1 : Int32) = (0 : Int32)))).1) ?_
    refine XS.aloadN X3.here hx rfl (hb hby d10_7) rfl rfl ?_
    refine st5 _ ?_
    refine XS.iloadN X5.here hx rfl (hb hby d10_11) rfl ?_
    show oS p e below T5 m 12 #[.val (.ref pR1), .val (.int 2)] [(.int 2), (.ref pR4)] _
    refine st8 _ ?_
    exact retN X8 hx (t := .char) Bd.returns (by simp) (hb hby d10_15) hr
  · show QscaL2 Z pR1 pI2 pR4 pI801 pI802 pI803 pI804 pK6 pV7 h0 n0 _ T8.heap _
    rw [e8]
    exact ⟨(by rw [own_narc hrg]), N8, rfl⟩
theorem ef_scaU2 (m : MethodId) (pR1 : Addr) : entryFrame m #[(.ref pR1), (.int 2)] 2 = mkF m 0 #[.val (.ref pR1), .val (.int 2)] [] := by first | (simp [entryFrame, mkF, argsToLocals, Value.category]; done) | rfl
def QscaU2 (Z : State) (pR1 : Addr) (pI2 : Int32) (pR4 : Addr) (pI801 : Int32) (pI802 : Int32) (pI803 : Int32) (pI804 : Int32) (pK6 : ClassId) (pV7 : Value) (h0 : Heap) (n0 : Nat) (v : Option Value) (h : Heap) (L : List Loc) : Prop := v = some (.int pI803) ∧ Fr n0 L ∧ h = h0
set_option maxRecDepth 65536 in
set_option maxHeartbeats 40000000 in
theorem scaU2 (l : Launch) (Z : State) (a0 : Array Value) (hw : ∀ d ∈ tables_1, d.before a0 Z = true) (ws : List Jvm.Cond) (pR1 : Addr) (pI2 : Int32) (pR4 : Addr) (pI801 : Int32) (pI802 : Int32) (pI803 : Int32) (pI804 : Int32) (pK6 : ClassId) (pV7 : Value) (h0 : Heap) (n0 : Nat) (Z0 : n0 ≤ h0.size) (S_String_COMPACT_STRINGS : Sta Z h0 "java/lang/String" "COMPACT_STRINGS" "Z" (.int pI2)) (F_coder_pR1 : Fld Z h0 pR1 "java/lang/String" "coder" "B" (.int 1)) (E_pR1 : Exa Z h0 pR1 "java/lang/String") (F_value_pR1 : Fld Z h0 pR1 "java/lang/String" "value" "[B" (.ref pR4)) (V_pR4 : Arv Z h0 pR4 pK6 .byte (8 : Int32) [(.int ((pI801 >>> ((0 : Int32) &&& 31)).toInt8.toInt32)), (.int ((pI801 >>> ((8 : Int32) &&& 31)).toInt8.toInt32)), (.int ((pI802 >>> ((0 : Int32) &&& 31)).toInt8.toInt32)), (.int ((pI802 >>> ((8 : Int32) &&& 31)).toInt8.toInt32)), (.int ((pI803 >>> ((0 : Int32) &&& 31)).toInt8.toInt32)), (.int ((pI803 >>> ((8 : Int32) &&& 31)).toInt8.toInt32)), (.int ((pI804 >>> ((0 : Int32) &&& 31)).toInt8.toInt32)), (.int ((pI804 >>> ((8 : Int32) &&& 31)).toInt8.toInt32))] (.int (0 : Int32))) (S_Preconditions_SIOOBE_FORMATTER : Sta Z h0 "jdk/internal/util/Preconditions" "SIOOBE_FORMATTER" "Ljava/util/function/BiFunction;" pV7) (S_StringUTF16__assertionsDisabled : Sta Z h0 "java/lang/StringUTF16" "$assertionsDisabled" "Z" (.int 1)) (S_StringUTF16_HI_BYTE_SHIFT : Sta Z h0 "java/lang/StringUTF16" "HI_BYTE_SHIFT" "I" (.int 0)) (S_StringUTF16_LO_BYTE_SHIFT : Sta Z h0 "java/lang/StringUTF16" "LO_BYTE_SHIFT" "I" (.int 8)) (hrg : 0 ≤ pI803.toInt ∧ pI803.toInt ≤ 65535) (hc1 : ¬ (pI2 = (0 : Int32))) (hc21 : pV7.isRef = true) :
    oM l yN19 jdk_42_method_56_code 2 (some .char) ws ({ frames := 4, cells := 0, slots := 0, locals := 53 } : Room) #[(.ref pR1), (.int 2)] Z h0 (QscaU2 Z pR1 pI2 pR4 pI801 pI802 pI803 pI804 pK6 pV7 h0 n0) := by
  refine MetFree.of_bodySF (plainFor_of_name pn_2) hisR ?_
  intro p e s m args below meth c s₁ Bd hml0 hP hK
  obtain ⟨rfl, hZ, hh⟩ := hP
  have hx := Bd.exec
  have hby := Bd.bytes
  have hml : c.maxLocals = 2 := hml0
  have hown : s.vm.findClass "java/lang/String" = some m.cls := findClass_of_methodNamed Bd.named
  have hnm := (name_of_methodNamed Bd.named Bd.method).1
  have X0 : Stand p l e ({ frames := 4, cells := 0, slots := 0, locals := 53 } : Room) s m #[(.ref pR1), (.int 2)] below meth c s₁ [] 0 0 := Stand.of_body Bd
  have e0 : s₁.heap = h0 := by rw [← hh, Bd.state]; rfl
  have N0 := Fr.nil n0
  obtain ⟨cq3, kq3, q3a, q3b, q3c⟩ := isOf hZ e0 E_pR1
  obtain ⟨_, _, ⟨T3, L3, k3, n3⟩, -, X3, ⟨Lc3, hQ3, l3, y3, z3⟩, st3⟩ := X0.virtualBack hx (y := yN14) (z := yN14) hown (mvT hZ (ow hw 55 rfl)) (mvT hZ (ow hw 56 rfl)) (notFace_of_selects (args := #[]) (mvT hZ (ow hw 58 rfl))) (mvT hZ (ow hw 58 rfl)) (mvT hZ (ow hw 57 rfl)) (by decide) (backOf (W := 0) (islU l Z a0 hw [] pR1 pI2 h0 n0 Z0 S_String_COMPACT_STRINGS F_coder_pR1 hc1) hZ (ow hw 59 rfl) (ow hw 7 rfl) (by decide) (by decide)) q3a q3c (g := (mkF m 1 #[.val (.ref pR1), .val (.int 2)] [(.ref pR1)])) rfl (by rw [hml]; rfl) (Steps.refl _) (argsL := []) (rest := []) (lenOf pd_12 rfl) rfl (Nat.le_refl _) (hb hby d10_1) (fun _ _ => ⟨rfl, e0, (by decide : 0 + 0 ≤ _), (by decide : 0 + 0 ≤ _)⟩)
  dsimp only [Pt.U, Pt.locs, Pt.cells, Pt.slots] at X3 l3 y3 z3 st3 hQ3
  subst l3 y3 z3
  obtain ⟨rfl, Nq3, e3⟩ := hQ3
  have N3 := Fr.app N0 Nq3
  obtain ⟨T5, X5, e5, st5⟩ := getF X3 hx hZ hown (host := "") (Or.inl (ow hw 32 rfl)) Via.refl e3 F_value_pR1 (g := (mkF m 17 #[.val (.ref pR1), .val (.int 2)] [(.ref pR1)])) rfl rfl (hb hby d10_17)
  obtain ⟨_, _, ⟨T8, L8, k8, n8⟩, -, X8, ⟨Lc8, hQ8, l8, y8, z8⟩, st8⟩ := Jvm.LawKit.callS X5 hx (y := yN18) hown (mvT hZ (ow hw 94 rfl)) (mvT hZ (ow hw 95 rfl)) (mvT hZ (ow hw 21 rfl)) (mvT hZ (ow hw 96 rfl)) (by decide) (backOf (W := 0) (uca2 l Z a0 hw [] pR4 pI801 pI802 pI803 pI804 pK6 pV7 h0 n0 Z0 V_pR4 S_Preconditions_SIOOBE_FORMATTER S_StringUTF16__assertionsDisabled S_StringUTF16_HI_BYTE_SHIFT S_StringUTF16_LO_BYTE_SHIFT hrg hc21) hZ (ow hw 96 rfl) (ow hw 21 rfl) (by decide) (by decide)) (g := (mkF m 21 #[.val (.ref pR1), .val (.int 2)] [(.int 2), (.ref pR4)])) rfl (by rw [hml]; rfl) (argsL := [(.ref pR4), (.int 2)]) (rest := []) (lenOf pd_5 rfl) rfl (Nat.le_refl _) (hb hby d10_21) (fun _ _ => ⟨rfl, e5, (by decide : 0 + 0 ≤ _), (by decide : 0 + 0 ≤ _)⟩)
  dsimp only [Pt.U, Pt.locs, Pt.cells, Pt.slots] at X8 l8 y8 z8 st8 hQ8
  subst l8 y8 z8
  obtain ⟨rfl, Nq8, e8⟩ := hQ8
  have N8 := Fr.app N3 Nq8
  obtain ⟨fs, hr, hrun, hended, hW, hsame⟩ := X8.leave (v := some (.int (nar .char pI803))) (fun h => by rw [Bd.returns] at h; cases h)
  refine ⟨_, _, castTop (ef_scaU2 m pR1) ?_, hrun, hended, _, _, rfl, ?_, ⟨_, rfl⟩, hW, hsame.mono (by decide) (by decide)⟩
  · show oS p e below s₁ m 0 #[.val (.ref pR1), .val (.int 2)] [] _
    refine XS.aloadN X0.here hx rfl (hb hby d10_0) rfl rfl ?_
    refine st3.trans ?_
    refine XS.ifYes X3.here hx rfl (pc0 := 4) (pc' := 16) rfl (hb hby d10_4) rfl ((if0 _ _).trans (teq (by decide : (0 : Int32) = (0 : Int32))).1) (by decide) (by decide) ?_
    refine XS.aloadN X3.here hx rfl (hb hby d10_16) rfl rfl ?_
    refine st5 _ ?_
    refine XS.iloadN X5.here hx rfl (hb hby d10_20) rfl ?_
    show oS p e below T5 m 21 #[.val (.ref pR1), .val (.int 2)] [(.int 2), (.ref pR4)] _
    refine st8 _ ?_
    exact retN X8 hx (t := .char) Bd.returns (by simp) (hb hby d10_24) hr
  · show QscaU2 Z pR1 pI2 pR4 pI801 pI802 pI803 pI804 pK6 pV7 h0 n0 _ T8.heap _
    rw [e8]
    exact ⟨(by rw [own_narc hrg]), N8, rfl⟩
theorem ef_grL2_0 (m : MethodId) (pR1 : Addr) : entryFrame m #[(.ref pR1), (.int 2)] 3 = mkF m 0 #[.val (.ref pR1), .val (.int 2), .unset] [] := by first | (simp [entryFrame, mkF, argsToLocals, Value.category]; done) | rfl
def QgrL2 (Z : State) (pR1 : Addr) (pR2 : Addr) (pI4 : Int32) (pR5 : Addr) (pI801 : Int32) (pI802 : Int32) (pI803 : Int32) (pI804 : Int32) (pK6 : ClassId) (pV7 : Value) (h0 : Heap) (n0 : Nat) (v : Option Value) (h : Heap) (L : List Loc) : Prop := v = some (.int (own_green pI803)) ∧ Fr n0 L ∧ h = h0
set_option maxRecDepth 65536 in
set_option maxHeartbeats 40000000 in
theorem grL2_0 (l : Launch) (Z : State) (a0 : Array Value) (hw : ∀ d ∈ tables_1, d.before a0 Z = true) (ws : List Jvm.Cond) (pR1 : Addr) (pR2 : Addr) (pI4 : Int32) (pR5 : Addr) (pI801 : Int32) (pI802 : Int32) (pI803 : Int32) (pI804 : Int32) (pK6 : ClassId) (pV7 : Value) (h0 : Heap) (n0 : Nat) (Z0 : n0 ≤ h0.size) (F_state_pR1 : Fld Z h0 pR1 "com/example/watchful_junction/watchfuljunction/importer/Network$Phase" "state" "Ljava/lang/String;" (.ref pR2)) (S_String_COMPACT_STRINGS : Sta Z h0 "java/lang/String" "COMPACT_STRINGS" "Z" (.int pI4)) (F_coder_pR2 : Fld Z h0 pR2 "java/lang/String" "coder" "B" (.int 0)) (E_pR2 : Exa Z h0 pR2 "java/lang/String") (F_value_pR2 : Fld Z h0 pR2 "java/lang/String" "value" "[B" (.ref pR5)) (V_pR5 : Arv Z h0 pR5 pK6 .byte (4 : Int32) [(.int (pI801.toInt8.toInt32)), (.int (pI802.toInt8.toInt32)), (.int (pI803.toInt8.toInt32)), (.int (pI804.toInt8.toInt32))] (.int (0 : Int32))) (S_Preconditions_SIOOBE_FORMATTER : Sta Z h0 "jdk/internal/util/Preconditions" "SIOOBE_FORMATTER" "Ljava/util/function/BiFunction;" pV7) (hrg : 0 ≤ pI803.toInt ∧ pI803.toInt ≤ 65535) (hl : ¬ ((255 : Int32) < pI803)) (hc5 : ¬ (pI4 = (0 : Int32))) (hc5' : pV7.isRef = true) (hc12 : pI803 = (71 : Int32)) :
    oM l yN20 prog_18_method_3_code 3 (some .boolean) ws ({ frames := 4, cells := 0, slots := 0, locals := 53 } : Room) #[(.ref pR1), (.int 2)] Z h0 (QgrL2 Z pR1 pR2 pI4 pR5 pI801 pI802 pI803 pI804 pK6 pV7 h0 n0) := by
  refine MetFree.of_bodySF (plainFor_of_name pn_5) hisR ?_
  intro p e s m args below meth c s₁ Bd hml0 hP hK
  obtain ⟨rfl, hZ, hh⟩ := hP
  have hx := Bd.exec
  have hby := Bd.bytes
  have hml : c.maxLocals = 3 := hml0
  have hown : s.vm.findClass "com/example/watchful_junction/watchfuljunction/importer/Network$Phase" = some m.cls := findClass_of_methodNamed Bd.named
  have hnm := (name_of_methodNamed Bd.named Bd.method).1
  have X0 : Stand p l e ({ frames := 4, cells := 0, slots := 0, locals := 53 } : Room) s m #[(.ref pR1), (.int 2)] below meth c s₁ [] 0 0 := Stand.of_body Bd
  have e0 : s₁.heap = h0 := by rw [← hh, Bd.state]; rfl
  have N0 := Fr.nil n0
  obtain ⟨T3, X3, e3, st3⟩ := getF X0 hx hZ hown (host := "") (Or.inl (ow hw 43 rfl)) Via.refl e0 F_state_pR1 (g := (mkF m 1 #[.val (.ref pR1), .val (.int 2), .unset] [(.ref pR1)])) rfl rfl (hb hby d9_1)
  obtain ⟨cq8, kq8, q8a, q8b, q8c⟩ := isOf hZ e3 E_pR2
  obtain ⟨_, _, ⟨T8, L8, k8, n8⟩, -, X8, ⟨Lc8, hQ8, l8, y8, z8⟩, st8⟩ := X3.virtualBack hx (y := yN19) (z := yN19) hown (mvT hZ (ow hw 50 rfl)) (mvT hZ (ow hw 51 rfl)) (notFace_of_selects (args := #[]) (mvT hZ (ow hw 53 rfl))) (mvT hZ (ow hw 53 rfl)) (mvT hZ (ow hw 52 rfl)) (by decide) (backOf (W := 0) (scaL2 l Z a0 hw [] pR2 pI4 pR5 pI801 pI802 pI803 pI804 pK6 pV7 h0 n0 Z0 S_String_COMPACT_STRINGS F_coder_pR2 E_pR2 F_value_pR2 V_pR5 S_Preconditions_SIOOBE_FORMATTER hrg hl hc5 hc5') hZ (ow hw 54 rfl) (ow hw 7 rfl) (by decide) (by decide)) q8a q8c (g := (mkF m 5 #[.val (.ref pR1), .val (.int 2), .unset] [(.int 2), (.ref pR2)])) rfl (by rw [hml]; rfl) (Steps.refl _) (argsL := [(.int 2)]) (rest := []) (lenOf pd_13 rfl) rfl (Nat.le_refl _) (hb hby d9_5) (fun _ _ => ⟨rfl, e3, (by decide : 0 + 0 ≤ _), (by decide : 0 + 0 ≤ _)⟩)
  dsimp only [Pt.U, Pt.locs, Pt.cells, Pt.slots] at X8 l8 y8 z8 st8 hQ8
  subst l8 y8 z8
  obtain ⟨rfl, Nq8, e8⟩ := hQ8
  have N8 := Fr.app N0 Nq8
  obtain ⟨fs, hr, hrun, hended, hW, hsame⟩ := X8.leave (v := some (.int 1)) (fun h => by rw [Bd.returns] at h; cases h)
  refine ⟨_, _, castTop (ef_grL2_0 m pR1) ?_, hrun, hended, _, _, rfl, ?_, ⟨_, rfl⟩, hW, hsame.mono (by decide) (by decide)⟩
  · show oS p e below s₁ m 0 #[.val (.ref pR1), .val (.int 2), .unset] [] _
    refine XS.aloadN X0.here hx rfl (hb hby d9_0) rfl rfl ?_
    refine st3 _ ?_
    refine XS.iloadN X3.here hx rfl (hb hby d9_4) rfl ?_
    refine st8.trans ?_
    refine XS.istoreN X8.here hx rfl (hb hby d9_8) rfl (l' := #[.val (.ref pR1), .val (.int 2), .val (.int pI803)]) rfl ?_
    refine XS.iloadN X8.here hx rfl (hb hby d9_9) rfl ?_
    show oS p e below T8 m 10 #[.val (.ref pR1), .val (.int 2), .val (.int pI803)] [(.int pI803)] _
    refine XS.bipush X8.here hx rfl (hb hby d9_10) ?_
    refine XS.icmpYes X8.here hx rfl (pc0 := 12) (pc' := 21) rfl (hb hby d9_12) rfl (teq hc12).1 (by decide) (by decide) ?_
    refine XS.iconst X8.here hx rfl (hb hby d9_21) ?_
    refine XS.goto X8.here hx rfl (pc0 := 22) (pc' := 26) rfl (hb hby d9_22) (by decide) (by decide) ?_
    exact retN X8 hx (t := .boolean) Bd.returns (by simp) (hb hby d9_26) hr
  · show QgrL2 Z pR1 pR2 pI4 pR5 pI801 pI802 pI803 pI804 pK6 pV7 h0 n0 _ T8.heap _
    rw [e8]
    exact ⟨(by simp [own_green, hc12]), N8, rfl⟩
theorem ef_grL2_1 (m : MethodId) (pR1 : Addr) : entryFrame m #[(.ref pR1), (.int 2)] 3 = mkF m 0 #[.val (.ref pR1), .val (.int 2), .unset] [] := by first | (simp [entryFrame, mkF, argsToLocals, Value.category]; done) | rfl
set_option maxRecDepth 65536 in
set_option maxHeartbeats 40000000 in
theorem grL2_1 (l : Launch) (Z : State) (a0 : Array Value) (hw : ∀ d ∈ tables_1, d.before a0 Z = true) (ws : List Jvm.Cond) (pR1 : Addr) (pR2 : Addr) (pI4 : Int32) (pR5 : Addr) (pI801 : Int32) (pI802 : Int32) (pI803 : Int32) (pI804 : Int32) (pK6 : ClassId) (pV7 : Value) (h0 : Heap) (n0 : Nat) (Z0 : n0 ≤ h0.size) (F_state_pR1 : Fld Z h0 pR1 "com/example/watchful_junction/watchfuljunction/importer/Network$Phase" "state" "Ljava/lang/String;" (.ref pR2)) (S_String_COMPACT_STRINGS : Sta Z h0 "java/lang/String" "COMPACT_STRINGS" "Z" (.int pI4)) (F_coder_pR2 : Fld Z h0 pR2 "java/lang/String" "coder" "B" (.int 0)) (E_pR2 : Exa Z h0 pR2 "java/lang/String") (F_value_pR2 : Fld Z h0 pR2 "java/lang/String" "value" "[B" (.ref pR5)) (V_pR5 : Arv Z h0 pR5 pK6 .byte (4 : Int32) [(.int (pI801.toInt8.toInt32)), (.int (pI802.toInt8.toInt32)), (.int (pI803.toInt8.toInt32)), (.int (pI804.toInt8.toInt32))] (.int (0 : Int32))) (S_Preconditions_SIOOBE_FORMATTER : Sta Z h0 "jdk/internal/util/Preconditions" "SIOOBE_FORMATTER" "Ljava/util/function/BiFunction;" pV7) (hrg : 0 ≤ pI803.toInt ∧ pI803.toInt ≤ 65535) (hl : ¬ ((255 : Int32) < pI803)) (hc5 : ¬ (pI4 = (0 : Int32))) (hc5' : pV7.isRef = true) (hc12 : ¬ (pI803 = (71 : Int32))) (hc18 : pI803 = (103 : Int32)) :
    oM l yN20 prog_18_method_3_code 3 (some .boolean) ws ({ frames := 4, cells := 0, slots := 0, locals := 53 } : Room) #[(.ref pR1), (.int 2)] Z h0 (QgrL2 Z pR1 pR2 pI4 pR5 pI801 pI802 pI803 pI804 pK6 pV7 h0 n0) := by
  refine MetFree.of_bodySF (plainFor_of_name pn_5) hisR ?_
  intro p e s m args below meth c s₁ Bd hml0 hP hK
  obtain ⟨rfl, hZ, hh⟩ := hP
  have hx := Bd.exec
  have hby := Bd.bytes
  have hml : c.maxLocals = 3 := hml0
  have hown : s.vm.findClass "com/example/watchful_junction/watchfuljunction/importer/Network$Phase" = some m.cls := findClass_of_methodNamed Bd.named
  have hnm := (name_of_methodNamed Bd.named Bd.method).1
  have X0 : Stand p l e ({ frames := 4, cells := 0, slots := 0, locals := 53 } : Room) s m #[(.ref pR1), (.int 2)] below meth c s₁ [] 0 0 := Stand.of_body Bd
  have e0 : s₁.heap = h0 := by rw [← hh, Bd.state]; rfl
  have N0 := Fr.nil n0
  obtain ⟨T3, X3, e3, st3⟩ := getF X0 hx hZ hown (host := "") (Or.inl (ow hw 43 rfl)) Via.refl e0 F_state_pR1 (g := (mkF m 1 #[.val (.ref pR1), .val (.int 2), .unset] [(.ref pR1)])) rfl rfl (hb hby d9_1)
  obtain ⟨cq8, kq8, q8a, q8b, q8c⟩ := isOf hZ e3 E_pR2
  obtain ⟨_, _, ⟨T8, L8, k8, n8⟩, -, X8, ⟨Lc8, hQ8, l8, y8, z8⟩, st8⟩ := X3.virtualBack hx (y := yN19) (z := yN19) hown (mvT hZ (ow hw 50 rfl)) (mvT hZ (ow hw 51 rfl)) (notFace_of_selects (args := #[]) (mvT hZ (ow hw 53 rfl))) (mvT hZ (ow hw 53 rfl)) (mvT hZ (ow hw 52 rfl)) (by decide) (backOf (W := 0) (scaL2 l Z a0 hw [] pR2 pI4 pR5 pI801 pI802 pI803 pI804 pK6 pV7 h0 n0 Z0 S_String_COMPACT_STRINGS F_coder_pR2 E_pR2 F_value_pR2 V_pR5 S_Preconditions_SIOOBE_FORMATTER hrg hl hc5 hc5') hZ (ow hw 54 rfl) (ow hw 7 rfl) (by decide) (by decide)) q8a q8c (g := (mkF m 5 #[.val (.ref pR1), .val (.int 2), .unset] [(.int 2), (.ref pR2)])) rfl (by rw [hml]; rfl) (Steps.refl _) (argsL := [(.int 2)]) (rest := []) (lenOf pd_13 rfl) rfl (Nat.le_refl _) (hb hby d9_5) (fun _ _ => ⟨rfl, e3, (by decide : 0 + 0 ≤ _), (by decide : 0 + 0 ≤ _)⟩)
  dsimp only [Pt.U, Pt.locs, Pt.cells, Pt.slots] at X8 l8 y8 z8 st8 hQ8
  subst l8 y8 z8
  obtain ⟨rfl, Nq8, e8⟩ := hQ8
  have N8 := Fr.app N0 Nq8
  obtain ⟨fs, hr, hrun, hended, hW, hsame⟩ := X8.leave (v := some (.int 1)) (fun h => by rw [Bd.returns] at h; cases h)
  refine ⟨_, _, castTop (ef_grL2_1 m pR1) ?_, hrun, hended, _, _, rfl, ?_, ⟨_, rfl⟩, hW, hsame.mono (by decide) (by decide)⟩
  · show oS p e below s₁ m 0 #[.val (.ref pR1), .val (.int 2), .unset] [] _
    refine XS.aloadN X0.here hx rfl (hb hby d9_0) rfl rfl ?_
    refine st3 _ ?_
    refine XS.iloadN X3.here hx rfl (hb hby d9_4) rfl ?_
    refine st8.trans ?_
    refine XS.istoreN X8.here hx rfl (hb hby d9_8) rfl (l' := #[.val (.ref pR1), .val (.int 2), .val (.int pI803)]) rfl ?_
    refine XS.iloadN X8.here hx rfl (hb hby d9_9) rfl ?_
    show oS p e below T8 m 10 #[.val (.ref pR1), .val (.int 2), .val (.int pI803)] [(.int pI803)] _
    refine XS.bipush X8.here hx rfl (hb hby d9_10) ?_
    refine XS.icmpNo X8.here hx rfl (hb hby d9_12) rfl (feq hc12).1 ?_
    refine XS.iloadN X8.here hx rfl (hb hby d9_15) rfl ?_
    refine XS.bipush X8.here hx rfl (hb hby d9_16) ?_
    refine XS.icmpNo X8.here hx rfl (hb hby d9_18) rfl (teq hc18).2 ?_
    refine XS.iconst X8.here hx rfl (hb hby d9_21) ?_
    show oS p e below T8 m 22 #[.val (.ref pR1), .val (.int 2), .val (.int pI803)] [(.int 1)] _
    refine XS.goto X8.here hx rfl (pc0 := 22) (pc' := 26) rfl (hb hby d9_22) (by decide) (by decide) ?_
    exact retN X8 hx (t := .boolean) Bd.returns (by simp) (hb hby d9_26) hr
  · show QgrL2 Z pR1 pR2 pI4 pR5 pI801 pI802 pI803 pI804 pK6 pV7 h0 n0 _ T8.heap _
    rw [e8]
    exact ⟨(by simp [own_green, hc18]), N8, rfl⟩
theorem ef_grL2_2 (m : MethodId) (pR1 : Addr) : entryFrame m #[(.ref pR1), (.int 2)] 3 = mkF m 0 #[.val (.ref pR1), .val (.int 2), .unset] [] := by first | (simp [entryFrame, mkF, argsToLocals, Value.category]; done) | rfl
set_option maxRecDepth 65536 in
set_option maxHeartbeats 40000000 in
theorem grL2_2 (l : Launch) (Z : State) (a0 : Array Value) (hw : ∀ d ∈ tables_1, d.before a0 Z = true) (ws : List Jvm.Cond) (pR1 : Addr) (pR2 : Addr) (pI4 : Int32) (pR5 : Addr) (pI801 : Int32) (pI802 : Int32) (pI803 : Int32) (pI804 : Int32) (pK6 : ClassId) (pV7 : Value) (h0 : Heap) (n0 : Nat) (Z0 : n0 ≤ h0.size) (F_state_pR1 : Fld Z h0 pR1 "com/example/watchful_junction/watchfuljunction/importer/Network$Phase" "state" "Ljava/lang/String;" (.ref pR2)) (S_String_COMPACT_STRINGS : Sta Z h0 "java/lang/String" "COMPACT_STRINGS" "Z" (.int pI4)) (F_coder_pR2 : Fld Z h0 pR2 "java/lang/String" "coder" "B" (.int 0)) (E_pR2 : Exa Z h0 pR2 "java/lang/String") (F_value_pR2 : Fld Z h0 pR2 "java/lang/String" "value" "[B" (.ref pR5)) (V_pR5 : Arv Z h0 pR5 pK6 .byte (4 : Int32) [(.int (pI801.toInt8.toInt32)), (.int (pI802.toInt8.toInt32)), (.int (pI803.toInt8.toInt32)), (.int (pI804.toInt8.toInt32))] (.int (0 : Int32))) (S_Preconditions_SIOOBE_FORMATTER : Sta Z h0 "jdk/internal/util/Preconditions" "SIOOBE_FORMATTER" "Ljava/util/function/BiFunction;" pV7) (hrg : 0 ≤ pI803.toInt ∧ pI803.toInt ≤ 65535) (hl : ¬ ((255 : Int32) < pI803)) (hc5 : ¬ (pI4 = (0 : Int32))) (hc5' : pV7.isRef = true) (hc12 : ¬ (pI803 = (71 : Int32))) (hc18 : ¬ (pI803 = (103 : Int32))) :
    oM l yN20 prog_18_method_3_code 3 (some .boolean) ws ({ frames := 4, cells := 0, slots := 0, locals := 53 } : Room) #[(.ref pR1), (.int 2)] Z h0 (QgrL2 Z pR1 pR2 pI4 pR5 pI801 pI802 pI803 pI804 pK6 pV7 h0 n0) := by
  refine MetFree.of_bodySF (plainFor_of_name pn_5) hisR ?_
  intro p e s m args below meth c s₁ Bd hml0 hP hK
  obtain ⟨rfl, hZ, hh⟩ := hP
  have hx := Bd.exec
  have hby := Bd.bytes
  have hml : c.maxLocals = 3 := hml0
  have hown : s.vm.findClass "com/example/watchful_junction/watchfuljunction/importer/Network$Phase" = some m.cls := findClass_of_methodNamed Bd.named
  have hnm := (name_of_methodNamed Bd.named Bd.method).1
  have X0 : Stand p l e ({ frames := 4, cells := 0, slots := 0, locals := 53 } : Room) s m #[(.ref pR1), (.int 2)] below meth c s₁ [] 0 0 := Stand.of_body Bd
  have e0 : s₁.heap = h0 := by rw [← hh, Bd.state]; rfl
  have N0 := Fr.nil n0
  obtain ⟨T3, X3, e3, st3⟩ := getF X0 hx hZ hown (host := "") (Or.inl (ow hw 43 rfl)) Via.refl e0 F_state_pR1 (g := (mkF m 1 #[.val (.ref pR1), .val (.int 2), .unset] [(.ref pR1)])) rfl rfl (hb hby d9_1)
  obtain ⟨cq8, kq8, q8a, q8b, q8c⟩ := isOf hZ e3 E_pR2
  obtain ⟨_, _, ⟨T8, L8, k8, n8⟩, -, X8, ⟨Lc8, hQ8, l8, y8, z8⟩, st8⟩ := X3.virtualBack hx (y := yN19) (z := yN19) hown (mvT hZ (ow hw 50 rfl)) (mvT hZ (ow hw 51 rfl)) (notFace_of_selects (args := #[]) (mvT hZ (ow hw 53 rfl))) (mvT hZ (ow hw 53 rfl)) (mvT hZ (ow hw 52 rfl)) (by decide) (backOf (W := 0) (scaL2 l Z a0 hw [] pR2 pI4 pR5 pI801 pI802 pI803 pI804 pK6 pV7 h0 n0 Z0 S_String_COMPACT_STRINGS F_coder_pR2 E_pR2 F_value_pR2 V_pR5 S_Preconditions_SIOOBE_FORMATTER hrg hl hc5 hc5') hZ (ow hw 54 rfl) (ow hw 7 rfl) (by decide) (by decide)) q8a q8c (g := (mkF m 5 #[.val (.ref pR1), .val (.int 2), .unset] [(.int 2), (.ref pR2)])) rfl (by rw [hml]; rfl) (Steps.refl _) (argsL := [(.int 2)]) (rest := []) (lenOf pd_13 rfl) rfl (Nat.le_refl _) (hb hby d9_5) (fun _ _ => ⟨rfl, e3, (by decide : 0 + 0 ≤ _), (by decide : 0 + 0 ≤ _)⟩)
  dsimp only [Pt.U, Pt.locs, Pt.cells, Pt.slots] at X8 l8 y8 z8 st8 hQ8
  subst l8 y8 z8
  obtain ⟨rfl, Nq8, e8⟩ := hQ8
  have N8 := Fr.app N0 Nq8
  obtain ⟨fs, hr, hrun, hended, hW, hsame⟩ := X8.leave (v := some (.int 0)) (fun h => by rw [Bd.returns] at h; cases h)
  refine ⟨_, _, castTop (ef_grL2_2 m pR1) ?_, hrun, hended, _, _, rfl, ?_, ⟨_, rfl⟩, hW, hsame.mono (by decide) (by decide)⟩
  · show oS p e below s₁ m 0 #[.val (.ref pR1), .val (.int 2), .unset] [] _
    refine XS.aloadN X0.here hx rfl (hb hby d9_0) rfl rfl ?_
    refine st3 _ ?_
    refine XS.iloadN X3.here hx rfl (hb hby d9_4) rfl ?_
    refine st8.trans ?_
    refine XS.istoreN X8.here hx rfl (hb hby d9_8) rfl (l' := #[.val (.ref pR1), .val (.int 2), .val (.int pI803)]) rfl ?_
    refine XS.iloadN X8.here hx rfl (hb hby d9_9) rfl ?_
    show oS p e below T8 m 10 #[.val (.ref pR1), .val (.int 2), .val (.int pI803)] [(.int pI803)] _
    refine XS.bipush X8.here hx rfl (hb hby d9_10) ?_
    refine XS.icmpNo X8.here hx rfl (hb hby d9_12) rfl (feq hc12).1 ?_
    refine XS.iloadN X8.here hx rfl (hb hby d9_15) rfl ?_
    refine XS.bipush X8.here hx rfl (hb hby d9_16) ?_
    refine XS.icmpYes X8.here hx rfl (pc0 := 18) (pc' := 25) rfl (hb hby d9_18) rfl (feq hc18).2 (by decide) (by decide) ?_
    refine XS.iconst X8.here hx rfl (hb hby d9_25) ?_
    show oS p e below T8 m 26 #[.val (.ref pR1), .val (.int 2), .val (.int pI803)] [(.int 0)] _
    exact retN X8 hx (t := .boolean) Bd.returns (by simp) (hb hby d9_26) hr
  · show QgrL2 Z pR1 pR2 pI4 pR5 pI801 pI802 pI803 pI804 pK6 pV7 h0 n0 _ T8.heap _
    rw [e8]
    exact ⟨(by simp [own_green, hc12, hc18]), N8, rfl⟩
theorem grL2 (l : Launch) (Z : State) (a0 : Array Value) (hw : ∀ d ∈ tables_1, d.before a0 Z = true) (ws : List Jvm.Cond) (pR1 : Addr) (pR2 : Addr) (pI4 : Int32) (pR5 : Addr) (pI801 : Int32) (pI802 : Int32) (pI803 : Int32) (pI804 : Int32) (pK6 : ClassId) (pV7 : Value) (h0 : Heap) (n0 : Nat) (Z0 : n0 ≤ h0.size) (F_state_pR1 : Fld Z h0 pR1 "com/example/watchful_junction/watchfuljunction/importer/Network$Phase" "state" "Ljava/lang/String;" (.ref pR2)) (S_String_COMPACT_STRINGS : Sta Z h0 "java/lang/String" "COMPACT_STRINGS" "Z" (.int pI4)) (F_coder_pR2 : Fld Z h0 pR2 "java/lang/String" "coder" "B" (.int 0)) (E_pR2 : Exa Z h0 pR2 "java/lang/String") (F_value_pR2 : Fld Z h0 pR2 "java/lang/String" "value" "[B" (.ref pR5)) (V_pR5 : Arv Z h0 pR5 pK6 .byte (4 : Int32) [(.int (pI801.toInt8.toInt32)), (.int (pI802.toInt8.toInt32)), (.int (pI803.toInt8.toInt32)), (.int (pI804.toInt8.toInt32))] (.int (0 : Int32))) (S_Preconditions_SIOOBE_FORMATTER : Sta Z h0 "jdk/internal/util/Preconditions" "SIOOBE_FORMATTER" "Ljava/util/function/BiFunction;" pV7) (hrg : 0 ≤ pI803.toInt ∧ pI803.toInt ≤ 65535) (hl : ¬ ((255 : Int32) < pI803)) (hc5 : ¬ (pI4 = (0 : Int32))) (hc5' : pV7.isRef = true) :
    oM l yN20 prog_18_method_3_code 3 (some .boolean) ws ({ frames := 4, cells := 0, slots := 0, locals := 53 } : Room) #[(.ref pR1), (.int 2)] Z h0 (QgrL2 Z pR1 pR2 pI4 pR5 pI801 pI802 pI803 pI804 pK6 pV7 h0 n0) := by
  by_cases hc12 : pI803 = (71 : Int32)
  · exact grL2_0 l Z a0 hw ws pR1 pR2 pI4 pR5 pI801 pI802 pI803 pI804 pK6 pV7 h0 n0 Z0 F_state_pR1 S_String_COMPACT_STRINGS F_coder_pR2 E_pR2 F_value_pR2 V_pR5 S_Preconditions_SIOOBE_FORMATTER hrg hl hc5 hc5' hc12
  · by_cases hc18 : pI803 = (103 : Int32)
    · exact grL2_1 l Z a0 hw ws pR1 pR2 pI4 pR5 pI801 pI802 pI803 pI804 pK6 pV7 h0 n0 Z0 F_state_pR1 S_String_COMPACT_STRINGS F_coder_pR2 E_pR2 F_value_pR2 V_pR5 S_Preconditions_SIOOBE_FORMATTER hrg hl hc5 hc5' hc12 hc18
    · exact grL2_2 l Z a0 hw ws pR1 pR2 pI4 pR5 pI801 pI802 pI803 pI804 pK6 pV7 h0 n0 Z0 F_state_pR1 S_String_COMPACT_STRINGS F_coder_pR2 E_pR2 F_value_pR2 V_pR5 S_Preconditions_SIOOBE_FORMATTER hrg hl hc5 hc5' hc12 hc18
theorem ef_grU2_0 (m : MethodId) (pR1 : Addr) : entryFrame m #[(.ref pR1), (.int 2)] 3 = mkF m 0 #[.val (.ref pR1), .val (.int 2), .unset] [] := by first | (simp [entryFrame, mkF, argsToLocals, Value.category]; done) | rfl
def QgrU2 (Z : State) (pR1 : Addr) (pR2 : Addr) (pI4 : Int32) (pR5 : Addr) (pI801 : Int32) (pI802 : Int32) (pI803 : Int32) (pI804 : Int32) (pK6 : ClassId) (pV7 : Value) (h0 : Heap) (n0 : Nat) (v : Option Value) (h : Heap) (L : List Loc) : Prop := v = some (.int (own_green pI803)) ∧ Fr n0 L ∧ h = h0
set_option maxRecDepth 65536 in
set_option maxHeartbeats 40000000 in
theorem grU2_0 (l : Launch) (Z : State) (a0 : Array Value) (hw : ∀ d ∈ tables_1, d.before a0 Z = true) (ws : List Jvm.Cond) (pR1 : Addr) (pR2 : Addr) (pI4 : Int32) (pR5 : Addr) (pI801 : Int32) (pI802 : Int32) (pI803 : Int32) (pI804 : Int32) (pK6 : ClassId) (pV7 : Value) (h0 : Heap) (n0 : Nat) (Z0 : n0 ≤ h0.size) (F_state_pR1 : Fld Z h0 pR1 "com/example/watchful_junction/watchfuljunction/importer/Network$Phase" "state" "Ljava/lang/String;" (.ref pR2)) (S_String_COMPACT_STRINGS : Sta Z h0 "java/lang/String" "COMPACT_STRINGS" "Z" (.int pI4)) (F_coder_pR2 : Fld Z h0 pR2 "java/lang/String" "coder" "B" (.int 1)) (E_pR2 : Exa Z h0 pR2 "java/lang/String") (F_value_pR2 : Fld Z h0 pR2 "java/lang/String" "value" "[B" (.ref pR5)) (V_pR5 : Arv Z h0 pR5 pK6 .byte (8 : Int32) [(.int ((pI801 >>> ((0 : Int32) &&& 31)).toInt8.toInt32)), (.int ((pI801 >>> ((8 : Int32) &&& 31)).toInt8.toInt32)), (.int ((pI802 >>> ((0 : Int32) &&& 31)).toInt8.toInt32)), (.int ((pI802 >>> ((8 : Int32) &&& 31)).toInt8.toInt32)), (.int ((pI803 >>> ((0 : Int32) &&& 31)).toInt8.toInt32)), (.int ((pI803 >>> ((8 : Int32) &&& 31)).toInt8.toInt32)), (.int ((pI804 >>> ((0 : Int32) &&& 31)).toInt8.toInt32)), (.int ((pI804 >>> ((8 : Int32) &&& 31)).toInt8.toInt32))] (.int (0 : Int32))) (S_Preconditions_SIOOBE_FORMATTER : Sta Z h0 "jdk/internal/util/Preconditions" "SIOOBE_FORMATTER" "Ljava/util/function/BiFunction;" pV7) (S_StringUTF16__assertionsDisabled : Sta Z h0 "java/lang/StringUTF16" "$assertionsDisabled" "Z" (.int 1)) (S_StringUTF16_HI_BYTE_SHIFT : Sta Z h0 "java/lang/StringUTF16" "HI_BYTE_SHIFT" "I" (.int 0)) (S_StringUTF16_LO_BYTE_SHIFT : Sta Z h0 "java/lang/StringUTF16" "LO_BYTE_SHIFT" "I" (.int 8)) (hrg : 0 ≤ pI803.toInt ∧ pI803.toInt ≤ 65535) (hc5 : ¬ (pI4 = (0 : Int32))) (hc5' : pV7.isRef = true) (hc12 : pI803 = (71 : Int32)) :
    oM l yN20 prog_18_method_3_code 3 (some .boolean) ws ({ frames := 5, cells := 0, slots := 0, locals := 66 } : Room) #[(.ref pR1), (.int 2)] Z h0 (QgrU2 Z pR1 pR2 pI4 pR5 pI801 pI802 pI803 pI804 pK6 pV7 h0 n0) := by
  refine MetFree.of_bodySF (plainFor_of_name pn_5) hisR ?_
  intro p e s m args below meth c s₁ Bd hml0 hP hK
  obtain ⟨rfl, hZ, hh⟩ := hP
  have hx := Bd.exec
  have hby := Bd.bytes
  have hml : c.maxLocals = 3 := hml0
  have hown : s.vm.findClass "com/example/watchful_junction/watchfuljunction/importer/Network$Phase" = some m.cls := findClass_of_methodNamed Bd.named
  have hnm := (name_of_methodNamed Bd.named Bd.method).1
  have X0 : Stand p l e ({ frames := 5, cells := 0, slots := 0, locals := 66 } : Room) s m #[(.ref pR1), (.int 2)] below meth c s₁ [] 0 0 := Stand.of_body Bd
  have e0 : s₁.heap = h0 := by rw [← hh, Bd.state]; rfl
  have N0 := Fr.nil n0
  obtain ⟨T3, X3, e3, st3⟩ := getF X0 hx hZ hown (host := "") (Or.inl (ow hw 43 rfl)) Via.refl e0 F_state_pR1 (g := (mkF m 1 #[.val (.ref pR1), .val (.int 2), .unset] [(.ref pR1)])) rfl rfl (hb hby d9_1)
  obtain ⟨cq8, kq8, q8a, q8b, q8c⟩ := isOf hZ e3 E_pR2
  obtain ⟨_, _, ⟨T8, L8, k8, n8⟩, -, X8, ⟨Lc8, hQ8, l8, y8, z8⟩, st8⟩ := X3.virtualBack hx (y := yN19) (z := yN19) hown (mvT hZ (ow hw 50 rfl)) (mvT hZ (ow hw 51 rfl)) (notFace_of_selects (args := #[]) (mvT hZ (ow hw 53 rfl))) (mvT hZ (ow hw 53 rfl)) (mvT hZ (ow hw 52 rfl)) (by decide) (backOf (W := 0) (scaU2 l Z a0 hw [] pR2 pI4 pR5 pI801 pI802 pI803 pI804 pK6 pV7 h0 n0 Z0 S_String_COMPACT_STRINGS F_coder_pR2 E_pR2 F_value_pR2 V_pR5 S_Preconditions_SIOOBE_FORMATTER S_StringUTF16__assertionsDisabled S_StringUTF16_HI_BYTE_SHIFT S_StringUTF16_LO_BYTE_SHIFT hrg hc5 hc5') hZ (ow hw 54 rfl) (ow hw 7 rfl) (by decide) (by decide)) q8a q8c (g := (mkF m 5 #[.val (.ref pR1), .val (.int 2), .unset] [(.int 2), (.ref pR2)])) rfl (by rw [hml]; rfl) (Steps.refl _) (argsL := [(.int 2)]) (rest := []) (lenOf pd_13 rfl) rfl (Nat.le_refl _) (hb hby d9_5) (fun _ _ => ⟨rfl, e3, (by decide : 0 + 0 ≤ _), (by decide : 0 + 0 ≤ _)⟩)
  dsimp only [Pt.U, Pt.locs, Pt.cells, Pt.slots] at X8 l8 y8 z8 st8 hQ8
  subst l8 y8 z8
  obtain ⟨rfl, Nq8, e8⟩ := hQ8
  have N8 := Fr.app N0 Nq8
  obtain ⟨fs, hr, hrun, hended, hW, hsame⟩ := X8.leave (v := some (.int 1)) (fun h => by rw [Bd.returns] at h; cases h)
  refine ⟨_, _, castTop (ef_grU2_0 m pR1) ?_, hrun, hended, _, _, rfl, ?_, ⟨_, rfl⟩, hW, hsame.mono (by decide) (by decide)⟩
  · show oS p e below s₁ m 0 #[.val (.ref pR1), .val (.int 2), .unset] [] _
    refine XS.aloadN X0.here hx rfl (hb hby d9_0) rfl rfl ?_
    refine st3 _ ?_
    refine XS.iloadN X3.here hx rfl (hb hby d9_4) rfl ?_
    refine st8.trans ?_
    refine XS.istoreN X8.here hx rfl (hb hby d9_8) rfl (l' := #[.val (.ref pR1), .val (.int 2), .val (.int pI803)]) rfl ?_
    refine XS.iloadN X8.here hx rfl (hb hby d9_9) rfl ?_
    show oS p e below T8 m 10 #[.val (.ref pR1), .val (.int 2), .val (.int pI803)] [(.int pI803)] _
    refine XS.bipush X8.here hx rfl (hb hby d9_10) ?_
    refine XS.icmpYes X8.here hx rfl (pc0 := 12) (pc' := 21) rfl (hb hby d9_12) rfl (teq hc12).1 (by decide) (by decide) ?_
    refine XS.iconst X8.here hx rfl (hb hby d9_21) ?_
    refine XS.goto X8.here hx rfl (pc0 := 22) (pc' := 26) rfl (hb hby d9_22) (by decide) (by decide) ?_
    exact retN X8 hx (t := .boolean) Bd.returns (by simp) (hb hby d9_26) hr
  · show QgrU2 Z pR1 pR2 pI4 pR5 pI801 pI802 pI803 pI804 pK6 pV7 h0 n0 _ T8.heap _
    rw [e8]
    exact ⟨(by simp [own_green, hc12]), N8, rfl⟩
theorem ef_grU2_1 (m : MethodId) (pR1 : Addr) : entryFrame m #[(.ref pR1), (.int 2)] 3 = mkF m 0 #[.val (.ref pR1), .val (.int 2), .unset] [] := by first | (simp [entryFrame, mkF, argsToLocals, Value.category]; done) | rfl
set_option maxRecDepth 65536 in
set_option maxHeartbeats 40000000 in
theorem grU2_1 (l : Launch) (Z : State) (a0 : Array Value) (hw : ∀ d ∈ tables_1, d.before a0 Z = true) (ws : List Jvm.Cond) (pR1 : Addr) (pR2 : Addr) (pI4 : Int32) (pR5 : Addr) (pI801 : Int32) (pI802 : Int32) (pI803 : Int32) (pI804 : Int32) (pK6 : ClassId) (pV7 : Value) (h0 : Heap) (n0 : Nat) (Z0 : n0 ≤ h0.size) (F_state_pR1 : Fld Z h0 pR1 "com/example/watchful_junction/watchfuljunction/importer/Network$Phase" "state" "Ljava/lang/String;" (.ref pR2)) (S_String_COMPACT_STRINGS : Sta Z h0 "java/lang/String" "COMPACT_STRINGS" "Z" (.int pI4)) (F_coder_pR2 : Fld Z h0 pR2 "java/lang/String" "coder" "B" (.int 1)) (E_pR2 : Exa Z h0 pR2 "java/lang/String") (F_value_pR2 : Fld Z h0 pR2 "java/lang/String" "value" "[B" (.ref pR5)) (V_pR5 : Arv Z h0 pR5 pK6 .byte (8 : Int32) [(.int ((pI801 >>> ((0 : Int32) &&& 31)).toInt8.toInt32)), (.int ((pI801 >>> ((8 : Int32) &&& 31)).toInt8.toInt32)), (.int ((pI802 >>> ((0 : Int32) &&& 31)).toInt8.toInt32)), (.int ((pI802 >>> ((8 : Int32) &&& 31)).toInt8.toInt32)), (.int ((pI803 >>> ((0 : Int32) &&& 31)).toInt8.toInt32)), (.int ((pI803 >>> ((8 : Int32) &&& 31)).toInt8.toInt32)), (.int ((pI804 >>> ((0 : Int32) &&& 31)).toInt8.toInt32)), (.int ((pI804 >>> ((8 : Int32) &&& 31)).toInt8.toInt32))] (.int (0 : Int32))) (S_Preconditions_SIOOBE_FORMATTER : Sta Z h0 "jdk/internal/util/Preconditions" "SIOOBE_FORMATTER" "Ljava/util/function/BiFunction;" pV7) (S_StringUTF16__assertionsDisabled : Sta Z h0 "java/lang/StringUTF16" "$assertionsDisabled" "Z" (.int 1)) (S_StringUTF16_HI_BYTE_SHIFT : Sta Z h0 "java/lang/StringUTF16" "HI_BYTE_SHIFT" "I" (.int 0)) (S_StringUTF16_LO_BYTE_SHIFT : Sta Z h0 "java/lang/StringUTF16" "LO_BYTE_SHIFT" "I" (.int 8)) (hrg : 0 ≤ pI803.toInt ∧ pI803.toInt ≤ 65535) (hc5 : ¬ (pI4 = (0 : Int32))) (hc5' : pV7.isRef = true) (hc12 : ¬ (pI803 = (71 : Int32))) (hc18 : pI803 = (103 : Int32)) :
    oM l yN20 prog_18_method_3_code 3 (some .boolean) ws ({ frames := 5, cells := 0, slots := 0, locals := 66 } : Room) #[(.ref pR1), (.int 2)] Z h0 (QgrU2 Z pR1 pR2 pI4 pR5 pI801 pI802 pI803 pI804 pK6 pV7 h0 n0) := by
  refine MetFree.of_bodySF (plainFor_of_name pn_5) hisR ?_
  intro p e s m args below meth c s₁ Bd hml0 hP hK
  obtain ⟨rfl, hZ, hh⟩ := hP
  have hx := Bd.exec
  have hby := Bd.bytes
  have hml : c.maxLocals = 3 := hml0
  have hown : s.vm.findClass "com/example/watchful_junction/watchfuljunction/importer/Network$Phase" = some m.cls := findClass_of_methodNamed Bd.named
  have hnm := (name_of_methodNamed Bd.named Bd.method).1
  have X0 : Stand p l e ({ frames := 5, cells := 0, slots := 0, locals := 66 } : Room) s m #[(.ref pR1), (.int 2)] below meth c s₁ [] 0 0 := Stand.of_body Bd
  have e0 : s₁.heap = h0 := by rw [← hh, Bd.state]; rfl
  have N0 := Fr.nil n0
  obtain ⟨T3, X3, e3, st3⟩ := getF X0 hx hZ hown (host := "") (Or.inl (ow hw 43 rfl)) Via.refl e0 F_state_pR1 (g := (mkF m 1 #[.val (.ref pR1), .val (.int 2), .unset] [(.ref pR1)])) rfl rfl (hb hby d9_1)
  obtain ⟨cq8, kq8, q8a, q8b, q8c⟩ := isOf hZ e3 E_pR2
  obtain ⟨_, _, ⟨T8, L8, k8, n8⟩, -, X8, ⟨Lc8, hQ8, l8, y8, z8⟩, st8⟩ := X3.virtualBack hx (y := yN19) (z := yN19) hown (mvT hZ (ow hw 50 rfl)) (mvT hZ (ow hw 51 rfl)) (notFace_of_selects (args := #[]) (mvT hZ (ow hw 53 rfl))) (mvT hZ (ow hw 53 rfl)) (mvT hZ (ow hw 52 rfl)) (by decide) (backOf (W := 0) (scaU2 l Z a0 hw [] pR2 pI4 pR5 pI801 pI802 pI803 pI804 pK6 pV7 h0 n0 Z0 S_String_COMPACT_STRINGS F_coder_pR2 E_pR2 F_value_pR2 V_pR5 S_Preconditions_SIOOBE_FORMATTER S_StringUTF16__assertionsDisabled S_StringUTF16_HI_BYTE_SHIFT S_StringUTF16_LO_BYTE_SHIFT hrg hc5 hc5') hZ (ow hw 54 rfl) (ow hw 7 rfl) (by decide) (by decide)) q8a q8c (g := (mkF m 5 #[.val (.ref pR1), .val (.int 2), .unset] [(.int 2), (.ref pR2)])) rfl (by rw [hml]; rfl) (Steps.refl _) (argsL := [(.int 2)]) (rest := []) (lenOf pd_13 rfl) rfl (Nat.le_refl _) (hb hby d9_5) (fun _ _ => ⟨rfl, e3, (by decide : 0 + 0 ≤ _), (by decide : 0 + 0 ≤ _)⟩)
  dsimp only [Pt.U, Pt.locs, Pt.cells, Pt.slots] at X8 l8 y8 z8 st8 hQ8
  subst l8 y8 z8
  obtain ⟨rfl, Nq8, e8⟩ := hQ8
  have N8 := Fr.app N0 Nq8
  obtain ⟨fs, hr, hrun, hended, hW, hsame⟩ := X8.leave (v := some (.int 1)) (fun h => by rw [Bd.returns] at h; cases h)
  refine ⟨_, _, castTop (ef_grU2_1 m pR1) ?_, hrun, hended, _, _, rfl, ?_, ⟨_, rfl⟩, hW, hsame.mono (by decide) (by decide)⟩
  · show oS p e below s₁ m 0 #[.val (.ref pR1), .val (.int 2), .unset] [] _
    refine XS.aloadN X0.here hx rfl (hb hby d9_0) rfl rfl ?_
    refine st3 _ ?_
    refine XS.iloadN X3.here hx rfl (hb hby d9_4) rfl ?_
    refine st8.trans ?_
    refine XS.istoreN X8.here hx rfl (hb hby d9_8) rfl (l' := #[.val (.ref pR1), .val (.int 2), .val (.int pI803)]) rfl ?_
    refine XS.iloadN X8.here hx rfl (hb hby d9_9) rfl ?_
    show oS p e below T8 m 10 #[.val (.ref pR1), .val (.int 2), .val (.int pI803)] [(.int pI803)] _
    refine XS.bipush X8.here hx rfl (hb hby d9_10) ?_
    refine XS.icmpNo X8.here hx rfl (hb hby d9_12) rfl (feq hc12).1 ?_
    refine XS.iloadN X8.here hx rfl (hb hby d9_15) rfl ?_
    refine XS.bipush X8.here hx rfl (hb hby d9_16) ?_
    refine XS.icmpNo X8.here hx rfl (hb hby d9_18) rfl (teq hc18).2 ?_
    refine XS.iconst X8.here hx rfl (hb hby d9_21) ?_
    show oS p e below T8 m 22 #[.val (.ref pR1), .val (.int 2), .val (.int pI803)] [(.int 1)] _
    refine XS.goto X8.here hx rfl (pc0 := 22) (pc' := 26) rfl (hb hby d9_22) (by decide) (by decide) ?_
    exact retN X8 hx (t := .boolean) Bd.returns (by simp) (hb hby d9_26) hr
  · show QgrU2 Z pR1 pR2 pI4 pR5 pI801 pI802 pI803 pI804 pK6 pV7 h0 n0 _ T8.heap _
    rw [e8]
    exact ⟨(by simp [own_green, hc18]), N8, rfl⟩
theorem ef_grU2_2 (m : MethodId) (pR1 : Addr) : entryFrame m #[(.ref pR1), (.int 2)] 3 = mkF m 0 #[.val (.ref pR1), .val (.int 2), .unset] [] := by first | (simp [entryFrame, mkF, argsToLocals, Value.category]; done) | rfl
set_option maxRecDepth 65536 in
set_option maxHeartbeats 40000000 in
theorem grU2_2 (l : Launch) (Z : State) (a0 : Array Value) (hw : ∀ d ∈ tables_1, d.before a0 Z = true) (ws : List Jvm.Cond) (pR1 : Addr) (pR2 : Addr) (pI4 : Int32) (pR5 : Addr) (pI801 : Int32) (pI802 : Int32) (pI803 : Int32) (pI804 : Int32) (pK6 : ClassId) (pV7 : Value) (h0 : Heap) (n0 : Nat) (Z0 : n0 ≤ h0.size) (F_state_pR1 : Fld Z h0 pR1 "com/example/watchful_junction/watchfuljunction/importer/Network$Phase" "state" "Ljava/lang/String;" (.ref pR2)) (S_String_COMPACT_STRINGS : Sta Z h0 "java/lang/String" "COMPACT_STRINGS" "Z" (.int pI4)) (F_coder_pR2 : Fld Z h0 pR2 "java/lang/String" "coder" "B" (.int 1)) (E_pR2 : Exa Z h0 pR2 "java/lang/String") (F_value_pR2 : Fld Z h0 pR2 "java/lang/String" "value" "[B" (.ref pR5)) (V_pR5 : Arv Z h0 pR5 pK6 .byte (8 : Int32) [(.int ((pI801 >>> ((0 : Int32) &&& 31)).toInt8.toInt32)), (.int ((pI801 >>> ((8 : Int32) &&& 31)).toInt8.toInt32)), (.int ((pI802 >>> ((0 : Int32) &&& 31)).toInt8.toInt32)), (.int ((pI802 >>> ((8 : Int32) &&& 31)).toInt8.toInt32)), (.int ((pI803 >>> ((0 : Int32) &&& 31)).toInt8.toInt32)), (.int ((pI803 >>> ((8 : Int32) &&& 31)).toInt8.toInt32)), (.int ((pI804 >>> ((0 : Int32) &&& 31)).toInt8.toInt32)), (.int ((pI804 >>> ((8 : Int32) &&& 31)).toInt8.toInt32))] (.int (0 : Int32))) (S_Preconditions_SIOOBE_FORMATTER : Sta Z h0 "jdk/internal/util/Preconditions" "SIOOBE_FORMATTER" "Ljava/util/function/BiFunction;" pV7) (S_StringUTF16__assertionsDisabled : Sta Z h0 "java/lang/StringUTF16" "$assertionsDisabled" "Z" (.int 1)) (S_StringUTF16_HI_BYTE_SHIFT : Sta Z h0 "java/lang/StringUTF16" "HI_BYTE_SHIFT" "I" (.int 0)) (S_StringUTF16_LO_BYTE_SHIFT : Sta Z h0 "java/lang/StringUTF16" "LO_BYTE_SHIFT" "I" (.int 8)) (hrg : 0 ≤ pI803.toInt ∧ pI803.toInt ≤ 65535) (hc5 : ¬ (pI4 = (0 : Int32))) (hc5' : pV7.isRef = true) (hc12 : ¬ (pI803 = (71 : Int32))) (hc18 : ¬ (pI803 = (103 : Int32))) :
    oM l yN20 prog_18_method_3_code 3 (some .boolean) ws ({ frames := 5, cells := 0, slots := 0, locals := 66 } : Room) #[(.ref pR1), (.int 2)] Z h0 (QgrU2 Z pR1 pR2 pI4 pR5 pI801 pI802 pI803 pI804 pK6 pV7 h0 n0) := by
  refine MetFree.of_bodySF (plainFor_of_name pn_5) hisR ?_
  intro p e s m args below meth c s₁ Bd hml0 hP hK
  obtain ⟨rfl, hZ, hh⟩ := hP
  have hx := Bd.exec
  have hby := Bd.bytes
  have hml : c.maxLocals = 3 := hml0
  have hown : s.vm.findClass "com/example/watchful_junction/watchfuljunction/importer/Network$Phase" = some m.cls := findClass_of_methodNamed Bd.named
  have hnm := (name_of_methodNamed Bd.named Bd.method).1
  have X0 : Stand p l e ({ frames := 5, cells := 0, slots := 0, locals := 66 } : Room) s m #[(.ref pR1), (.int 2)] below meth c s₁ [] 0 0 := Stand.of_body Bd
  have e0 : s₁.heap = h0 := by rw [← hh, Bd.state]; rfl
  have N0 := Fr.nil n0
  obtain ⟨T3, X3, e3, st3⟩ := getF X0 hx hZ hown (host := "") (Or.inl (ow hw 43 rfl)) Via.refl e0 F_state_pR1 (g := (mkF m 1 #[.val (.ref pR1), .val (.int 2), .unset] [(.ref pR1)])) rfl rfl (hb hby d9_1)
  obtain ⟨cq8, kq8, q8a, q8b, q8c⟩ := isOf hZ e3 E_pR2
  obtain ⟨_, _, ⟨T8, L8, k8, n8⟩, -, X8, ⟨Lc8, hQ8, l8, y8, z8⟩, st8⟩ := X3.virtualBack hx (y := yN19) (z := yN19) hown (mvT hZ (ow hw 50 rfl)) (mvT hZ (ow hw 51 rfl)) (notFace_of_selects (args := #[]) (mvT hZ (ow hw 53 rfl))) (mvT hZ (ow hw 53 rfl)) (mvT hZ (ow hw 52 rfl)) (by decide) (backOf (W := 0) (scaU2 l Z a0 hw [] pR2 pI4 pR5 pI801 pI802 pI803 pI804 pK6 pV7 h0 n0 Z0 S_String_COMPACT_STRINGS F_coder_pR2 E_pR2 F_value_pR2 V_pR5 S_Preconditions_SIOOBE_FORMATTER S_StringUTF16__assertionsDisabled S_StringUTF16_HI_BYTE_SHIFT S_StringUTF16_LO_BYTE_SHIFT hrg hc5 hc5') hZ (ow hw 54 rfl) (ow hw 7 rfl) (by decide) (by decide)) q8a q8c (g := (mkF m 5 #[.val (.ref pR1), .val (.int 2), .unset] [(.int 2), (.ref pR2)])) rfl (by rw [hml]; rfl) (Steps.refl _) (argsL := [(.int 2)]) (rest := []) (lenOf pd_13 rfl) rfl (Nat.le_refl _) (hb hby d9_5) (fun _ _ => ⟨rfl, e3, (by decide : 0 + 0 ≤ _), (by decide : 0 + 0 ≤ _)⟩)
  dsimp only [Pt.U, Pt.locs, Pt.cells, Pt.slots] at X8 l8 y8 z8 st8 hQ8
  subst l8 y8 z8
  obtain ⟨rfl, Nq8, e8⟩ := hQ8
  have N8 := Fr.app N0 Nq8
  obtain ⟨fs, hr, hrun, hended, hW, hsame⟩ := X8.leave (v := some (.int 0)) (fun h => by rw [Bd.returns] at h; cases h)
  refine ⟨_, _, castTop (ef_grU2_2 m pR1) ?_, hrun, hended, _, _, rfl, ?_, ⟨_, rfl⟩, hW, hsame.mono (by decide) (by decide)⟩
  · show oS p e below s₁ m 0 #[.val (.ref pR1), .val (.int 2), .unset] [] _
    refine XS.aloadN X0.here hx rfl (hb hby d9_0) rfl rfl ?_
    refine st3 _ ?_
    refine XS.iloadN X3.here hx rfl (hb hby d9_4) rfl ?_
    refine st8.trans ?_
    refine XS.istoreN X8.here hx rfl (hb hby d9_8) rfl (l' := #[.val (.ref pR1), .val (.int 2), .val (.int pI803)]) rfl ?_
    refine XS.iloadN X8.here hx rfl (hb hby d9_9) rfl ?_
    show oS p e below T8 m 10 #[.val (.ref pR1), .val (.int 2), .val (.int pI803)] [(.int pI803)] _
    refine XS.bipush X8.here hx rfl (hb hby d9_10) ?_
    refine XS.icmpNo X8.here hx rfl (hb hby d9_12) rfl (feq hc12).1 ?_
    refine XS.iloadN X8.here hx rfl (hb hby d9_15) rfl ?_
    refine XS.bipush X8.here hx rfl (hb hby d9_16) ?_
    refine XS.icmpYes X8.here hx rfl (pc0 := 18) (pc' := 25) rfl (hb hby d9_18) rfl (feq hc18).2 (by decide) (by decide) ?_
    refine XS.iconst X8.here hx rfl (hb hby d9_25) ?_
    show oS p e below T8 m 26 #[.val (.ref pR1), .val (.int 2), .val (.int pI803)] [(.int 0)] _
    exact retN X8 hx (t := .boolean) Bd.returns (by simp) (hb hby d9_26) hr
  · show QgrU2 Z pR1 pR2 pI4 pR5 pI801 pI802 pI803 pI804 pK6 pV7 h0 n0 _ T8.heap _
    rw [e8]
    exact ⟨(by simp [own_green, hc12, hc18]), N8, rfl⟩
theorem grU2 (l : Launch) (Z : State) (a0 : Array Value) (hw : ∀ d ∈ tables_1, d.before a0 Z = true) (ws : List Jvm.Cond) (pR1 : Addr) (pR2 : Addr) (pI4 : Int32) (pR5 : Addr) (pI801 : Int32) (pI802 : Int32) (pI803 : Int32) (pI804 : Int32) (pK6 : ClassId) (pV7 : Value) (h0 : Heap) (n0 : Nat) (Z0 : n0 ≤ h0.size) (F_state_pR1 : Fld Z h0 pR1 "com/example/watchful_junction/watchfuljunction/importer/Network$Phase" "state" "Ljava/lang/String;" (.ref pR2)) (S_String_COMPACT_STRINGS : Sta Z h0 "java/lang/String" "COMPACT_STRINGS" "Z" (.int pI4)) (F_coder_pR2 : Fld Z h0 pR2 "java/lang/String" "coder" "B" (.int 1)) (E_pR2 : Exa Z h0 pR2 "java/lang/String") (F_value_pR2 : Fld Z h0 pR2 "java/lang/String" "value" "[B" (.ref pR5)) (V_pR5 : Arv Z h0 pR5 pK6 .byte (8 : Int32) [(.int ((pI801 >>> ((0 : Int32) &&& 31)).toInt8.toInt32)), (.int ((pI801 >>> ((8 : Int32) &&& 31)).toInt8.toInt32)), (.int ((pI802 >>> ((0 : Int32) &&& 31)).toInt8.toInt32)), (.int ((pI802 >>> ((8 : Int32) &&& 31)).toInt8.toInt32)), (.int ((pI803 >>> ((0 : Int32) &&& 31)).toInt8.toInt32)), (.int ((pI803 >>> ((8 : Int32) &&& 31)).toInt8.toInt32)), (.int ((pI804 >>> ((0 : Int32) &&& 31)).toInt8.toInt32)), (.int ((pI804 >>> ((8 : Int32) &&& 31)).toInt8.toInt32))] (.int (0 : Int32))) (S_Preconditions_SIOOBE_FORMATTER : Sta Z h0 "jdk/internal/util/Preconditions" "SIOOBE_FORMATTER" "Ljava/util/function/BiFunction;" pV7) (S_StringUTF16__assertionsDisabled : Sta Z h0 "java/lang/StringUTF16" "$assertionsDisabled" "Z" (.int 1)) (S_StringUTF16_HI_BYTE_SHIFT : Sta Z h0 "java/lang/StringUTF16" "HI_BYTE_SHIFT" "I" (.int 0)) (S_StringUTF16_LO_BYTE_SHIFT : Sta Z h0 "java/lang/StringUTF16" "LO_BYTE_SHIFT" "I" (.int 8)) (hrg : 0 ≤ pI803.toInt ∧ pI803.toInt ≤ 65535) (hc5 : ¬ (pI4 = (0 : Int32))) (hc5' : pV7.isRef = true) :
    oM l yN20 prog_18_method_3_code 3 (some .boolean) ws ({ frames := 5, cells := 0, slots := 0, locals := 66 } : Room) #[(.ref pR1), (.int 2)] Z h0 (QgrU2 Z pR1 pR2 pI4 pR5 pI801 pI802 pI803 pI804 pK6 pV7 h0 n0) := by
  by_cases hc12 : pI803 = (71 : Int32)
  · exact grU2_0 l Z a0 hw ws pR1 pR2 pI4 pR5 pI801 pI802 pI803 pI804 pK6 pV7 h0 n0 Z0 F_state_pR1 S_String_COMPACT_STRINGS F_coder_pR2 E_pR2 F_value_pR2 V_pR5 S_Preconditions_SIOOBE_FORMATTER S_StringUTF16__assertionsDisabled S_StringUTF16_HI_BYTE_SHIFT S_StringUTF16_LO_BYTE_SHIFT hrg hc5 hc5' hc12
  · by_cases hc18 : pI803 = (103 : Int32)
    · exact grU2_1 l Z a0 hw ws pR1 pR2 pI4 pR5 pI801 pI802 pI803 pI804 pK6 pV7 h0 n0 Z0 F_state_pR1 S_String_COMPACT_STRINGS F_coder_pR2 E_pR2 F_value_pR2 V_pR5 S_Preconditions_SIOOBE_FORMATTER S_StringUTF16__assertionsDisabled S_StringUTF16_HI_BYTE_SHIFT S_StringUTF16_LO_BYTE_SHIFT hrg hc5 hc5' hc12 hc18
    · exact grU2_2 l Z a0 hw ws pR1 pR2 pI4 pR5 pI801 pI802 pI803 pI804 pK6 pV7 h0 n0 Z0 F_state_pR1 S_String_COMPACT_STRINGS F_coder_pR2 E_pR2 F_value_pR2 V_pR5 S_Preconditions_SIOOBE_FORMATTER S_StringUTF16__assertionsDisabled S_StringUTF16_HI_BYTE_SHIFT S_StringUTF16_LO_BYTE_SHIFT hrg hc5 hc5' hc12 hc18
theorem ef_lca3 (m : MethodId) (pR1 : Addr) : entryFrame m #[(.ref pR1), (.int 3)] 2 = mkF m 0 #[.val (.ref pR1), .val (.int 3)] [] := by first | (simp [entryFrame, mkF, argsToLocals, Value.category]; done) | rfl
def Qlca3 (Z : State) (pR1 : Addr) (pI801 : Int32) (pI802 : Int32) (pI803 : Int32) (pI804 : Int32) (pK2 : ClassId) (pV4 : Value) (h0 : Heap) (n0 : Nat) (v : Option Value) (h : Heap) (L : List Loc) : Prop := v = some (.int pI804) ∧ Fr n0 L ∧ h = h0
set_option maxRecDepth 65536 in
set_option maxHeartbeats 40000000 in
theorem lca3 (l : Launch) (Z : State) (a0 : Array Value) (hw : ∀ d ∈ tables_1, d.before a0 Z = true) (ws : List Jvm.Cond) (pR1 : Addr) (pI801 : Int32) (pI802 : Int32) (pI803 : Int32) (pI804 : Int32) (pK2 : ClassId) (pV4 : Value) (h0 : Heap) (n0 : Nat) (Z0 : n0 ≤ h0.size) (V_pR1 : Arv Z h0 pR1 pK2 .byte (4 : Int32) [(.int (pI801.toInt8.toInt32)), (.int (pI802.toInt8.toInt32)), (.int (pI803.toInt8.toInt32)), (.int (pI804.toInt8.toInt32))] (.int (0 : Int32))) (S_Preconditions_SIOOBE_FORMATTER : Sta Z h0 "jdk/internal/util/Preconditions" "SIOOBE_FORMATTER" "Ljava/util/function/BiFunction;" pV4) (hrg : 0 ≤ pI804.toInt ∧ pI804.toInt ≤ 65535) (hl : ¬ ((255 : Int32) < pI804)) (hc3 : pV4.isRef = true) :
    oM l yN16 jdk_43_method_2_code 2 (some .char) ws ({ frames := 2, cells := 0, slots := 0, locals := 27 } : Room) #[(.ref pR1), (.int 3)] Z h0 (Qlca3 Z pR1 pI801 pI802 pI803 pI804 pK2 pV4 h0 n0) := by
  refine MetFree.of_bodySF (plainFor_of_name pn_4) hisR ?_
  intro p e s m args below meth c s₁ Bd hml0 hP hK
  obtain ⟨rfl, hZ, hh⟩ := hP
  have hx := Bd.exec
  have hby := Bd.bytes
  have hml : c.maxLocals = 2 := hml0
  have hown : s.vm.findClass "java/lang/StringLatin1" = some m.cls := findClass_of_methodNamed Bd.named
  have hnm := (name_of_methodNamed Bd.named Bd.method).1
  have X0 : Stand p l e ({ frames := 2, cells := 0, slots := 0, locals := 27 } : Room) s m #[(.ref pR1), (.int 3)] below meth c s₁ [] 0 0 := Stand.of_body Bd
  have e0 : s₁.heap = h0 := by rw [← hh, Bd.state]; rfl
  have N0 := Fr.nil n0
  obtain ⟨clq3, Arq3, Akq3, Asq3, Anq3, Ahq3, Agq3⟩ := id V_pR1
  obtain ⟨_, _, ⟨T5, L5, k5, n5⟩, -, X5, ⟨Lc5, hQ5, l5, y5, z5⟩, st5⟩ := Jvm.LawKit.callS X0 hx (y := yN13) hown (mvT hZ (ow hw 64 rfl)) (mvT hZ (ow hw 65 rfl)) (mvT hZ (ow hw 7 rfl)) (mvT hZ (ow hw 66 rfl)) (by decide) (backOf (W := 0) (sci l Z a0 hw [] (3 : Int32) (4 : Int32) pV4 h0 n0 Z0 S_Preconditions_SIOOBE_FORMATTER (by decide) (by decide) hc3) hZ (ow hw 66 rfl) (ow hw 7 rfl) (by decide) (by decide)) (g := (mkF m 3 #[.val (.ref pR1), .val (.int 3)] [(.int 4), (.int 3)])) rfl (by rw [hml]; rfl) (argsL := [(.int 3), (.int 4)]) (rest := []) (lenOf pd_9 rfl) rfl (Nat.le_refl _) (hb hby d12_3) (fun _ _ => ⟨rfl, e0, (by decide : 0 + 0 ≤ _), (by decide : 0 + 0 ≤ _)⟩)
  dsimp only [Pt.U, Pt.locs, Pt.cells, Pt.slots] at X5 l5 y5 z5 st5 hQ5
  subst l5 y5 z5
  obtain ⟨rfl, Nq5, e5⟩ := hQ5
  have N5 := Fr.app N0 Nq5
  obtain ⟨clq6, Arq6, Akq6, Asq6, Anq6, Ahq6, Agq6⟩ := id V_pR1
  have hin7 : ¬ ((3 : Int32) < 0 ∨ clq6.slots.size ≤ ((3 : Int32)).toNatClampNeg) := inb_of Asq6 ⟨by decide, by decide⟩
  obtain ⟨fs, hr, hrun, hended, hW, hsame⟩ := X5.leave (v := some (.int (nar .char (((pI804.toInt8.toInt32) &&& (255 : Int32)).toUInt32.toUInt16.toUInt32.toInt32)))) (fun h => by rw [Bd.returns] at h; cases h)
  refine ⟨_, _, castTop (ef_lca3 m pR1) ?_, hrun, hended, _, _, rfl, ?_, ⟨_, rfl⟩, hW, hsame.mono (by decide) (by decide)⟩
  · show oS p e below s₁ m 0 #[.val (.ref pR1), .val (.int 3)] [] _
    refine XS.iloadN X0.here hx rfl (hb hby d12_0) rfl ?_
    refine XS.aloadN X0.here hx rfl (hb hby d12_1) rfl rfl ?_
    refine X0.arraylength hx (by rw [e0]; exact Arq3.1) (State.isArrayOf_alike hZ.alike Arq3.2.1) (g := (mkF m 2 #[.val (.ref pR1), .val (.int 3)] [(.ref pR1), (.int 3)])) rfl rfl (hb hby d12_2) _ ?_
    rw [len_of Asq3 Anq3]
    refine st5 _ ?_
    refine XS.aloadN X5.here hx rfl (hb hby d12_6) rfl rfl ?_
    refine XS.iloadN X5.here hx rfl (hb hby d12_7) rfl ?_
    show oS p e below T5 m 8 #[.val (.ref pR1), .val (.int 3)] [(.int 3), (.ref pR1)] _
    refine X5.baloadBytes hx (j := (3 : Int32)) (v := (.int (pI804.toInt8.toInt32))) (by rw [e5]; exact Arq6.1) (State.isArrayOf_alike hZ.alike Arq6.2.1) Arq6.2.2 hin7 (Has.at Ahq6 hin7 rfl) (g := (mkF m 8 #[.val (.ref pR1), .val (.int 3)] [(.int 3), (.ref pR1)])) rfl rfl (hb hby d12_8) _ ?_
    refine XS.sipush X5.here hx rfl (hb hby d12_9) ?_
    refine XS.iand X5.here hx rfl (hb hby d12_12) rfl ?_
    refine XS.i2c X5.here hx rfl (hb hby d12_13) rfl ?_
    exact retN X5 hx (t := .char) Bd.returns (by simp) (hb hby d12_14) hr
  · show Qlca3 Z pR1 pI801 pI802 pI803 pI804 pK2 pV4 h0 n0 _ T5.heap _
    rw [e5]
    exact ⟨(by rw [own_latin hrg hl]), N5, rfl⟩
theorem ef_uci3 (m : MethodId) (pR1 : Addr) : entryFrame m #[(.int 3), (.ref pR1)] 2 = mkF m 0 #[.val (.int 3), .val (.ref pR1)] [] := by first | (simp [entryFrame, mkF, argsToLocals, Value.category]; done) | rfl
def Quci3 (Z : State) (pR1 : Addr) (pI801 : Int32) (pI802 : Int32) (pI803 : Int32) (pI804 : Int32) (pK2 : ClassId) (pV4 : Value) (h0 : Heap) (n0 : Nat) (v : Option Value) (h : Heap) (L : List Loc) : Prop := v = none ∧ Fr n0 L ∧ h = h0
set_option maxRecDepth 65536 in
set_option maxHeartbeats 40000000 in
theorem uci3 (l : Launch) (Z : State) (a0 : Array Value) (hw : ∀ d ∈ tables_1, d.before a0 Z = true) (ws : List Jvm.Cond) (pR1 : Addr) (pI801 : Int32) (pI802 : Int32) (pI803 : Int32) (pI804 : Int32) (pK2 : ClassId) (pV4 : Value) (h0 : Heap) (n0 : Nat) (Z0 : n0 ≤ h0.size) (V_pR1 : Arv Z h0 pR1 pK2 .byte (8 : Int32) [(.int ((pI801 >>> ((0 : Int32) &&& 31)).toInt8.toInt32)), (.int ((pI801 >>> ((8 : Int32) &&& 31)).toInt8.toInt32)), (.int ((pI802 >>> ((0 : Int32) &&& 31)).toInt8.toInt32)), (.int ((pI802 >>> ((8 : Int32) &&& 31)).toInt8.toInt32)), (.int ((pI803 >>> ((0 : Int32) &&& 31)).toInt8.toInt32)), (.int ((pI803 >>> ((8 : Int32) &&& 31)).toInt8.toInt32)), (.int ((pI804 >>> ((0 : Int32) &&& 31)).toInt8.toInt32)), (.int ((pI804 >>> ((8 : Int32) &&& 31)).toInt8.toInt32))] (.int (0 : Int32))) (S_Preconditions_SIOOBE_FORMATTER : Sta Z h0 "jdk/internal/util/Preconditions" "SIOOBE_FORMATTER" "Ljava/util/function/BiFunction;" pV4) (hc5 : pV4.isRef = true) :
    oM l yN17 jdk_52_method_91_code 2 none ws ({ frames := 2, cells := 0, slots := 0, locals := 27 } : Room) #[(.int 3), (.ref pR1)] Z h0 (Quci3 Z pR1 pI801 pI802 pI803 pI804 pK2 pV4 h0 n0) := by
  refine MetFree.of_bodySF (plainFor_of_name pn_1) hisR ?_
  intro p e s m args below meth c s₁ Bd hml0 hP hK
  obtain ⟨rfl, hZ, hh⟩ := hP
  have hx := Bd.exec
  have hby := Bd.bytes
  have hml : c.maxLocals = 2 := hml0
  have hown : s.vm.findClass "java/lang/StringUTF16" = some m.cls := findClass_of_methodNamed Bd.named
  have hnm := (name_of_methodNamed Bd.named Bd.method).1
  have X0 : Stand p l e ({ frames := 2, cells := 0, slots := 0, locals := 27 } : Room) s m #[(.int 3), (.ref pR1)] below meth c s₁ [] 0 0 := Stand.of_body Bd
  have e0 : s₁.heap = h0 := by rw [← hh, Bd.state]; rfl
  have N0 := Fr.nil n0
  obtain ⟨_, _, ⟨T3, L3, k3, n3⟩, -, X3, ⟨Lc3, hQ3, l3, y3, z3⟩, st3⟩ := Jvm.LawKit.callS X0 hx (y := yN15) hown (mvT hZ (ow hw 100 rfl)) (mvT hZ (ow hw 101 rfl)) (mvT hZ (ow hw 21 rfl)) (mvT hZ (ow hw 102 rfl)) (by decide) (backOf (W := 1) (ulen l Z a0 hw [] pR1 pI801 pI802 pI803 pI804 pK2 h0 n0 Z0 V_pR1) hZ (ow hw 102 rfl) (ow hw 21 rfl) (by decide) (by decide)) (g := (mkF m 2 #[.val (.int 3), .val (.ref pR1)] [(.ref pR1), (.int 3)])) rfl (by rw [hml]; rfl) (argsL := [(.ref pR1)]) (rest := [(.int 3)]) (lenOf pd_10 rfl) rfl (Nat.le_refl _) (hb hby d22_2) (fun _ _ => ⟨rfl, e0, (by decide : 0 + 0 ≤ _), (by decide : 0 + 0 ≤ _)⟩)
  dsimp only [Pt.U, Pt.locs, Pt.cells, Pt.slots] at X3 l3 y3 z3 st3 hQ3
  subst l3 y3 z3
  obtain ⟨rfl, Nq3, e3⟩ := hQ3
  have N3 := Fr.app N0 Nq3
  obtain ⟨_, _, ⟨T5, L5, k5, n5⟩, -, X5, ⟨Lc5, hQ5, l5, y5, z5⟩, st5⟩ := Jvm.LawKit.callS X3 hx (y := yN13) hown (mvT hZ (ow hw 103 rfl)) (mvT hZ (ow hw 65 rfl)) (mvT hZ (ow hw 7 rfl)) (mvT hZ (ow hw 66 rfl)) (by decide) (backOf (W := 0) (sci l Z a0 hw [] (3 : Int32) (4 : Int32) pV4 h0 n0 Z0 S_Preconditions_SIOOBE_FORMATTER (by decide) (by decide) hc5) hZ (ow hw 66 rfl) (ow hw 7 rfl) (by decide) (by decide)) (g := (mkF m 5 #[.val (.int 3), .val (.ref pR1)] [(.int 4), (.int 3)])) rfl (by rw [hml]; rfl) (argsL := [(.int 3), (.int 4)]) (rest := []) (lenOf pd_9 rfl) rfl (Nat.le_refl _) (hb hby d22_5) (fun _ _ => ⟨rfl, e3, (by decide : 0 + 0 ≤ _), (by decide : 0 + 0 ≤ _)⟩)
  dsimp only [Pt.U, Pt.locs, Pt.cells, Pt.slots] at X5 l5 y5 z5 st5 hQ5
  subst l5 y5 z5
  obtain ⟨rfl, Nq5, e5⟩ := hQ5
  have N5 := Fr.app N3 Nq5
  obtain ⟨fs, hr, hrun, hended, hW, hsame⟩ := X5.leave (v := none) (fun _ => rfl)
  refine ⟨_, _, castTop (ef_uci3 m pR1) ?_, hrun, hended, _, _, rfl, ?_, ⟨_, rfl⟩, hW, hsame.mono (by decide) (by decide)⟩
  · show oS p e below s₁ m 0 #[.val (.int 3), .val (.ref pR1)] [] _
    refine XS.iloadN X0.here hx rfl (hb hby d22_0) rfl ?_
    refine XS.aloadN X0.here hx rfl (hb hby d22_1) rfl rfl ?_
    refine st3 _ ?_
    refine st5 _ ?_
    exact X5.returnOut hx Bd.returns (hb hby d22_8) hr
  · show Quci3 Z pR1 pI801 pI802 pI803 pI804 pK2 pV4 h0 n0 _ T5.heap _
    rw [e5]
    exact ⟨rfl, N5, rfl⟩
theorem ef_uca3 (m : MethodId) (pR1 : Addr) : entryFrame m #[(.ref pR1), (.int 3)] 2 = mkF m 0 #[.val (.ref pR1), .val (.int 3)] [] := by first | (simp [entryFrame, mkF, argsToLocals, Value.category]; done) | rfl
def Quca3 (Z : State) (pR1 : Addr) (pI801 : Int32) (pI802 : Int32) (pI803 : Int32) (pI804 : Int32) (pK2 : ClassId) (pV3 : Value) (h0 : Heap) (n0 : Nat) (v : Option Value) (h : Heap) (L : List Loc) : Prop := v = some (.int pI804) ∧ Fr n0 L ∧ h = h0
set_option maxRecDepth 65536 in
set_option maxHeartbeats 40000000 in
theorem uca3 (l : Launch) (Z : State) (a0 : Array Value) (hw : ∀ d ∈ tables_1, d.before a0 Z = true) (ws : List Jvm.Cond) (pR1 : Addr) (pI801 : Int32) (pI802 : Int32) (pI803 : Int32) (pI804 : Int32) (pK2 : ClassId) (pV3 : Value) (h0 : Heap) (n0 : Nat) (Z0 : n0 ≤ h0.size) (V_pR1 : Arv Z h0 pR1 pK2 .byte (8 : Int32) [(.int ((pI801 >>> ((0 : Int32) &&& 31)).toInt8.toInt32)), (.int ((pI801 >>> ((8 : Int32) &&& 31)).toInt8.toInt32)), (.int ((pI802 >>> ((0 : Int32) &&& 31)).toInt8.toInt32)), (.int ((pI802 >>> ((8 : Int32) &&& 31)).toInt8.toInt32)), (.int ((pI803 >>> ((0 : Int32) &&& 31)).toInt8.toInt32)), (.int ((pI803 >>> ((8 : Int32) &&& 31)).toInt8.toInt32)), (.int ((pI804 >>> ((0 : Int32) &&& 31)).toInt8.toInt32)), (.int ((pI804 >>> ((8 : Int32) &&& 31)).toInt8.toInt32))] (.int (0 : Int32))) (S_Preconditions_SIOOBE_FORMATTER : Sta Z h0 "jdk/internal/util/Preconditions" "SIOOBE_FORMATTER" "Ljava/util/function/BiFunction;" pV3) (S_StringUTF16__assertionsDisabled : Sta Z h0 "java/lang/StringUTF16" "$assertionsDisabled" "Z" (.int 1)) (S_StringUTF16_HI_BYTE_SHIFT : Sta Z h0 "java/lang/StringUTF16" "HI_BYTE_SHIFT" "I" (.int 0)) (S_StringUTF16_LO_BYTE_SHIFT : Sta Z h0 "java/lang/StringUTF16" "LO_BYTE_SHIFT" "I" (.int 8)) (hrg : 0 ≤ pI804.toInt ∧ pI804.toInt ≤ 65535) (hc2 : pV3.isRef = true) :
    oM l yN18 jdk_52_method_83_code 2 (some .char) ws ({ frames := 3, cells := 0, slots := 0, locals := 40 } : Room) #[(.ref pR1), (.int 3)] Z h0 (Quca3 Z pR1 pI801 pI802 pI803 pI804 pK2 pV3 h0 n0) := by
  refine MetFree.of_bodySF (plainFor_of_name pn_1) hisR ?_
  intro p e s m args below meth c s₁ Bd hml0 hP hK
  obtain ⟨rfl, hZ, hh⟩ := hP
  have hx := Bd.exec
  have hby := Bd.bytes
  have hml : c.maxLocals = 2 := hml0
  have hown : s.vm.findClass "java/lang/StringUTF16" = some m.cls := findClass_of_methodNamed Bd.named
  have hnm := (name_of_methodNamed Bd.named Bd.method).1
  have X0 : Stand p l e ({ frames := 3, cells := 0, slots := 0, locals := 40 } : Room) s m #[(.ref pR1), (.int 3)] below meth c s₁ [] 0 0 := Stand.of_body Bd
  have e0 : s₁.heap = h0 := by rw [← hh, Bd.state]; rfl
  have N0 := Fr.nil n0
  obtain ⟨_, _, ⟨T4, L4, k4, n4⟩, -, X4, ⟨Lc4, hQ4, l4, y4, z4⟩, st4⟩ := Jvm.LawKit.callS X0 hx (y := yN17) hown (mvT hZ (ow hw 97 rfl)) (mvT hZ (ow hw 98 rfl)) (mvT hZ (ow hw 21 rfl)) (mvT hZ (ow hw 99 rfl)) (by decide) (backOf (W := 0) (uci3 l Z a0 hw [] pR1 pI801 pI802 pI803 pI804 pK2 pV3 h0 n0 Z0 V_pR1 S_Preconditions_SIOOBE_FORMATTER hc2) hZ (ow hw 99 rfl) (ow hw 21 rfl) (by decide) (by decide)) (g := (mkF m 2 #[.val (.ref pR1), .val (.int 3)] [(.ref pR1), (.int 3)])) rfl (by rw [hml]; rfl) (argsL := [(.int 3), (.ref pR1)]) (rest := []) (lenOf pd_11 rfl) rfl (Nat.le_refl _) (hb hby d21_2) (fun _ _ => ⟨rfl, e0, (by decide : 0 + 0 ≤ _), (by decide : 0 + 0 ≤ _)⟩)
  dsimp only [Pt.U, Pt.locs, Pt.cells, Pt.slots] at X4 l4 y4 z4 st4 hQ4
  subst l4 y4 z4
  obtain ⟨rfl, Nq4, e4⟩ := hQ4
  have N4 := Fr.app N0 Nq4
  obtain ⟨_, _, ⟨T5, L5, k5, n5⟩, -, X5, ⟨Lc5, hQ5, l5, y5, z5⟩, st5⟩ := Jvm.LawKit.callS X4 hx (y := yN7) hown (mvT hZ (ow hw 91 rfl)) (mvT hZ (ow hw 92 rfl)) (mvT hZ (ow hw 21 rfl)) (mvT hZ (ow hw 93 rfl)) (by decide) (backOf (W := 0) (gc3 l Z a0 hw [] pR1 pI801 pI802 pI803 pI804 pK2 h0 n0 Z0 S_StringUTF16__assertionsDisabled V_pR1 S_StringUTF16_HI_BYTE_SHIFT S_StringUTF16_LO_BYTE_SHIFT hrg) hZ (ow hw 93 rfl) (ow hw 21 rfl) (by decide) (by decide)) (g := (mkF m 7 #[.val (.ref pR1), .val (.int 3)] [(.int 3), (.ref pR1)])) rfl (by rw [hml]; rfl) (argsL := [(.ref pR1), (.int 3)]) (rest := []) (lenOf pd_5 rfl) rfl (Nat.le_refl _) (hb hby d21_7) (fun _ _ => ⟨rfl, e4, (by decide : 0 + 0 ≤ _), (by decide : 0 + 0 ≤ _)⟩)
  dsimp only [Pt.U, Pt.locs, Pt.cells, Pt.slots] at X5 l5 y5 z5 st5 hQ5
  subst l5 y5 z5
  obtain ⟨rfl, Nq5, e5⟩ := hQ5
  have N5 := Fr.app N4 Nq5
  obtain ⟨fs, hr, hrun, hended, hW, hsame⟩ := X5.leave (v := some (.int (nar .char pI804))) (fun h => by rw [Bd.returns] at h; cases h)
  refine ⟨_, _, castTop (ef_uca3 m pR1) ?_, hrun, hended, _, _, rfl, ?_, ⟨_, rfl⟩, hW, hsame.mono (by decide) (by decide)⟩
  · show oS p e below s₁ m 0 #[.val (.ref pR1), .val (.int 3)] [] _
    refine XS.iloadN X0.here hx rfl (hb hby d21_0) rfl ?_
    refine XS.aloadN X0.here hx rfl (hb hby d21_1) rfl rfl ?_
    refine st4 _ ?_
    refine XS.aloadN X4.here hx rfl (hb hby d21_5) rfl rfl ?_
    refine XS.iloadN X4.here hx rfl (hb hby d21_6) rfl ?_
    refine st5 _ ?_
    show oS p e below T5 m 10 #[.val (.ref pR1), .val (.int 3)] [(.int pI804)] _
    exact retN X5 hx (t := .char) Bd.returns (by simp) (hb hby d21_10) hr
  · show Quca3 Z pR1 pI801 pI802 pI803 pI804 pK2 pV3 h0 n0 _ T5.heap _
    rw [e5]
    exact ⟨(by rw [own_narc hrg]), N5, rfl⟩
theorem ef_scaL3 (m : MethodId) (pR1 : Addr) : entryFrame m #[(.ref pR1), (.int 3)] 2 = mkF m 0 #[.val (.ref pR1), .val (.int 3)] [] := by first | (simp [entryFrame, mkF, argsToLocals, Value.category]; done) | rfl
def QscaL3 (Z : State) (pR1 : Addr) (pI2 : Int32) (pR4 : Addr) (pI801 : Int32) (pI802 : Int32) (pI803 : Int32) (pI804 : Int32) (pK6 : ClassId) (pV7 : Value) (h0 : Heap) (n0 : Nat) (v : Option Value) (h : Heap) (L : List Loc) : Prop := v = some (.int pI804) ∧ Fr n0 L ∧ h = h0
set_option maxRecDepth 65536 in
set_option maxHeartbeats 40000000 in
theorem scaL3 (l : Launch) (Z : State) (a0 : Array Value) (hw : ∀ d ∈ tables_1, d.before a0 Z = true) (ws : List Jvm.Cond) (pR1 : Addr) (pI2 : Int32) (pR4 : Addr) (pI801 : Int32) (pI802 : Int32) (pI803 : Int32) (pI804 : Int32) (pK6 : ClassId) (pV7 : Value) (h0 : Heap) (n0 : Nat) (Z0 : n0 ≤ h0.size) (S_String_COMPACT_STRINGS : Sta Z h0 "java/lang/String" "COMPACT_STRINGS" "Z" (.int pI2)) (F_coder_pR1 : Fld Z h0 pR1 "java/lang/String" "coder" "B" (.int 0)) (E_pR1 : Exa Z h0 pR1 "java/lang/String") (F_value_pR1 : Fld Z h0 pR1 "java/lang/String" "value" "[B" (.ref pR4)) (V_pR4 : Arv Z h0 pR4 pK6 .byte (4 : Int32) [(.int (pI801.toInt8.toInt32)), (.int (pI802.toInt8.toInt32)), (.int (pI803.toInt8.toInt32)), (.int (pI804.toInt8.toInt32))] (.int (0 : Int32))) (S_Preconditions_SIOOBE_FORMATTER : Sta Z h0 "jdk/internal/util/Preconditions" "SIOOBE_FORMATTER" "Ljava/util/function/BiFunction;" pV7) (hrg : 0 ≤ pI804.toInt ∧ pI804.toInt ≤ 65535) (hl : ¬ ((255 : Int32) < pI804)) (hc1 : ¬ (pI2 = (0 : Int32))) (hc12 : pV7.isRef = true) :
    oM l yN19 jdk_42_method_56_code 2 (some .char) ws ({ frames := 3, cells := 0, slots := 0, locals := 40 } : Room) #[(.ref pR1), (.int 3)] Z h0 (QscaL3 Z pR1 pI2 pR4 pI801 pI802 pI803 pI804 pK6 pV7 h0 n0) := by
  refine MetFree.of_bodySF (plainFor_of_name pn_2) hisR ?_
  intro p e s m args below meth c s₁ Bd hml0 hP hK
  obtain ⟨rfl, hZ, hh⟩ := hP
  have hx := Bd.exec
  have hby := Bd.bytes
  have hml : c.maxLocals = 2 := hml0
  have hown : s.vm.findClass "java/lang/String" = some m.cls := findClass_of_methodNamed Bd.named
  have hnm := (name_of_methodNamed Bd.named Bd.method).1
  have X0 : Stand p l e ({ frames := 3, cells := 0, slots := 0, locals := 40 } : Room) s m #[(.ref pR1), (.int 3)] below meth c s₁ [] 0 0 := Stand.of_body Bd
  have e0 : s₁.heap = h0 := by rw [← hh, Bd.state]; rfl
  have N0 := Fr.nil n0
  obtain ⟨cq3, kq3, q3a, q3b, q3c⟩ := isOf hZ e0 E_pR1
  obtain ⟨_, _, ⟨T3, L3, k3, n3⟩, -, X3, ⟨Lc3, hQ3, l3, y3, z3⟩, st3⟩ := X0.virtualBack hx (y := yN14) (z := yN14) hown (mvT hZ (ow hw 55 rfl)) (mvT hZ (ow hw 56 rfl)) (notFace_of_selects (args := #[]) (mvT hZ (ow hw 58 rfl))) (mvT hZ (ow hw 58 rfl)) (mvT hZ (ow hw 57 rfl)) (by decide) (backOf (W := 0) (islL l Z a0 hw [] pR1 pI2 h0 n0 Z0 S_String_COMPACT_STRINGS F_coder_pR1 hc1) hZ (ow hw 59 rfl) (ow hw 7 rfl) (by decide) (by decide)) q3a q3c (g := (mkF m 1 #[.val (.ref pR1), .val (.int 3)] [(.ref pR1)])) rfl (by rw [hml]; rfl) (Steps.refl _) (argsL := []) (rest := []) (lenOf pd_12 rfl) rfl (Nat.le_refl _) (hb hby d10_1) (fun _ _ => ⟨rfl, e0, (by decide : 0 + 0 ≤ _), (by decide : 0 + 0 ≤ _)⟩)
  dsimp only [Pt.U, Pt.locs, Pt.cells, Pt.slots] at X3 l3 y3 z3 st3 hQ3
  subst l3 y3 z3
  obtain ⟨rfl, Nq3, e3⟩ := hQ3
  have N3 := Fr.app N0 Nq3
  obtain ⟨T5, X5, e5, st5⟩ := getF X3 hx hZ hown (host := "") (Or.inl (ow hw 32 rfl)) Via.refl e3 F_value_pR1 (g := (mkF m 8 #[.val (.ref pR1), .val (.int 3)] [(.ref pR1)])) rfl rfl (hb hby d10_8)
  obtain ⟨_, _, ⟨T8, L8, k8, n8⟩, -, X8, ⟨Lc8, hQ8, l8, y8, z8⟩, st8⟩ := Jvm.LawKit.callS X5 hx (y := yN16) hown (mvT hZ (ow hw 60 rfl)) (mvT hZ (ow hw 61 rfl)) (mvT hZ (ow hw 62 rfl)) (mvT hZ (ow hw 63 rfl)) (by decide) (backOf (W := 0) (lca3 l Z a0 hw [] pR4 pI801 pI802 pI803 pI804 pK6 pV7 h0 n0 Z0 V_pR4 S_Preconditions_SIOOBE_FORMATTER hrg hl hc12) hZ (ow hw 63 rfl) (ow hw 62 rfl) (by decide) (by decide)) (g := (mkF m 12 #[.val (.ref pR1), .val (.int 3)] [(.int 3), (.ref pR4)])) rfl (by rw [hml]; rfl) (argsL := [(.ref pR4), (.int 3)]) (rest := []) (lenOf pd_5 rfl) rfl (Nat.le_refl _) (hb hby d10_12) (fun _ _ => ⟨rfl, e5, (by decide : 0 + 0 ≤ _), (by decide : 0 + 0 ≤ _)⟩)
  dsimp only [Pt.U, Pt.locs, Pt.cells, Pt.slots] at X8 l8 y8 z8 st8 hQ8
  subst l8 y8 z8
  obtain ⟨rfl, Nq8, e8⟩ := hQ8
  have N8 := Fr.app N3 Nq8
  obtain ⟨fs, hr, hrun, hended, hW, hsame⟩ := X8.leave (v := some (.int (nar .char pI804))) (fun h => by rw [Bd.returns] at h; cases h)
  refine ⟨_, _, castTop (ef_scaL3 m pR1) ?_, hrun, hended, _, _, rfl, ?_, ⟨_, rfl⟩, hW, hsame.mono (by decide) (by decide)⟩
  · show oS p e below s₁ m 0 #[.val (.ref pR1), .val (.int 3)] [] _
    refine XS.aloadN X0.here hx rfl (hb hby d10_0) rfl rfl ?_
    refine st3.trans ?_
    refine XS.ifNo X3.here hx rfl (hb hby d10_4) rfl ((if0 _ _).trans (feq (by decide : ¬ ((1 : Int32) = (0 : Int32)))).1) ?_
    refine XS.aloadN X3.here hx rfl (hb hby d10_7) rfl rfl ?_
    refine st5 _ ?_
    refine XS.iloadN X5.here hx rfl (hb hby d10_11) rfl ?_
    show oS p e below T5 m 12 #[.val (.ref pR1), .val (.int 3)] [(.int 3), (.ref pR4)] _
    refine st8 _ ?_
    exact retN X8 hx (t := .char) Bd.returns (by simp) (hb hby d10_15) hr
  · show QscaL3 Z pR1 pI2 pR4 pI801 pI802 pI803 pI804 pK6 pV7 h0 n0 _ T8.heap _
    rw [e8]
    exact ⟨(by rw [own_narc hrg]), N8, rfl⟩
theorem ef_scaU3 (m : MethodId) (pR1 : Addr) : entryFrame m #[(.ref pR1), (.int 3)] 2 = mkF m 0 #[.val (.ref pR1), .val (.int 3)] [] := by first | (simp [entryFrame, mkF, argsToLocals, Value.category]; done) | rfl
def QscaU3 (Z : State) (pR1 : Addr) (pI2 : Int32) (pR4 : Addr) (pI801 : Int32) (pI802 : Int32) (pI803 : Int32) (pI804 : Int32) (pK6 : ClassId) (pV7 : Value) (h0 : Heap) (n0 : Nat) (v : Option Value) (h : Heap) (L : List Loc) : Prop := v = some (.int pI804) ∧ Fr n0 L ∧ h = h0
set_option maxRecDepth 65536 in
set_option maxHeartbeats 40000000 in
theorem scaU3 (l : Launch) (Z : State) (a0 : Array Value) (hw : ∀ d ∈ tables_1, d.before a0 Z = true) (ws : List Jvm.Cond) (pR1 : Addr) (pI2 : Int32) (pR4 : Addr) (pI801 : Int32) (pI802 : Int32) (pI803 : Int32) (pI804 : Int32) (pK6 : ClassId) (pV7 : Value) (h0 : Heap) (n0 : Nat) (Z0 : n0 ≤ h0.size) (S_String_COMPACT_STRINGS : Sta Z h0 "java/lang/String" "COMPACT_STRINGS" "Z" (.int pI2)) (F_coder_pR1 : Fld Z h0 pR1 "java/lang/String" "coder" "B" (.int 1)) (E_pR1 : Exa Z h0 pR1 "java/lang/String") (F_value_pR1 : Fld Z h0 pR1 "java/lang/String" "value" "[B" (.ref pR4)) (V_pR4 : Arv Z h0 pR4 pK6 .byte (8 : Int32) [(.int ((pI801 >>> ((0 : Int32) &&& 31)).toInt8.toInt32)), (.int ((pI801 >>> ((8 : Int32) &&& 31)).toInt8.toInt32)), (.int ((pI802 >>> ((0 : Int32) &&& 31)).toInt8.toInt32)), (.int ((pI802 >>> ((8 : Int32) &&& 31)).toInt8.toInt32)), (.int ((pI803 >>> ((0 : Int32) &&& 31)).toInt8.toInt32)), (.int ((pI803 >>> ((8 : Int32) &&& 31)).toInt8.toInt32)), (.int ((pI804 >>> ((0 : Int32) &&& 31)).toInt8.toInt32)), (.int ((pI804 >>> ((8 : Int32) &&& 31)).toInt8.toInt32))] (.int (0 : Int32))) (S_Preconditions_SIOOBE_FORMATTER : Sta Z h0 "jdk/internal/util/Preconditions" "SIOOBE_FORMATTER" "Ljava/util/function/BiFunction;" pV7) (S_StringUTF16__assertionsDisabled : Sta Z h0 "java/lang/StringUTF16" "$assertionsDisabled" "Z" (.int 1)) (S_StringUTF16_HI_BYTE_SHIFT : Sta Z h0 "java/lang/StringUTF16" "HI_BYTE_SHIFT" "I" (.int 0)) (S_StringUTF16_LO_BYTE_SHIFT : Sta Z h0 "java/lang/StringUTF16" "LO_BYTE_SHIFT" "I" (.int 8)) (hrg : 0 ≤ pI804.toInt ∧ pI804.toInt ≤ 65535) (hc1 : ¬ (pI2 = (0 : Int32))) (hc21 : pV7.isRef = true) :
    oM l yN19 jdk_42_method_56_code 2 (some .char) ws ({ frames := 4, cells := 0, slots := 0, locals := 53 } : Room) #[(.ref pR1), (.int 3)] Z h0 (QscaU3 Z pR1 pI2 pR4 pI801 pI802 pI803 pI804 pK6 pV7 h0 n0) := by
  refine MetFree.of_bodySF (plainFor_of_name pn_2) hisR ?_
  intro p e s m args below meth c s₁ Bd hml0 hP hK
  obtain ⟨rfl, hZ, hh⟩ := hP
  have hx := Bd.exec
  have hby := Bd.bytes
  have hml : c.maxLocals = 2 := hml0
  have hown : s.vm.findClass "java/lang/String" = some m.cls := findClass_of_methodNamed Bd.named
  have hnm := (name_of_methodNamed Bd.named Bd.method).1
  have X0 : Stand p l e ({ frames := 4, cells := 0, slots := 0, locals := 53 } : Room) s m #[(.ref pR1), (.int 3)] below meth c s₁ [] 0 0 := Stand.of_body Bd
  have e0 : s₁.heap = h0 := by rw [← hh, Bd.state]; rfl
  have N0 := Fr.nil n0
  obtain ⟨cq3, kq3, q3a, q3b, q3c⟩ := isOf hZ e0 E_pR1
  obtain ⟨_, _, ⟨T3, L3, k3, n3⟩, -, X3, ⟨Lc3, hQ3, l3, y3, z3⟩, st3⟩ := X0.virtualBack hx (y := yN14) (z := yN14) hown (mvT hZ (ow hw 55 rfl)) (mvT hZ (ow hw 56 rfl)) (notFace_of_selects (args := #[]) (mvT hZ (ow hw 58 rfl))) (mvT hZ (ow hw 58 rfl)) (mvT hZ (ow hw 57 rfl)) (by decide) (backOf (W := 0) (islU l Z a0 hw [] pR1 pI2 h0 n0 Z0 S_String_COMPACT_STRINGS F_coder_pR1 hc1) hZ (ow hw 59 rfl) (ow hw 7 rfl) (by decide) (by decide)) q3a q3c (g := (mkF m 1 #[.val (.ref pR1), .val (.int 3)] [(.ref pR1)])) rfl (by rw [hml]; rfl) (Steps.refl _) (argsL := []) (rest := []) (lenOf pd_12 rfl) rfl (Nat.le_refl _) (hb hby d10_1) (fun _ _ => ⟨rfl, e0, (by decide : 0 + 0 ≤ _), (by decide : 0 + 0 ≤ _)⟩)
  dsimp only [Pt.U, Pt.locs, Pt.cells, Pt.slots] at X3 l3 y3 z3 st3 hQ3
  subst l3 y3 z3
  obtain ⟨rfl, Nq3, e3⟩ := hQ3
  have N3 := Fr.app N0 Nq3
  obtain ⟨T5, X5, e5, st5⟩ := getF X3 hx hZ hown (host := "") (Or.inl (ow hw 32 rfl)) Via.refl e3 F_value_pR1 (g := (mkF m 17 #[.val (.ref pR1), .val (.int 3)] [(.ref pR1)])) rfl rfl (hb hby d10_17)
  obtain ⟨_, _, ⟨T8, L8, k8, n8⟩, -, X8, ⟨Lc8, hQ8, l8, y8, z8⟩, st8⟩ := Jvm.LawKit.callS X5 hx (y := yN18) hown (mvT hZ (ow hw 94 rfl)) (mvT hZ (ow hw 95 rfl)) (mvT hZ (ow hw 21 rfl)) (mvT hZ (ow hw 96 rfl)) (by decide) (backOf (W := 0) (uca3 l Z a0 hw [] pR4 pI801 pI802 pI803 pI804 pK6 pV7 h0 n0 Z0 V_pR4 S_Preconditions_SIOOBE_FORMATTER S_StringUTF16__assertionsDisabled S_StringUTF16_HI_BYTE_SHIFT S_StringUTF16_LO_BYTE_SHIFT hrg hc21) hZ (ow hw 96 rfl) (ow hw 21 rfl) (by decide) (by decide)) (g := (mkF m 21 #[.val (.ref pR1), .val (.int 3)] [(.int 3), (.ref pR4)])) rfl (by rw [hml]; rfl) (argsL := [(.ref pR4), (.int 3)]) (rest := []) (lenOf pd_5 rfl) rfl (Nat.le_refl _) (hb hby d10_21) (fun _ _ => ⟨rfl, e5, (by decide : 0 + 0 ≤ _), (by decide : 0 + 0 ≤ _)⟩)
  dsimp only [Pt.U, Pt.locs, Pt.cells, Pt.slots] at X8 l8 y8 z8 st8 hQ8
  subst l8 y8 z8
  obtain ⟨rfl, Nq8, e8⟩ := hQ8
  have N8 := Fr.app N3 Nq8
  obtain ⟨fs, hr, hrun, hended, hW, hsame⟩ := X8.leave (v := some (.int (nar .char pI804))) (fun h => by rw [Bd.returns] at h; cases h)
  refine ⟨_, _, castTop (ef_scaU3 m pR1) ?_, hrun, hended, _, _, rfl, ?_, ⟨_, rfl⟩, hW, hsame.mono (by decide) (by decide)⟩
  · show oS p e below s₁ m 0 #[.val (.ref pR1), .val (.int 3)] [] _
    refine XS.aloadN X0.here hx rfl (hb hby d10_0) rfl rfl ?_
    refine st3.trans ?_
    refine XS.ifYes X3.here hx rfl (pc0 := 4) (pc' := 16) rfl (hb hby d10_4) rfl ((if0 _ _).trans (teq (by decide : (0 : Int32) = (0 : Int32))).1) (by decide) (by decide) ?_
    refine XS.aloadN X3.here hx rfl (hb hby d10_16) rfl rfl ?_
    refine st5 _ ?_
    refine XS.iloadN X5.here hx rfl (hb hby d10_20) rfl ?_
    show oS p e below T5 m 21 #[.val (.ref pR1), .val (.int 3)] [(.int 3), (.ref pR4)] _
    refine st8 _ ?_
    exact retN X8 hx (t := .char) Bd.returns (by simp) (hb hby d10_24) hr
  · show QscaU3 Z pR1 pI2 pR4 pI801 pI802 pI803 pI804 pK6 pV7 h0 n0 _ T8.heap _
    rw [e8]
    exact ⟨(by rw [own_narc hrg]), N8, rfl⟩
theorem ef_grL3_0 (m : MethodId) (pR1 : Addr) : entryFrame m #[(.ref pR1), (.int 3)] 3 = mkF m 0 #[.val (.ref pR1), .val (.int 3), .unset] [] := by first | (simp [entryFrame, mkF, argsToLocals, Value.category]; done) | rfl
def QgrL3 (Z : State) (pR1 : Addr) (pR2 : Addr) (pI4 : Int32) (pR5 : Addr) (pI801 : Int32) (pI802 : Int32) (pI803 : Int32) (pI804 : Int32) (pK6 : ClassId) (pV7 : Value) (h0 : Heap) (n0 : Nat) (v : Option Value) (h : Heap) (L : List Loc) : Prop := v = some (.int (own_green pI804)) ∧ Fr n0 L ∧ h = h0
set_option maxRecDepth 65536 in
set_option maxHeartbeats 40000000 in
theorem grL3_0 (l : Launch) (Z : State) (a0 : Array Value) (hw : ∀ d ∈ tables_1, d.before a0 Z = true) (ws : List Jvm.Cond) (pR1 : Addr) (pR2 : Addr) (pI4 : Int32) (pR5 : Addr) (pI801 : Int32) (pI802 : Int32) (pI803 : Int32) (pI804 : Int32) (pK6 : ClassId) (pV7 : Value) (h0 : Heap) (n0 : Nat) (Z0 : n0 ≤ h0.size) (F_state_pR1 : Fld Z h0 pR1 "com/example/watchful_junction/watchfuljunction/importer/Network$Phase" "state" "Ljava/lang/String;" (.ref pR2)) (S_String_COMPACT_STRINGS : Sta Z h0 "java/lang/String" "COMPACT_STRINGS" "Z" (.int pI4)) (F_coder_pR2 : Fld Z h0 pR2 "java/lang/String" "coder" "B" (.int 0)) (E_pR2 : Exa Z h0 pR2 "java/lang/String") (F_value_pR2 : Fld Z h0 pR2 "java/lang/String" "value" "[B" (.ref pR5)) (V_pR5 : Arv Z h0 pR5 pK6 .byte (4 : Int32) [(.int (pI801.toInt8.toInt32)), (.int (pI802.toInt8.toInt32)), (.int (pI803.toInt8.toInt32)), (.int (pI804.toInt8.toInt32))] (.int (0 : Int32))) (S_Preconditions_SIOOBE_FORMATTER : Sta Z h0 "jdk/internal/util/Preconditions" "SIOOBE_FORMATTER" "Ljava/util/function/BiFunction;" pV7) (hrg : 0 ≤ pI804.toInt ∧ pI804.toInt ≤ 65535) (hl : ¬ ((255 : Int32) < pI804)) (hc5 : ¬ (pI4 = (0 : Int32))) (hc5' : pV7.isRef = true) (hc12 : pI804 = (71 : Int32)) :
    oM l yN20 prog_18_method_3_code 3 (some .boolean) ws ({ frames := 4, cells := 0, slots := 0, locals := 53 } : Room) #[(.ref pR1), (.int 3)] Z h0 (QgrL3 Z pR1 pR2 pI4 pR5 pI801 pI802 pI803 pI804 pK6 pV7 h0 n0) := by
  refine MetFree.of_bodySF (plainFor_of_name pn_5) hisR ?_
  intro p e s m args below meth c s₁ Bd hml0 hP hK
  obtain ⟨rfl, hZ, hh⟩ := hP
  have hx := Bd.exec
  have hby := Bd.bytes
  have hml : c.maxLocals = 3 := hml0
  have hown : s.vm.findClass "com/example/watchful_junction/watchfuljunction/importer/Network$Phase" = some m.cls := findClass_of_methodNamed Bd.named
  have hnm := (name_of_methodNamed Bd.named Bd.method).1
  have X0 : Stand p l e ({ frames := 4, cells := 0, slots := 0, locals := 53 } : Room) s m #[(.ref pR1), (.int 3)] below meth c s₁ [] 0 0 := Stand.of_body Bd
  have e0 : s₁.heap = h0 := by rw [← hh, Bd.state]; rfl
  have N0 := Fr.nil n0
  obtain ⟨T3, X3, e3, st3⟩ := getF X0 hx hZ hown (host := "") (Or.inl (ow hw 43 rfl)) Via.refl e0 F_state_pR1 (g := (mkF m 1 #[.val (.ref pR1), .val (.int 3), .unset] [(.ref pR1)])) rfl rfl (hb hby d9_1)
  obtain ⟨cq8, kq8, q8a, q8b, q8c⟩ := isOf hZ e3 E_pR2
  obtain ⟨_, _, ⟨T8, L8, k8, n8⟩, -, X8, ⟨Lc8, hQ8, l8, y8, z8⟩, st8⟩ := X3.virtualBack hx (y := yN19) (z := yN19) hown (mvT hZ (ow hw 50 rfl)) (mvT hZ (ow hw 51 rfl)) (notFace_of_selects (args := #[]) (mvT hZ (ow hw 53 rfl))) (mvT hZ (ow hw 53 rfl)) (mvT hZ (ow hw 52 rfl)) (by decide) (backOf (W := 0) (scaL3 l Z a0 hw [] pR2 pI4 pR5 pI801 pI802 pI803 pI804 pK6 pV7 h0 n0 Z0 S_String_COMPACT_STRINGS F_coder_pR2 E_pR2 F_value_pR2 V_pR5 S_Preconditions_SIOOBE_FORMATTER hrg hl hc5 hc5') hZ (ow hw 54 rfl) (ow hw 7 rfl) (by decide) (by decide)) q8a q8c (g := (mkF m 5 #[.val (.ref pR1), .val (.int 3), .unset] [(.int 3), (.ref pR2)])) rfl (by rw [hml]; rfl) (Steps.refl _) (argsL := [(.int 3)]) (rest := []) (lenOf pd_13 rfl) rfl (Nat.le_refl _) (hb hby d9_5) (fun _ _ => ⟨rfl, e3, (by decide : 0 + 0 ≤ _), (by decide : 0 + 0 ≤ _)⟩)
  dsimp only [Pt.U, Pt.locs, Pt.cells, Pt.slots] at X8 l8 y8 z8 st8 hQ8
  subst l8 y8 z8
  obtain ⟨rfl, Nq8, e8⟩ := hQ8
  have N8 := Fr.app N0 Nq8
  obtain ⟨fs, hr, hrun, hended, hW, hsame⟩ := X8.leave (v := some (.int 1)) (fun h => by rw [Bd.returns] at h; cases h)
  refine ⟨_, _, castTop (ef_grL3_0 m pR1) ?_, hrun, hended, _, _, rfl, ?_, ⟨_, rfl⟩, hW, hsame.mono (by decide) (by decide)⟩
  · show oS p e below s₁ m 0 #[.val (.ref pR1), .val (.int 3), .unset] [] _
    refine XS.aloadN X0.here hx rfl (hb hby d9_0) rfl rfl ?_
    refine st3 _ ?_
    refine XS.iloadN X3.here hx rfl (hb hby d9_4) rfl ?_
    refine st8.trans ?_
    refine XS.istoreN X8.here hx rfl (hb hby d9_8) rfl (l' := #[.val (.ref pR1), .val (.int 3), .val (.int pI804)]) rfl ?_
    refine XS.iloadN X8.here hx rfl (hb hby d9_9) rfl ?_
    show oS p e below T8 m 10 #[.val (.ref pR1), .val (.int 3), .val (.int pI804)] [(.int pI804)] _
    refine XS.bipush X8.here hx rfl (hb hby d9_10) ?_
    refine XS.icmpYes X8.here hx rfl (pc0 := 12) (pc' := 21) rfl (hb hby d9_12) rfl (teq hc12).1 (by decide) (by decide) ?_
    refine XS.iconst X8.here hx rfl (hb hby d9_21) ?_
    refine XS.goto X8.here hx rfl (pc0 := 22) (pc' := 26) rfl (hb hby d9_22) (by decide) (by decide) ?_
    exact retN X8 hx (t := .boolean) Bd.returns (by simp) (hb hby d9_26) hr
  · show QgrL3 Z pR1 pR2 pI4 pR5 pI801 pI802 pI803 pI804 pK6 pV7 h0 n0 _ T8.heap _
    rw [e8]
    exact ⟨(by simp [own_green, hc12]), N8, rfl⟩
theorem ef_grL3_1 (m : MethodId) (pR1 : Addr) : entryFrame m #[(.ref pR1), (.int 3)] 3 = mkF m 0 #[.val (.ref pR1), .val (.int 3), .unset] [] := by first | (simp [entryFrame, mkF, argsToLocals, Value.category]; done) | rfl
set_option maxRecDepth 65536 in
set_option maxHeartbeats 40000000 in
theorem grL3_1 (l : Launch) (Z : State) (a0 : Array Value) (hw : ∀ d ∈ tables_1, d.before a0 Z = true) (ws : List Jvm.Cond) (pR1 : Addr) (pR2 : Addr) (pI4 : Int32) (pR5 : Addr) (pI801 : Int32) (pI802 : Int32) (pI803 : Int32) (pI804 : Int32) (pK6 : ClassId) (pV7 : Value) (h0 : Heap) (n0 : Nat) (Z0 : n0 ≤ h0.size) (F_state_pR1 : Fld Z h0 pR1 "com/example/watchful_junction/watchfuljunction/importer/Network$Phase" "state" "Ljava/lang/String;" (.ref pR2)) (S_String_COMPACT_STRINGS : Sta Z h0 "java/lang/String" "COMPACT_STRINGS" "Z" (.int pI4)) (F_coder_pR2 : Fld Z h0 pR2 "java/lang/String" "coder" "B" (.int 0)) (E_pR2 : Exa Z h0 pR2 "java/lang/String") (F_value_pR2 : Fld Z h0 pR2 "java/lang/String" "value" "[B" (.ref pR5)) (V_pR5 : Arv Z h0 pR5 pK6 .byte (4 : Int32) [(.int (pI801.toInt8.toInt32)), (.int (pI802.toInt8.toInt32)), (.int (pI803.toInt8.toInt32)), (.int (pI804.toInt8.toInt32))] (.int (0 : Int32))) (S_Preconditions_SIOOBE_FORMATTER : Sta Z h0 "jdk/internal/util/Preconditions" "SIOOBE_FORMATTER" "Ljava/util/function/BiFunction;" pV7) (hrg : 0 ≤ pI804.toInt ∧ pI804.toInt ≤ 65535) (hl : ¬ ((255 : Int32) < pI804)) (hc5 : ¬ (pI4 = (0 : Int32))) (hc5' : pV7.isRef = true) (hc12 : ¬ (pI804 = (71 : Int32))) (hc18 : pI804 = (103 : Int32)) :
    oM l yN20 prog_18_method_3_code 3 (some .boolean) ws ({ frames := 4, cells := 0, slots := 0, locals := 53 } : Room) #[(.ref pR1), (.int 3)] Z h0 (QgrL3 Z pR1 pR2 pI4 pR5 pI801 pI802 pI803 pI804 pK6 pV7 h0 n0) := by
  refine MetFree.of_bodySF (plainFor_of_name pn_5) hisR ?_
  intro p e s m args below meth c s₁ Bd hml0 hP hK
  obtain ⟨rfl, hZ, hh⟩ := hP
  have hx := Bd.exec
  have hby := Bd.bytes
  have hml : c.maxLocals = 3 := hml0
  have hown : s.vm.findClass "com/example/watchful_junction/watchfuljunction/importer/Network$Phase" = some m.cls := findClass_of_methodNamed Bd.named
  have hnm := (name_of_methodNamed Bd.named Bd.method).1
  have X0 : Stand p l e ({ frames := 4, cells := 0, slots := 0, locals := 53 } : Room) s m #[(.ref pR1), (.int 3)] below meth c s₁ [] 0 0 := Stand.of_body Bd
  have e0 : s₁.heap = h0 := by rw [← hh, Bd.state]; rfl
  have N0 := Fr.nil n0
  obtain ⟨T3, X3, e3, st3⟩ := getF X0 hx hZ hown (host := "") (Or.inl (ow hw 43 rfl)) Via.refl e0 F_state_pR1 (g := (mkF m 1 #[.val (.ref pR1), .val (.int 3), .unset] [(.ref pR1)])) rfl rfl (hb hby d9_1)
  obtain ⟨cq8, kq8, q8a, q8b, q8c⟩ := isOf hZ e3 E_pR2
  obtain ⟨_, _, ⟨T8, L8, k8, n8⟩, -, X8, ⟨Lc8, hQ8, l8, y8, z8⟩, st8⟩ := X3.virtualBack hx (y := yN19) (z := yN19) hown (mvT hZ (ow hw 50 rfl)) (mvT hZ (ow hw 51 rfl)) (notFace_of_selects (args := #[]) (mvT hZ (ow hw 53 rfl))) (mvT hZ (ow hw 53 rfl)) (mvT hZ (ow hw 52 rfl)) (by decide) (backOf (W := 0) (scaL3 l Z a0 hw [] pR2 pI4 pR5 pI801 pI802 pI803 pI804 pK6 pV7 h0 n0 Z0 S_String_COMPACT_STRINGS F_coder_pR2 E_pR2 F_value_pR2 V_pR5 S_Preconditions_SIOOBE_FORMATTER hrg hl hc5 hc5') hZ (ow hw 54 rfl) (ow hw 7 rfl) (by decide) (by decide)) q8a q8c (g := (mkF m 5 #[.val (.ref pR1), .val (.int 3), .unset] [(.int 3), (.ref pR2)])) rfl (by rw [hml]; rfl) (Steps.refl _) (argsL := [(.int 3)]) (rest := []) (lenOf pd_13 rfl) rfl (Nat.le_refl _) (hb hby d9_5) (fun _ _ => ⟨rfl, e3, (by decide : 0 + 0 ≤ _), (by decide : 0 + 0 ≤ _)⟩)
  dsimp only [Pt.U, Pt.locs, Pt.cells, Pt.slots] at X8 l8 y8 z8 st8 hQ8
  subst l8 y8 z8
  obtain ⟨rfl, Nq8, e8⟩ := hQ8
  have N8 := Fr.app N0 Nq8
  obtain ⟨fs, hr, hrun, hended, hW, hsame⟩ := X8.leave (v := some (.int 1)) (fun h => by rw [Bd.returns] at h; cases h)
  refine ⟨_, _, castTop (ef_grL3_1 m pR1) ?_, hrun, hended, _, _, rfl, ?_, ⟨_, rfl⟩, hW, hsame.mono (by decide) (by decide)⟩
  · show oS p e below s₁ m 0 #[.val (.ref pR1), .val (.int 3), .unset] [] _
    refine XS.aloadN X0.here hx rfl (hb hby d9_0) rfl rfl ?_
    refine st3 _ ?_
    refine XS.iloadN X3.here hx rfl (hb hby d9_4) rfl ?_
    refine st8.trans ?_
    refine XS.istoreN X8.here hx rfl (hb hby d9_8) rfl (l' := #[.val (.ref pR1), .val (.int 3), .val (.int pI804)]) rfl ?_
    refine XS.iloadN X8.here hx rfl (hb hby d9_9) rfl ?_
    show oS p e below T8 m 10 #[.val (.ref pR1), .val (.int 3), .val (.int pI804)] [(.int pI804)] _
    refine XS.bipush X8.here hx rfl (hb hby d9_10) ?_
    refine XS.icmpNo X8.here hx rfl (hb hby d9_12) rfl (feq hc12).1 ?_
    refine XS.iloadN X8.here hx rfl (hb hby d9_15) rfl ?_
    refine XS.bipush X8.here hx rfl (hb hby d9_16) ?_
    refine XS.icmpNo X8.here hx rfl (hb hby d9_18) rfl (teq hc18).2 ?_
    refine XS.iconst X8.here hx rfl (hb hby d9_21) ?_
    show oS p e below T8 m 22 #[.val (.ref pR1), .val (.int 3), .val (.int pI804)] [(.int 1)] _
    refine XS.goto X8.here hx rfl (pc0 := 22) (pc' := 26) rfl (hb hby d9_22) (by decide) (by decide) ?_
    exact retN X8 hx (t := .boolean) Bd.returns (by simp) (hb hby d9_26) hr
  · show QgrL3 Z pR1 pR2 pI4 pR5 pI801 pI802 pI803 pI804 pK6 pV7 h0 n0 _ T8.heap _
    rw [e8]
    exact ⟨(by simp [own_green, hc18]), N8, rfl⟩
theorem ef_grL3_2 (m : MethodId) (pR1 : Addr) : entryFrame m #[(.ref pR1), (.int 3)] 3 = mkF m 0 #[.val (.ref pR1), .val (.int 3), .unset] [] := by first | (simp [entryFrame, mkF, argsToLocals, Value.category]; done) | rfl
set_option maxRecDepth 65536 in
set_option maxHeartbeats 40000000 in
theorem grL3_2 (l : Launch) (Z : State) (a0 : Array Value) (hw : ∀ d ∈ tables_1, d.before a0 Z = true) (ws : List Jvm.Cond) (pR1 : Addr) (pR2 : Addr) (pI4 : Int32) (pR5 : Addr) (pI801 : Int32) (pI802 : Int32) (pI803 : Int32) (pI804 : Int32) (pK6 : ClassId) (pV7 : Value) (h0 : Heap) (n0 : Nat) (Z0 : n0 ≤ h0.size) (F_state_pR1 : Fld Z h0 pR1 "com/example/watchful_junction/watchfuljunction/importer/Network$Phase" "state" "Ljava/lang/String;" (.ref pR2)) (S_String_COMPACT_STRINGS : Sta Z h0 "java/lang/String" "COMPACT_STRINGS" "Z" (.int pI4)) (F_coder_pR2 : Fld Z h0 pR2 "java/lang/String" "coder" "B" (.int 0)) (E_pR2 : Exa Z h0 pR2 "java/lang/String") (F_value_pR2 : Fld Z h0 pR2 "java/lang/String" "value" "[B" (.ref pR5)) (V_pR5 : Arv Z h0 pR5 pK6 .byte (4 : Int32) [(.int (pI801.toInt8.toInt32)), (.int (pI802.toInt8.toInt32)), (.int (pI803.toInt8.toInt32)), (.int (pI804.toInt8.toInt32))] (.int (0 : Int32))) (S_Preconditions_SIOOBE_FORMATTER : Sta Z h0 "jdk/internal/util/Preconditions" "SIOOBE_FORMATTER" "Ljava/util/function/BiFunction;" pV7) (hrg : 0 ≤ pI804.toInt ∧ pI804.toInt ≤ 65535) (hl : ¬ ((255 : Int32) < pI804)) (hc5 : ¬ (pI4 = (0 : Int32))) (hc5' : pV7.isRef = true) (hc12 : ¬ (pI804 = (71 : Int32))) (hc18 : ¬ (pI804 = (103 : Int32))) :
    oM l yN20 prog_18_method_3_code 3 (some .boolean) ws ({ frames := 4, cells := 0, slots := 0, locals := 53 } : Room) #[(.ref pR1), (.int 3)] Z h0 (QgrL3 Z pR1 pR2 pI4 pR5 pI801 pI802 pI803 pI804 pK6 pV7 h0 n0) := by
  refine MetFree.of_bodySF (plainFor_of_name pn_5) hisR ?_
  intro p e s m args below meth c s₁ Bd hml0 hP hK
  obtain ⟨rfl, hZ, hh⟩ := hP
  have hx := Bd.exec
  have hby := Bd.bytes
  have hml : c.maxLocals = 3 := hml0
  have hown : s.vm.findClass "com/example/watchful_junction/watchfuljunction/importer/Network$Phase" = some m.cls := findClass_of_methodNamed Bd.named
  have hnm := (name_of_methodNamed Bd.named Bd.method).1
  have X0 : Stand p l e ({ frames := 4, cells := 0, slots := 0, locals := 53 } : Room) s m #[(.ref pR1), (.int 3)] below meth c s₁ [] 0 0 := Stand.of_body Bd
  have e0 : s₁.heap = h0 := by rw [← hh, Bd.state]; rfl
  have N0 := Fr.nil n0
  obtain ⟨T3, X3, e3, st3⟩ := getF X0 hx hZ hown (host := "") (Or.inl (ow hw 43 rfl)) Via.refl e0 F_state_pR1 (g := (mkF m 1 #[.val (.ref pR1), .val (.int 3), .unset] [(.ref pR1)])) rfl rfl (hb hby d9_1)
  obtain ⟨cq8, kq8, q8a, q8b, q8c⟩ := isOf hZ e3 E_pR2
  obtain ⟨_, _, ⟨T8, L8, k8, n8⟩, -, X8, ⟨Lc8, hQ8, l8, y8, z8⟩, st8⟩ := X3.virtualBack hx (y := yN19) (z := yN19) hown (mvT hZ (ow hw 50 rfl)) (mvT hZ (ow hw 51 rfl)) (notFace_of_selects (args := #[]) (mvT hZ (ow hw 53 rfl))) (mvT hZ (ow hw 53 rfl)) (mvT hZ (ow hw 52 rfl)) (by decide) (backOf (W := 0) (scaL3 l Z a0 hw [] pR2 pI4 pR5 pI801 pI802 pI803 pI804 pK6 pV7 h0 n0 Z0 S_String_COMPACT_STRINGS F_coder_pR2 E_pR2 F_value_pR2 V_pR5 S_Preconditions_SIOOBE_FORMATTER hrg hl hc5 hc5') hZ (ow hw 54 rfl) (ow hw 7 rfl) (by decide) (by decide)) q8a q8c (g := (mkF m 5 #[.val (.ref pR1), .val (.int 3), .unset] [(.int 3), (.ref pR2)])) rfl (by rw [hml]; rfl) (Steps.refl _) (argsL := [(.int 3)]) (rest := []) (lenOf pd_13 rfl) rfl (Nat.le_refl _) (hb hby d9_5) (fun _ _ => ⟨rfl, e3, (by decide : 0 + 0 ≤ _), (by decide : 0 + 0 ≤ _)⟩)
  dsimp only [Pt.U, Pt.locs, Pt.cells, Pt.slots] at X8 l8 y8 z8 st8 hQ8
  subst l8 y8 z8
  obtain ⟨rfl, Nq8, e8⟩ := hQ8
  have N8 := Fr.app N0 Nq8
  obtain ⟨fs, hr, hrun, hended, hW, hsame⟩ := X8.leave (v := some (.int 0)) (fun h => by rw [Bd.returns] at h; cases h)
  refine ⟨_, _, castTop (ef_grL3_2 m pR1) ?_, hrun, hended, _, _, rfl, ?_, ⟨_, rfl⟩, hW, hsame.mono (by decide) (by decide)⟩
  · show oS p e below s₁ m 0 #[.val (.ref pR1), .val (.int 3), .unset] [] _
    refine XS.aloadN X0.here hx rfl (hb hby d9_0) rfl rfl ?_
    refine st3 _ ?_
    refine XS.iloadN X3.here hx rfl (hb hby d9_4) rfl ?_
    refine st8.trans ?_
    refine XS.istoreN X8.here hx rfl (hb hby d9_8) rfl (l' := #[.val (.ref pR1), .val (.int 3), .val (.int pI804)]) rfl ?_
    refine XS.iloadN X8.here hx rfl (hb hby d9_9) rfl ?_
    show oS p e below T8 m 10 #[.val (.ref pR1), .val (.int 3), .val (.int pI804)] [(.int pI804)] _
    refine XS.bipush X8.here hx rfl (hb hby d9_10) ?_
    refine XS.icmpNo X8.here hx rfl (hb hby d9_12) rfl (feq hc12).1 ?_
    refine XS.iloadN X8.here hx rfl (hb hby d9_15) rfl ?_
    refine XS.bipush X8.here hx rfl (hb hby d9_16) ?_
    refine XS.icmpYes X8.here hx rfl (pc0 := 18) (pc' := 25) rfl (hb hby d9_18) rfl (feq hc18).2 (by decide) (by decide) ?_
    refine XS.iconst X8.here hx rfl (hb hby d9_25) ?_
    show oS p e below T8 m 26 #[.val (.ref pR1), .val (.int 3), .val (.int pI804)] [(.int 0)] _
    exact retN X8 hx (t := .boolean) Bd.returns (by simp) (hb hby d9_26) hr
  · show QgrL3 Z pR1 pR2 pI4 pR5 pI801 pI802 pI803 pI804 pK6 pV7 h0 n0 _ T8.heap _
    rw [e8]
    exact ⟨(by simp [own_green, hc12, hc18]), N8, rfl⟩
theorem grL3 (l : Launch) (Z : State) (a0 : Array Value) (hw : ∀ d ∈ tables_1, d.before a0 Z = true) (ws : List Jvm.Cond) (pR1 : Addr) (pR2 : Addr) (pI4 : Int32) (pR5 : Addr) (pI801 : Int32) (pI802 : Int32) (pI803 : Int32) (pI804 : Int32) (pK6 : ClassId) (pV7 : Value) (h0 : Heap) (n0 : Nat) (Z0 : n0 ≤ h0.size) (F_state_pR1 : Fld Z h0 pR1 "com/example/watchful_junction/watchfuljunction/importer/Network$Phase" "state" "Ljava/lang/String;" (.ref pR2)) (S_String_COMPACT_STRINGS : Sta Z h0 "java/lang/String" "COMPACT_STRINGS" "Z" (.int pI4)) (F_coder_pR2 : Fld Z h0 pR2 "java/lang/String" "coder" "B" (.int 0)) (E_pR2 : Exa Z h0 pR2 "java/lang/String") (F_value_pR2 : Fld Z h0 pR2 "java/lang/String" "value" "[B" (.ref pR5)) (V_pR5 : Arv Z h0 pR5 pK6 .byte (4 : Int32) [(.int (pI801.toInt8.toInt32)), (.int (pI802.toInt8.toInt32)), (.int (pI803.toInt8.toInt32)), (.int (pI804.toInt8.toInt32))] (.int (0 : Int32))) (S_Preconditions_SIOOBE_FORMATTER : Sta Z h0 "jdk/internal/util/Preconditions" "SIOOBE_FORMATTER" "Ljava/util/function/BiFunction;" pV7) (hrg : 0 ≤ pI804.toInt ∧ pI804.toInt ≤ 65535) (hl : ¬ ((255 : Int32) < pI804)) (hc5 : ¬ (pI4 = (0 : Int32))) (hc5' : pV7.isRef = true) :
    oM l yN20 prog_18_method_3_code 3 (some .boolean) ws ({ frames := 4, cells := 0, slots := 0, locals := 53 } : Room) #[(.ref pR1), (.int 3)] Z h0 (QgrL3 Z pR1 pR2 pI4 pR5 pI801 pI802 pI803 pI804 pK6 pV7 h0 n0) := by
  by_cases hc12 : pI804 = (71 : Int32)
  · exact grL3_0 l Z a0 hw ws pR1 pR2 pI4 pR5 pI801 pI802 pI803 pI804 pK6 pV7 h0 n0 Z0 F_state_pR1 S_String_COMPACT_STRINGS F_coder_pR2 E_pR2 F_value_pR2 V_pR5 S_Preconditions_SIOOBE_FORMATTER hrg hl hc5 hc5' hc12
  · by_cases hc18 : pI804 = (103 : Int32)
    · exact grL3_1 l Z a0 hw ws pR1 pR2 pI4 pR5 pI801 pI802 pI803 pI804 pK6 pV7 h0 n0 Z0 F_state_pR1 S_String_COMPACT_STRINGS F_coder_pR2 E_pR2 F_value_pR2 V_pR5 S_Preconditions_SIOOBE_FORMATTER hrg hl hc5 hc5' hc12 hc18
    · exact grL3_2 l Z a0 hw ws pR1 pR2 pI4 pR5 pI801 pI802 pI803 pI804 pK6 pV7 h0 n0 Z0 F_state_pR1 S_String_COMPACT_STRINGS F_coder_pR2 E_pR2 F_value_pR2 V_pR5 S_Preconditions_SIOOBE_FORMATTER hrg hl hc5 hc5' hc12 hc18
theorem ef_grU3_0 (m : MethodId) (pR1 : Addr) : entryFrame m #[(.ref pR1), (.int 3)] 3 = mkF m 0 #[.val (.ref pR1), .val (.int 3), .unset] [] := by first | (simp [entryFrame, mkF, argsToLocals, Value.category]; done) | rfl
def QgrU3 (Z : State) (pR1 : Addr) (pR2 : Addr) (pI4 : Int32) (pR5 : Addr) (pI801 : Int32) (pI802 : Int32) (pI803 : Int32) (pI804 : Int32) (pK6 : ClassId) (pV7 : Value) (h0 : Heap) (n0 : Nat) (v : Option Value) (h : Heap) (L : List Loc) : Prop := v = some (.int (own_green pI804)) ∧ Fr n0 L ∧ h = h0
set_option maxRecDepth 65536 in
set_option maxHeartbeats 40000000 in
theorem grU3_0 (l : Launch) (Z : State) (a0 : Array Value) (hw : ∀ d ∈ tables_1, d.before a0 Z = true) (ws : List Jvm.Cond) (pR1 : Addr) (pR2 : Addr) (pI4 : Int32) (pR5 : Addr) (pI801 : Int32) (pI802 : Int32) (pI803 : Int32) (pI804 : Int32) (pK6 : ClassId) (pV7 : Value) (h0 : Heap) (n0 : Nat) (Z0 : n0 ≤ h0.size) (F_state_pR1 : Fld Z h0 pR1 "com/example/watchful_junction/watchfuljunction/importer/Network$Phase" "state" "Ljava/lang/String;" (.ref pR2)) (S_String_COMPACT_STRINGS : Sta Z h0 "java/lang/String" "COMPACT_STRINGS" "Z" (.int pI4)) (F_coder_pR2 : Fld Z h0 pR2 "java/lang/String" "coder" "B" (.int 1)) (E_pR2 : Exa Z h0 pR2 "java/lang/String") (F_value_pR2 : Fld Z h0 pR2 "java/lang/String" "value" "[B" (.ref pR5)) (V_pR5 : Arv Z h0 pR5 pK6 .byte (8 : Int32) [(.int ((pI801 >>> ((0 : Int32) &&& 31)).toInt8.toInt32)), (.int ((pI801 >>> ((8 : Int32) &&& 31)).toInt8.toInt32)), (.int ((pI802 >>> ((0 : Int32) &&& 31)).toInt8.toInt32)), (.int ((pI802 >>> ((8 : Int32) &&& 31)).toInt8.toInt32)), (.int ((pI803 >>> ((0 : Int32) &&& 31)).toInt8.toInt32)), (.int ((pI803 >>> ((8 : Int32) &&& 31)).toInt8.toInt32)), (.int ((pI804 >>> ((0 : Int32) &&& 31)).toInt8.toInt32)), (.int ((pI804 >>> ((8 : Int32) &&& 31)).toInt8.toInt32))] (.int (0 : Int32))) (S_Preconditions_SIOOBE_FORMATTER : Sta Z h0 "jdk/internal/util/Preconditions" "SIOOBE_FORMATTER" "Ljava/util/function/BiFunction;" pV7) (S_StringUTF16__assertionsDisabled : Sta Z h0 "java/lang/StringUTF16" "$assertionsDisabled" "Z" (.int 1)) (S_StringUTF16_HI_BYTE_SHIFT : Sta Z h0 "java/lang/StringUTF16" "HI_BYTE_SHIFT" "I" (.int 0)) (S_StringUTF16_LO_BYTE_SHIFT : Sta Z h0 "java/lang/StringUTF16" "LO_BYTE_SHIFT" "I" (.int 8)) (hrg : 0 ≤ pI804.toInt ∧ pI804.toInt ≤ 65535) (hc5 : ¬ (pI4 = (0 : Int32))) (hc5' : pV7.isRef = true) (hc12 : pI804 = (71 : Int32)) :
    oM l yN20 prog_18_method_3_code 3 (some .boolean) ws ({ frames := 5, cells := 0, slots := 0, locals := 66 } : Room) #[(.ref pR1), (.int 3)] Z h0 (QgrU3 Z pR1 pR2 pI4 pR5 pI801 pI802 pI803 pI804 pK6 pV7 h0 n0) := by
  refine MetFree.of_bodySF (plainFor_of_name pn_5) hisR ?_
  intro p e s m args below meth c s₁ Bd hml0 hP hK
  obtain ⟨rfl, hZ, hh⟩ := hP
  have hx := Bd.exec
  have hby := Bd.bytes
  have hml : c.maxLocals = 3 := hml0
  have hown : s.vm.findClass "com/example/watchful_junction/watchfuljunction/importer/Network$Phase" = some m.cls := findClass_of_methodNamed Bd.named
  have hnm := (name_of_methodNamed Bd.named Bd.method).1
  have X0 : Stand p l e ({ frames := 5, cells := 0, slots := 0, locals := 66 } : Room) s m #[(.ref pR1), (.int 3)] below meth c s₁ [] 0 0 := Stand.of_body Bd
  have e0 : s₁.heap = h0 := by rw [← hh, Bd.state]; rfl
  have N0 := Fr.nil n0
  obtain ⟨T3, X3, e3, st3⟩ := getF X0 hx hZ hown (host := "") (Or.inl (ow hw 43 rfl)) Via.refl e0 F_state_pR1 (g := (mkF m 1 #[.val (.ref pR1), .val (.int 3), .unset] [(.ref pR1)])) rfl rfl (hb hby d9_1)
  obtain ⟨cq8, kq8, q8a, q8b, q8c⟩ := isOf hZ e3 E_pR2
  obtain ⟨_, _, ⟨T8, L8, k8, n8⟩, -, X8, ⟨Lc8, hQ8, l8, y8, z8⟩, st8⟩ := X3.virtualBack hx (y := yN19) (z := yN19) hown (mvT hZ (ow hw 50 rfl)) (mvT hZ (ow hw 51 rfl)) (notFace_of_selects (args := #[]) (mvT hZ (ow hw 53 rfl))) (mvT hZ (ow hw 53 rfl)) (mvT hZ (ow hw 52 rfl)) (by decide) (backOf (W := 0) (scaU3 l Z a0 hw [] pR2 pI4 pR5 pI801 pI802 pI803 pI804 pK6 pV7 h0 n0 Z0 S_String_COMPACT_STRINGS F_coder_pR2 E_pR2 F_value_pR2 V_pR5 S_Preconditions_SIOOBE_FORMATTER S_StringUTF16__assertionsDisabled S_StringUTF16_HI_BYTE_SHIFT S_StringUTF16_LO_BYTE_SHIFT hrg hc5 hc5') hZ (ow hw 54 rfl) (ow hw 7 rfl) (by decide) (by decide)) q8a q8c (g := (mkF m 5 #[.val (.ref pR1), .val (.int 3), .unset] [(.int 3), (.ref pR2)])) rfl (by rw [hml]; rfl) (Steps.refl _) (argsL := [(.int 3)]) (rest := []) (lenOf pd_13 rfl) rfl (Nat.le_refl _) (hb hby d9_5) (fun _ _ => ⟨rfl, e3, (by decide : 0 + 0 ≤ _), (by decide : 0 + 0 ≤ _)⟩)
  dsimp only [Pt.U, Pt.locs, Pt.cells, Pt.slots] at X8 l8 y8 z8 st8 hQ8
  subst l8 y8 z8
  obtain ⟨rfl, Nq8, e8⟩ := hQ8
  have N8 := Fr.app N0 Nq8
  obtain ⟨fs, hr, hrun, hended, hW, hsame⟩ := X8.leave (v := some (.int 1)) (fun h => by rw [Bd.returns] at h; cases h)
  refine ⟨_, _, castTop (ef_grU3_0 m pR1) ?_, hrun, hended, _, _, rfl, ?_, ⟨_, rfl⟩, hW, hsame.mono (by decide) (by decide)⟩
  · show oS p e below s₁ m 0 #[.val (.ref pR1), .val (.int 3), .unset] [] _
    refine XS.aloadN X0.here hx rfl (hb hby d9_0) rfl rfl ?_
    refine st3 _ ?_
    refine XS.iloadN X3.here hx rfl (hb hby d9_4) rfl ?_
    refine st8.trans ?_
    refine XS.istoreN X8.here hx rfl (hb hby d9_8) rfl (l' := #[.val (.ref pR1), .val (.int 3), .val (.int pI804)]) rfl ?_
    refine XS.iloadN X8.here hx rfl (hb hby d9_9) rfl ?_
    show oS p e below T8 m 10 #[.val (.ref pR1), .val (.int 3), .val (.int pI804)] [(.int pI804)] _
    refine XS.bipush X8.here hx rfl (hb hby d9_10) ?_
    refine XS.icmpYes X8.here hx rfl (pc0 := 12) (pc' := 21) rfl (hb hby d9_12) rfl (teq hc12).1 (by decide) (by decide) ?_
    refine XS.iconst X8.here hx rfl (hb hby d9_21) ?_
    refine XS.goto X8.here hx rfl (pc0 := 22) (pc' := 26) rfl (hb hby d9_22) (by decide) (by decide) ?_
    exact retN X8 hx (t := .boolean) Bd.returns (by simp) (hb hby d9_26) hr
  · show QgrU3 Z pR1 pR2 pI4 pR5 pI801 pI802 pI803 pI804 pK6 pV7 h0 n0 _ T8.heap _
    rw [e8]
    exact ⟨(by simp [own_green, hc12]), N8, rfl⟩
theorem ef_grU3_1 (m : MethodId) (pR1 : Addr) : entryFrame m #[(.ref pR1), (.int 3)] 3 = mkF m 0 #[.val (.ref pR1), .val (.int 3), .unset] [] := by first | (simp [entryFrame, mkF, argsToLocals, Value.category]; done) | rfl
set_option maxRecDepth 65536 in
set_option maxHeartbeats 40000000 in
theorem grU3_1 (l : Launch) (Z : State) (a0 : Array Value) (hw : ∀ d ∈ tables_1, d.before a0 Z = true) (ws : List Jvm.Cond) (pR1 : Addr) (pR2 : Addr) (pI4 : Int32) (pR5 : Addr) (pI801 : Int32) (pI802 : Int32) (pI803 : Int32) (pI804 : Int32) (pK6 : ClassId) (pV7 : Value) (h0 : Heap) (n0 : Nat) (Z0 : n0 ≤ h0.size) (F_state_pR1 : Fld Z h0 pR1 "com/example/watchful_junction/watchfuljunction/importer/Network$Phase" "state" "Ljava/lang/String;" (.ref pR2)) (S_String_COMPACT_STRINGS : Sta Z h0 "java/lang/String" "COMPACT_STRINGS" "Z" (.int pI4)) (F_coder_pR2 : Fld Z h0 pR2 "java/lang/String" "coder" "B" (.int 1)) (E_pR2 : Exa Z h0 pR2 "java/lang/String") (F_value_pR2 : Fld Z h0 pR2 "java/lang/String" "value" "[B" (.ref pR5)) (V_pR5 : Arv Z h0 pR5 pK6 .byte (8 : Int32) [(.int ((pI801 >>> ((0 : Int32) &&& 31)).toInt8.toInt32)), (.int ((pI801 >>> ((8 : Int32) &&& 31)).toInt8.toInt32)), (.int ((pI802 >>> ((0 : Int32) &&& 31)).toInt8.toInt32)), (.int ((pI802 >>> ((8 : Int32) &&& 31)).toInt8.toInt32)), (.int ((pI803 >>> ((0 : Int32) &&& 31)).toInt8.toInt32)), (.int ((pI803 >>> ((8 : Int32) &&& 31)).toInt8.toInt32)), (.int ((pI804 >>> ((0 : Int32) &&& 31)).toInt8.toInt32)), (.int ((pI804 >>> ((8 : Int32) &&& 31)).toInt8.toInt32))] (.int (0 : Int32))) (S_Preconditions_SIOOBE_FORMATTER : Sta Z h0 "jdk/internal/util/Preconditions" "SIOOBE_FORMATTER" "Ljava/util/function/BiFunction;" pV7) (S_StringUTF16__assertionsDisabled : Sta Z h0 "java/lang/StringUTF16" "$assertionsDisabled" "Z" (.int 1)) (S_StringUTF16_HI_BYTE_SHIFT : Sta Z h0 "java/lang/StringUTF16" "HI_BYTE_SHIFT" "I" (.int 0)) (S_StringUTF16_LO_BYTE_SHIFT : Sta Z h0 "java/lang/StringUTF16" "LO_BYTE_SHIFT" "I" (.int 8)) (hrg : 0 ≤ pI804.toInt ∧ pI804.toInt ≤ 65535) (hc5 : ¬ (pI4 = (0 : Int32))) (hc5' : pV7.isRef = true) (hc12 : ¬ (pI804 = (71 : Int32))) (hc18 : pI804 = (103 : Int32)) :
    oM l yN20 prog_18_method_3_code 3 (some .boolean) ws ({ frames := 5, cells := 0, slots := 0, locals := 66 } : Room) #[(.ref pR1), (.int 3)] Z h0 (QgrU3 Z pR1 pR2 pI4 pR5 pI801 pI802 pI803 pI804 pK6 pV7 h0 n0) := by
  refine MetFree.of_bodySF (plainFor_of_name pn_5) hisR ?_
  intro p e s m args below meth c s₁ Bd hml0 hP hK
  obtain ⟨rfl, hZ, hh⟩ := hP
  have hx := Bd.exec
  have hby := Bd.bytes
  have hml : c.maxLocals = 3 := hml0
  have hown : s.vm.findClass "com/example/watchful_junction/watchfuljunction/importer/Network$Phase" = some m.cls := findClass_of_methodNamed Bd.named
  have hnm := (name_of_methodNamed Bd.named Bd.method).1
  have X0 : Stand p l e ({ frames := 5, cells := 0, slots := 0, locals := 66 } : Room) s m #[(.ref pR1), (.int 3)] below meth c s₁ [] 0 0 := Stand.of_body Bd
  have e0 : s₁.heap = h0 := by rw [← hh, Bd.state]; rfl
  have N0 := Fr.nil n0
  obtain ⟨T3, X3, e3, st3⟩ := getF X0 hx hZ hown (host := "") (Or.inl (ow hw 43 rfl)) Via.refl e0 F_state_pR1 (g := (mkF m 1 #[.val (.ref pR1), .val (.int 3), .unset] [(.ref pR1)])) rfl rfl (hb hby d9_1)
  obtain ⟨cq8, kq8, q8a, q8b, q8c⟩ := isOf hZ e3 E_pR2
  obtain ⟨_, _, ⟨T8, L8, k8, n8⟩, -, X8, ⟨Lc8, hQ8, l8, y8, z8⟩, st8⟩ := X3.virtualBack hx (y := yN19) (z := yN19) hown (mvT hZ (ow hw 50 rfl)) (mvT hZ (ow hw 51 rfl)) (notFace_of_selects (args := #[]) (mvT hZ (ow hw 53 rfl))) (mvT hZ (ow hw 53 rfl)) (mvT hZ (ow hw 52 rfl)) (by decide) (backOf (W := 0) (scaU3 l Z a0 hw [] pR2 pI4 pR5 pI801 pI802 pI803 pI804 pK6 pV7 h0 n0 Z0 S_String_COMPACT_STRINGS F_coder_pR2 E_pR2 F_value_pR2 V_pR5 S_Preconditions_SIOOBE_FORMATTER S_StringUTF16__assertionsDisabled S_StringUTF16_HI_BYTE_SHIFT S_StringUTF16_LO_BYTE_SHIFT hrg hc5 hc5') hZ (ow hw 54 rfl) (ow hw 7 rfl) (by decide) (by decide)) q8a q8c (g := (mkF m 5 #[.val (.ref pR1), .val (.int 3), .unset] [(.int 3), (.ref pR2)])) rfl (by rw [hml]; rfl) (Steps.refl _) (argsL := [(.int 3)]) (rest := []) (lenOf pd_13 rfl) rfl (Nat.le_refl _) (hb hby d9_5) (fun _ _ => ⟨rfl, e3, (by decide : 0 + 0 ≤ _), (by decide : 0 + 0 ≤ _)⟩)
  dsimp only [Pt.U, Pt.locs, Pt.cells, Pt.slots] at X8 l8 y8 z8 st8 hQ8
  subst l8 y8 z8
  obtain ⟨rfl, Nq8, e8⟩ := hQ8
  have N8 := Fr.app N0 Nq8
  obtain ⟨fs, hr, hrun, hended, hW, hsame⟩ := X8.leave (v := some (.int 1)) (fun h => by rw [Bd.returns] at h; cases h)
  refine ⟨_, _, castTop (ef_grU3_1 m pR1) ?_, hrun, hended, _, _, rfl, ?_, ⟨_, rfl⟩, hW, hsame.mono (by decide) (by decide)⟩
  · show oS p e below s₁ m 0 #[.val (.ref pR1), .val (.int 3), .unset] [] _
    refine XS.aloadN X0.here hx rfl (hb hby d9_0) rfl rfl ?_
    refine st3 _ ?_
    refine XS.iloadN X3.here hx rfl (hb hby d9_4) rfl ?_
    refine st8.trans ?_
    refine XS.istoreN X8.here hx rfl (hb hby d9_8) rfl (l' := #[.val (.ref pR1), .val (.int 3), .val (.int pI804)]) rfl ?_
    refine XS.iloadN X8.here hx rfl (hb hby d9_9) rfl ?_
    show oS p e below T8 m 10 #[.val (.ref pR1), .val (.int 3), .val (.int pI804)] [(.int pI804)] _
    refine XS.bipush X8.here hx rfl (hb hby d9_10) ?_
    refine XS.icmpNo X8.here hx rfl (hb hby d9_12) rfl (feq hc12).1 ?_
    refine XS.iloadN X8.here hx rfl (hb hby d9_15) rfl ?_
    refine XS.bipush X8.here hx rfl (hb hby d9_16) ?_
    refine XS.icmpNo X8.here hx rfl (hb hby d9_18) rfl (teq hc18).2 ?_
    refine XS.iconst X8.here hx rfl (hb hby d9_21) ?_
    show oS p e below T8 m 22 #[.val (.ref pR1), .val (.int 3), .val (.int pI804)] [(.int 1)] _
    refine XS.goto X8.here hx rfl (pc0 := 22) (pc' := 26) rfl (hb hby d9_22) (by decide) (by decide) ?_
    exact retN X8 hx (t := .boolean) Bd.returns (by simp) (hb hby d9_26) hr
  · show QgrU3 Z pR1 pR2 pI4 pR5 pI801 pI802 pI803 pI804 pK6 pV7 h0 n0 _ T8.heap _
    rw [e8]
    exact ⟨(by simp [own_green, hc18]), N8, rfl⟩
theorem ef_grU3_2 (m : MethodId) (pR1 : Addr) : entryFrame m #[(.ref pR1), (.int 3)] 3 = mkF m 0 #[.val (.ref pR1), .val (.int 3), .unset] [] := by first | (simp [entryFrame, mkF, argsToLocals, Value.category]; done) | rfl
set_option maxRecDepth 65536 in
set_option maxHeartbeats 40000000 in
theorem grU3_2 (l : Launch) (Z : State) (a0 : Array Value) (hw : ∀ d ∈ tables_1, d.before a0 Z = true) (ws : List Jvm.Cond) (pR1 : Addr) (pR2 : Addr) (pI4 : Int32) (pR5 : Addr) (pI801 : Int32) (pI802 : Int32) (pI803 : Int32) (pI804 : Int32) (pK6 : ClassId) (pV7 : Value) (h0 : Heap) (n0 : Nat) (Z0 : n0 ≤ h0.size) (F_state_pR1 : Fld Z h0 pR1 "com/example/watchful_junction/watchfuljunction/importer/Network$Phase" "state" "Ljava/lang/String;" (.ref pR2)) (S_String_COMPACT_STRINGS : Sta Z h0 "java/lang/String" "COMPACT_STRINGS" "Z" (.int pI4)) (F_coder_pR2 : Fld Z h0 pR2 "java/lang/String" "coder" "B" (.int 1)) (E_pR2 : Exa Z h0 pR2 "java/lang/String") (F_value_pR2 : Fld Z h0 pR2 "java/lang/String" "value" "[B" (.ref pR5)) (V_pR5 : Arv Z h0 pR5 pK6 .byte (8 : Int32) [(.int ((pI801 >>> ((0 : Int32) &&& 31)).toInt8.toInt32)), (.int ((pI801 >>> ((8 : Int32) &&& 31)).toInt8.toInt32)), (.int ((pI802 >>> ((0 : Int32) &&& 31)).toInt8.toInt32)), (.int ((pI802 >>> ((8 : Int32) &&& 31)).toInt8.toInt32)), (.int ((pI803 >>> ((0 : Int32) &&& 31)).toInt8.toInt32)), (.int ((pI803 >>> ((8 : Int32) &&& 31)).toInt8.toInt32)), (.int ((pI804 >>> ((0 : Int32) &&& 31)).toInt8.toInt32)), (.int ((pI804 >>> ((8 : Int32) &&& 31)).toInt8.toInt32))] (.int (0 : Int32))) (S_Preconditions_SIOOBE_FORMATTER : Sta Z h0 "jdk/internal/util/Preconditions" "SIOOBE_FORMATTER" "Ljava/util/function/BiFunction;" pV7) (S_StringUTF16__assertionsDisabled : Sta Z h0 "java/lang/StringUTF16" "$assertionsDisabled" "Z" (.int 1)) (S_StringUTF16_HI_BYTE_SHIFT : Sta Z h0 "java/lang/StringUTF16" "HI_BYTE_SHIFT" "I" (.int 0)) (S_StringUTF16_LO_BYTE_SHIFT : Sta Z h0 "java/lang/StringUTF16" "LO_BYTE_SHIFT" "I" (.int 8)) (hrg : 0 ≤ pI804.toInt ∧ pI804.toInt ≤ 65535) (hc5 : ¬ (pI4 = (0 : Int32))) (hc5' : pV7.isRef = true) (hc12 : ¬ (pI804 = (71 : Int32))) (hc18 : ¬ (pI804 = (103 : Int32))) :
    oM l yN20 prog_18_method_3_code 3 (some .boolean) ws ({ frames := 5, cells := 0, slots := 0, locals := 66 } : Room) #[(.ref pR1), (.int 3)] Z h0 (QgrU3 Z pR1 pR2 pI4 pR5 pI801 pI802 pI803 pI804 pK6 pV7 h0 n0) := by
  refine MetFree.of_bodySF (plainFor_of_name pn_5) hisR ?_
  intro p e s m args below meth c s₁ Bd hml0 hP hK
  obtain ⟨rfl, hZ, hh⟩ := hP
  have hx := Bd.exec
  have hby := Bd.bytes
  have hml : c.maxLocals = 3 := hml0
  have hown : s.vm.findClass "com/example/watchful_junction/watchfuljunction/importer/Network$Phase" = some m.cls := findClass_of_methodNamed Bd.named
  have hnm := (name_of_methodNamed Bd.named Bd.method).1
  have X0 : Stand p l e ({ frames := 5, cells := 0, slots := 0, locals := 66 } : Room) s m #[(.ref pR1), (.int 3)] below meth c s₁ [] 0 0 := Stand.of_body Bd
  have e0 : s₁.heap = h0 := by rw [← hh, Bd.state]; rfl
  have N0 := Fr.nil n0
  obtain ⟨T3, X3, e3, st3⟩ := getF X0 hx hZ hown (host := "") (Or.inl (ow hw 43 rfl)) Via.refl e0 F_state_pR1 (g := (mkF m 1 #[.val (.ref pR1), .val (.int 3), .unset] [(.ref pR1)])) rfl rfl (hb hby d9_1)
  obtain ⟨cq8, kq8, q8a, q8b, q8c⟩ := isOf hZ e3 E_pR2
  obtain ⟨_, _, ⟨T8, L8, k8, n8⟩, -, X8, ⟨Lc8, hQ8, l8, y8, z8⟩, st8⟩ := X3.virtualBack hx (y := yN19) (z := yN19) hown (mvT hZ (ow hw 50 rfl)) (mvT hZ (ow hw 51 rfl)) (notFace_of_selects (args := #[]) (mvT hZ (ow hw 53 rfl))) (mvT hZ (ow hw 53 rfl)) (mvT hZ (ow hw 52 rfl)) (by decide) (backOf (W := 0) (scaU3 l Z a0 hw [] pR2 pI4 pR5 pI801 pI802 pI803 pI804 pK6 pV7 h0 n0 Z0 S_String_COMPACT_STRINGS F_coder_pR2 E_pR2 F_value_pR2 V_pR5 S_Preconditions_SIOOBE_FORMATTER S_StringUTF16__assertionsDisabled S_StringUTF16_HI_BYTE_SHIFT S_StringUTF16_LO_BYTE_SHIFT hrg hc5 hc5') hZ (ow hw 54 rfl) (ow hw 7 rfl) (by decide) (by decide)) q8a q8c (g := (mkF m 5 #[.val (.ref pR1), .val (.int 3), .unset] [(.int 3), (.ref pR2)])) rfl (by rw [hml]; rfl) (Steps.refl _) (argsL := [(.int 3)]) (rest := []) (lenOf pd_13 rfl) rfl (Nat.le_refl _) (hb hby d9_5) (fun _ _ => ⟨rfl, e3, (by decide : 0 + 0 ≤ _), (by decide : 0 + 0 ≤ _)⟩)
  dsimp only [Pt.U, Pt.locs, Pt.cells, Pt.slots] at X8 l8 y8 z8 st8 hQ8
  subst l8 y8 z8
  obtain ⟨rfl, Nq8, e8⟩ := hQ8
  have N8 := Fr.app N0 Nq8
  obtain ⟨fs, hr, hrun, hended, hW, hsame⟩ := X8.leave (v := some (.int 0)) (fun h => by rw [Bd.returns] at h; cases h)
  refine ⟨_, _, castTop (ef_grU3_2 m pR1) ?_, hrun, hended, _, _, rfl, ?_, ⟨_, rfl⟩, hW, hsame.mono (by decide) (by decide)⟩
  · show oS p e below s₁ m 0 #[.val (.ref pR1), .val (.int 3), .unset] [] _
    refine XS.aloadN X0.here hx rfl (hb hby d9_0) rfl rfl ?_
    refine st3 _ ?_
    refine XS.iloadN X3.here hx rfl (hb hby d9_4) rfl ?_
    refine st8.trans ?_
    refine XS.istoreN X8.here hx rfl (hb hby d9_8) rfl (l' := #[.val (.ref pR1), .val (.int 3), .val (.int pI804)]) rfl ?_
    refine XS.iloadN X8.here hx rfl (hb hby d9_9) rfl ?_
    show oS p e below T8 m 10 #[.val (.ref pR1), .val (.int 3), .val (.int pI804)] [(.int pI804)] _
    refine XS.bipush X8.here hx rfl (hb hby d9_10) ?_
    refine XS.icmpNo X8.here hx rfl (hb hby d9_12) rfl (feq hc12).1 ?_
    refine XS.iloadN X8.here hx rfl (hb hby d9_15) rfl ?_
    refine XS.bipush X8.here hx rfl (hb hby d9_16) ?_
    refine XS.icmpYes X8.here hx rfl (pc0 := 18) (pc' := 25) rfl (hb hby d9_18) rfl (feq hc18).2 (by decide) (by decide) ?_
    refine XS.iconst X8.here hx rfl (hb hby d9_25) ?_
    show oS p e below T8 m 26 #[.val (.ref pR1), .val (.int 3), .val (.int pI804)] [(.int 0)] _
    exact retN X8 hx (t := .boolean) Bd.returns (by simp) (hb hby d9_26) hr
  · show QgrU3 Z pR1 pR2 pI4 pR5 pI801 pI802 pI803 pI804 pK6 pV7 h0 n0 _ T8.heap _
    rw [e8]
    exact ⟨(by simp [own_green, hc12, hc18]), N8, rfl⟩
theorem grU3 (l : Launch) (Z : State) (a0 : Array Value) (hw : ∀ d ∈ tables_1, d.before a0 Z = true) (ws : List Jvm.Cond) (pR1 : Addr) (pR2 : Addr) (pI4 : Int32) (pR5 : Addr) (pI801 : Int32) (pI802 : Int32) (pI803 : Int32) (pI804 : Int32) (pK6 : ClassId) (pV7 : Value) (h0 : Heap) (n0 : Nat) (Z0 : n0 ≤ h0.size) (F_state_pR1 : Fld Z h0 pR1 "com/example/watchful_junction/watchfuljunction/importer/Network$Phase" "state" "Ljava/lang/String;" (.ref pR2)) (S_String_COMPACT_STRINGS : Sta Z h0 "java/lang/String" "COMPACT_STRINGS" "Z" (.int pI4)) (F_coder_pR2 : Fld Z h0 pR2 "java/lang/String" "coder" "B" (.int 1)) (E_pR2 : Exa Z h0 pR2 "java/lang/String") (F_value_pR2 : Fld Z h0 pR2 "java/lang/String" "value" "[B" (.ref pR5)) (V_pR5 : Arv Z h0 pR5 pK6 .byte (8 : Int32) [(.int ((pI801 >>> ((0 : Int32) &&& 31)).toInt8.toInt32)), (.int ((pI801 >>> ((8 : Int32) &&& 31)).toInt8.toInt32)), (.int ((pI802 >>> ((0 : Int32) &&& 31)).toInt8.toInt32)), (.int ((pI802 >>> ((8 : Int32) &&& 31)).toInt8.toInt32)), (.int ((pI803 >>> ((0 : Int32) &&& 31)).toInt8.toInt32)), (.int ((pI803 >>> ((8 : Int32) &&& 31)).toInt8.toInt32)), (.int ((pI804 >>> ((0 : Int32) &&& 31)).toInt8.toInt32)), (.int ((pI804 >>> ((8 : Int32) &&& 31)).toInt8.toInt32))] (.int (0 : Int32))) (S_Preconditions_SIOOBE_FORMATTER : Sta Z h0 "jdk/internal/util/Preconditions" "SIOOBE_FORMATTER" "Ljava/util/function/BiFunction;" pV7) (S_StringUTF16__assertionsDisabled : Sta Z h0 "java/lang/StringUTF16" "$assertionsDisabled" "Z" (.int 1)) (S_StringUTF16_HI_BYTE_SHIFT : Sta Z h0 "java/lang/StringUTF16" "HI_BYTE_SHIFT" "I" (.int 0)) (S_StringUTF16_LO_BYTE_SHIFT : Sta Z h0 "java/lang/StringUTF16" "LO_BYTE_SHIFT" "I" (.int 8)) (hrg : 0 ≤ pI804.toInt ∧ pI804.toInt ≤ 65535) (hc5 : ¬ (pI4 = (0 : Int32))) (hc5' : pV7.isRef = true) :
    oM l yN20 prog_18_method_3_code 3 (some .boolean) ws ({ frames := 5, cells := 0, slots := 0, locals := 66 } : Room) #[(.ref pR1), (.int 3)] Z h0 (QgrU3 Z pR1 pR2 pI4 pR5 pI801 pI802 pI803 pI804 pK6 pV7 h0 n0) := by
  by_cases hc12 : pI804 = (71 : Int32)
  · exact grU3_0 l Z a0 hw ws pR1 pR2 pI4 pR5 pI801 pI802 pI803 pI804 pK6 pV7 h0 n0 Z0 F_state_pR1 S_String_COMPACT_STRINGS F_coder_pR2 E_pR2 F_value_pR2 V_pR5 S_Preconditions_SIOOBE_FORMATTER S_StringUTF16__assertionsDisabled S_StringUTF16_HI_BYTE_SHIFT S_StringUTF16_LO_BYTE_SHIFT hrg hc5 hc5' hc12
  · by_cases hc18 : pI804 = (103 : Int32)
    · exact grU3_1 l Z a0 hw ws pR1 pR2 pI4 pR5 pI801 pI802 pI803 pI804 pK6 pV7 h0 n0 Z0 F_state_pR1 S_String_COMPACT_STRINGS F_coder_pR2 E_pR2 F_value_pR2 V_pR5 S_Preconditions_SIOOBE_FORMATTER S_StringUTF16__assertionsDisabled S_StringUTF16_HI_BYTE_SHIFT S_StringUTF16_LO_BYTE_SHIFT hrg hc5 hc5' hc12 hc18
    · exact grU3_2 l Z a0 hw ws pR1 pR2 pI4 pR5 pI801 pI802 pI803 pI804 pK6 pV7 h0 n0 Z0 F_state_pR1 S_String_COMPACT_STRINGS F_coder_pR2 E_pR2 F_value_pR2 V_pR5 S_Preconditions_SIOOBE_FORMATTER S_StringUTF16__assertionsDisabled S_StringUTF16_HI_BYTE_SHIFT S_StringUTF16_LO_BYTE_SHIFT hrg hc5 hc5' hc12 hc18
theorem d8_0 : decode prog_18_method_1_code 0 = .ok (.aload_n 0, 1) := by decide +kernel
theorem d8_1 : decode prog_18_method_1_code 1 = .ok (.invokespecial 1, 3) := by decide +kernel
theorem d8_4 : decode prog_18_method_1_code 4 = .ok (.aload_n 0, 1) := by decide +kernel
theorem d8_5 : decode prog_18_method_1_code 5 = .ok (.iload_n 1, 1) := by decide +kernel
theorem d8_6 : decode prog_18_method_1_code 6 = .ok (.putfield 7, 3) := by decide +kernel
theorem d8_9 : decode prog_18_method_1_code 9 = .ok (.aload_n 0, 1) := by decide +kernel
theorem d8_10 : decode prog_18_method_1_code 10 = .ok (.aload_n 2, 1) := by decide +kernel
theorem d8_11 : decode prog_18_method_1_code 11 = .ok (.putfield 13, 3) := by decide +kernel
theorem d8_14 : decode prog_18_method_1_code 14 = .ok (.return_, 1) := by decide +kernel
theorem ef_phI (m : MethodId) (pR1 : Addr) (pI2 : Int32) (pR3 : Addr) : entryFrame m #[(.ref pR1), (.int pI2), (.ref pR3)] 3 = mkF m 0 #[.val (.ref pR1), .val (.int pI2), .val (.ref pR3)] [] := by first | (simp [entryFrame, mkF, argsToLocals, Value.category]; done) | rfl
def QphI (Z : State) (pR1 : Addr) (pI2 : Int32) (pR3 : Addr) (h0 : Heap) (n0 : Nat) (v : Option Value) (h : Heap) (L : List Loc) : Prop := v = none ∧ Fr n0 L ∧ Keep h0 h [pR1] ∧ Exa Z h pR1 "com/example/watchful_junction/watchfuljunction/importer/Network$Phase" ∧ Fld Z h pR1 "com/example/watchful_junction/watchfuljunction/importer/Network$Phase" "durationS" "I" (.int pI2) ∧ Fld Z h pR1 "com/example/watchful_junction/watchfuljunction/importer/Network$Phase" "state" "Ljava/lang/String;" (.ref pR3)
set_option maxRecDepth 65536 in
set_option maxHeartbeats 40000000 in
theorem phI (l : Launch) (Z : State) (a0 : Array Value) (hw : ∀ d ∈ tables_1, d.before a0 Z = true) (ws : List Jvm.Cond) (pR1 : Addr) (pI2 : Int32) (pR3 : Addr) (h0 : Heap) (n0 : Nat) (Z0 : n0 ≤ h0.size) (E_pR1 : Exa Z h0 pR1 "com/example/watchful_junction/watchfuljunction/importer/Network$Phase") (F_durationS_pR1 : Fld Z h0 pR1 "com/example/watchful_junction/watchfuljunction/importer/Network$Phase" "durationS" "I" (.int 0)) (g_pR1 : n0 ≤ pR1) (F_state_pR1 : Fld Z h0 pR1 "com/example/watchful_junction/watchfuljunction/importer/Network$Phase" "state" "Ljava/lang/String;" .null) :
    oM l yN21 prog_18_method_1_code 3 none ws ({ frames := 1, cells := 0, slots := 0, locals := 12 } : Room) #[(.ref pR1), (.int pI2), (.ref pR3)] Z h0 (QphI Z pR1 pI2 pR3 h0 n0) := by
  refine MetFree.of_bodySF (plainFor_of_name pn_5) hisR ?_
  intro p e s m args below meth c s₁ Bd hml0 hP hK
  obtain ⟨rfl, hZ, hh⟩ := hP
  have hx := Bd.exec
  have hby := Bd.bytes
  have hml : c.maxLocals = 3 := hml0
  have hown : s.vm.findClass "com/example/watchful_junction/watchfuljunction/importer/Network$Phase" = some m.cls := findClass_of_methodNamed Bd.named
  have hnm := (name_of_methodNamed Bd.named Bd.method).1
  have X0 : Stand p l e ({ frames := 1, cells := 0, slots := 0, locals := 12 } : Room) s m #[(.ref pR1), (.int pI2), (.ref pR3)] below meth c s₁ [] 0 0 := Stand.of_body Bd
  have e0 : s₁.heap = h0 := by rw [← hh, Bd.state]; rfl
  have N0 := Fr.nil n0
  obtain ⟨T4, X4, e4, st4⟩ := initO X0 hx hZ hown (ow hw 40 rfl) (ow hw 16 rfl) (ow hw 17 rfl) e0 (g := (mkF m 1 #[.val (.ref pR1), .val (.int pI2), .val (.ref pR3)] [(.ref pR1)])) rfl (by rw [hml]; rfl) rfl (hb hby d8_1) (by decide) (W := 0) (Nat.le_refl _) (by decide)
  obtain ⟨T5, h5, X5, e5, W5, st5⟩ := putF X4 hx hZ hown (host := "") (Or.inl (ow hw 41 rfl)) Via.refl e4 F_durationS_pR1 E_pR1 (Or.inr ⟨(ow hw 42 rfl), rfl, hnm⟩) (ow hw 35 rfl) (ty := .int) (by decide) rfl rfl (g := (mkF m 6 #[.val (.ref pR1), .val (.int pI2), .val (.ref pR3)] [(.int pI2), (.ref pR1)])) rfl rfl (hb hby d8_6)
  have K6 : Keep h0 h5 [pR1] := (Keep.refl h0 [pR1]).wr W5 (Or.inl (List.mem_of_getElem? (i := 0) rfl))
  have Z7 : n0 ≤ h5.size := (Nat.le_trans Z0 (Keep.of_wr W5).1)
  have N5 := Fr.snoc X5 N0 g_pR1
  obtain ⟨Lh5, X5, N5⟩ := own_hide X5 N5
  have F5 : Fld Z h5 pR1 "com/example/watchful_junction/watchfuljunction/importer/Network$Phase" "durationS" "I" (.int pI2) := Fld.same W5 F_durationS_pR1
  have c8 : Fld Z h5 pR1 "com/example/watchful_junction/watchfuljunction/importer/Network$Phase" "state" "Ljava/lang/String;" .null := F_state_pR1.other W5 (Or.inr (slot_ne (Or.inr (ow hw 44 rfl)) (Or.inr (ow hw 42 rfl)) (by decide) (t := (.object "java/lang/String")) (t' := .int) (by decide) (by decide)))
  have c9 : Exa Z h5 pR1 "com/example/watchful_junction/watchfuljunction/importer/Network$Phase" := E_pR1.wr W5
  obtain ⟨T10, h10, X10, e10, W10, st10⟩ := putF X5 hx hZ hown (host := "") (Or.inl (ow hw 43 rfl)) Via.refl e5 c8 c9 (Or.inr ⟨(ow hw 44 rfl), rfl, hnm⟩) (ow hw 35 rfl) (ty := (.object "java/lang/String")) (by decide) rfl rfl (g := (mkF m 11 #[.val (.ref pR1), .val (.int pI2), .val (.ref pR3)] [(.ref pR3), (.ref pR1)])) rfl rfl (hb hby d8_11)
  have K11 : Keep h0 h10 [pR1] := K6.wr W10 (Or.inl (List.mem_of_getElem? (i := 0) rfl))
  have Z12 : n0 ≤ h10.size := (Nat.le_trans Z7 (Keep.of_wr W10).1)
  have N10 := Fr.snoc X10 N5 g_pR1
  obtain ⟨Lh10, X10, N10⟩ := own_hide X10 N10
  have F10 : Fld Z h10 pR1 "com/example/watchful_junction/watchfuljunction/importer/Network$Phase" "state" "Ljava/lang/String;" (.ref pR3) := Fld.same W10 c8
  have c13 : Exa Z h10 pR1 "com/example/watchful_junction/watchfuljunction/importer/Network$Phase" := c9.wr W10
  have c14 : Fld Z h10 pR1 "com/example/watchful_junction/watchfuljunction/importer/Network$Phase" "durationS" "I" (.int pI2) := F5.other W10 (Or.inr (slot_ne (Or.inr (ow hw 42 rfl)) (Or.inr (ow hw 44 rfl)) (by decide) (t := .int) (t' := (.object "java/lang/String")) (by decide) (by decide)))
  obtain ⟨fs, hr, hrun, hended, hW, hsame⟩ := X10.leave (v := none) (fun _ => rfl)
  refine ⟨_, _, castTop (ef_phI m pR1 pI2 pR3) ?_, hrun, hended, _, _, rfl, ?_, ⟨_, rfl⟩, hW, hsame.mono (by decide) (by decide)⟩
  · show oS p e below s₁ m 0 #[.val (.ref pR1), .val (.int pI2), .val (.ref pR3)] [] _
    refine XS.aloadN X0.here hx rfl (hb hby d8_0) rfl rfl ?_
    refine st4 _ ?_
    refine XS.aloadN X4.here hx rfl (hb hby d8_4) rfl rfl ?_
    refine XS.iloadN X4.here hx rfl (hb hby d8_5) rfl ?_
    refine st5 _ ?_
    refine XS.aloadN X5.here hx rfl (hb hby d8_9) rfl rfl ?_
    show oS p e below T5 m 10 #[.val (.ref pR1), .val (.int pI2), .val (.ref pR3)] [(.ref pR1)] _
    refine XS.aloadN X5.here hx rfl (hb hby d8_10) rfl rfl ?_
    refine st10 _ ?_
    exact X10.returnOut hx Bd.returns (hb hby d8_14) hr
  · show QphI Z pR1 pI2 pR3 h0 n0 _ T10.heap _
    rw [e10]
    exact ⟨rfl, N10, K11, c13, c14, F10⟩
theorem pd_14 : parseMethodDescriptor "([C)V" = some ⟨[(.array .char)], none⟩ := by decide +kernel
theorem pd_15 : parseMethodDescriptor "(ILjava/lang/String;)V" = some ⟨[.int, (.object "java/lang/String")], none⟩ := by decide +kernel
theorem pd_16 : parseMethodDescriptor "(I)Z" = some ⟨[.int], some .boolean⟩ := by decide +kernel
theorem pd_17 : parseMethodDescriptor "(C)Z" = some ⟨[.char], some .boolean⟩ := by decide +kernel
theorem ef_lawL (m : MethodId) (pI1 : Int32) (pI2 : Int32) (pI3 : Int32) (pI4 : Int32) (pI5 : Int32) : entryFrame m #[(.int pI1), (.int pI2), (.int pI3), (.int pI4), (.int pI5)] maxLocals = mkF m 0 #[.val (.int pI1), .val (.int pI2), .val (.int pI3), .val (.int pI4), .val (.int pI5), .unset, .unset, .unset, .unset, .unset, .unset, .unset] [] := by first | (simp [entryFrame, mkF, argsToLocals, Value.category, maxLocals]; done) | rfl
def QlawL (Z : State) (pI1 : Int32) (pI2 : Int32) (pI3 : Int32) (pI4 : Int32) (pI5 : Int32) (pI901 : Int32) (pI902 : Int32) (pI903 : Int32) (pI904 : Int32) (pI40 : Int32) (pV72 : Value) (h0 : Heap) (n0 : Nat) (v : Option Value) (h : Heap) (L : List Loc) : Prop := v = some (.int 1) ∧ Fr n0 L
set_option maxRecDepth 65536 in
set_option maxHeartbeats 40000000 in
theorem lawL (l : Launch) (Z : State) (a0 : Array Value) (hw : ∀ d ∈ tables_1, d.before a0 Z = true) (ws : List Jvm.Cond) (pI1 : Int32) (pI2 : Int32) (pI3 : Int32) (pI4 : Int32) (pI5 : Int32) (pI901 : Int32) (pI902 : Int32) (pI903 : Int32) (pI904 : Int32) (pI40 : Int32) (pV72 : Value) (h0 : Heap) (n0 : Nat) (Z0 : n0 ≤ h0.size) (S_String_COMPACT_STRINGS : Sta Z h0 "java/lang/String" "COMPACT_STRINGS" "Z" (.int pI40)) (S_Preconditions_SIOOBE_FORMATTER : Sta Z h0 "jdk/internal/util/Preconditions" "SIOOBE_FORMATTER" "Ljava/util/function/BiFunction;" pV72) (hr0 : 0 ≤ pI901.toInt ∧ pI901.toInt ≤ 65535) (hr1 : 0 ≤ pI902.toInt ∧ pI902.toInt ≤ 65535) (hr2 : 0 ≤ pI903.toInt ∧ pI903.toInt ≤ 65535) (hr3 : 0 ≤ pI904.toInt ∧ pI904.toInt ≤ 65535) (hl0 : ¬ ((255 : Int32) < pI901)) (hl1 : ¬ ((255 : Int32) < pI902)) (hl2 : ¬ ((255 : Int32) < pI903)) (hl3 : ¬ ((255 : Int32) < pI904)) (hr9 : (own_pick pI1) = pI901) (hr17 : (own_pick pI2) = pI902) (hr25 : (own_pick pI3) = pI903) (hr33 : (own_pick pI4) = pI904) (hc43 : ¬ (pI40 = (0 : Int32))) (hc64 : pV72.isRef = true) :
    oM l x code maxLocals ret ws room_1 #[(.int pI1), (.int pI2), (.int pI3), (.int pI4), (.int pI5)] Z h0 (QlawL Z pI1 pI2 pI3 pI4 pI5 pI901 pI902 pI903 pI904 pI40 pV72 h0 n0) := by
  refine MetFree.of_bodySF (plainFor_of_name pn_0) hisR ?_
  intro p e s m args below meth c s₁ Bd hml0 hP hK
  obtain ⟨rfl, hZ, hh⟩ := hP
  have hx := Bd.exec
  have hby := Bd.bytes
  have hml : c.maxLocals = 12 := hml0
  have hown : s.vm.findClass "com/example/watchful_junction/watchfuljunction/importer/PhaseGreenPinLaw" = some m.cls := findClass_of_methodNamed Bd.named
  have hnm := (name_of_methodNamed Bd.named Bd.method).1
  have X0 : Stand p l e room_1 s m #[(.int pI1), (.int pI2), (.int pI3), (.int pI4), (.int pI5)] below meth c s₁ [] 0 0 := Stand.of_body Bd
  have e0 : s₁.heap = h0 := by rw [← hh, Bd.state]; rfl
  have N0 := Fr.nil n0
  obtain ⟨T6, h6, k6, X6, e6, E6, A6, st6⟩ := newP X0 hx hZ (ow hw 0 rfl) e0 (g := (mkF m 1 #[.val (.int pI1), .val (.int pI2), .val (.int pI3), .val (.int pI4), .val (.int pI5), .unset, .unset, .unset, .unset, .unset, .unset, .unset] [(.int 4)])) rfl (hb hby at_1) rfl (by decide) (cap := 4) (by decide) (by decide) (by decide) (by decide)
  obtain ⟨bR6, g6⟩ : ∃ z, z = h0.size := ⟨_, rfl⟩
  rw [← g6] at A6 st6
  have Z8 : n0 ≤ h6.size := (Nat.le_trans Z0 E6.1)
  have V6 : Arv Z h6 bR6 k6 .char (4 : Int32) [(.int 0), (.int 0), (.int 0), (.int 0)] (.int (0 : Int32)) := (Arv.new A6 (by decide)).pad (pad_rep [] (.int (0 : Int32)) 4)
  obtain ⟨_, _, ⟨T9, L9, k9, n9⟩, -, X9, ⟨Lc9, hQ9, l9, y9, z9⟩, st9⟩ := Jvm.LawKit.callS X6 hx (y := yN0) hown (mvT hZ (ow hw 1 rfl)) (mvT hZ (ow hw 2 rfl)) (mvT hZ (ow hw 3 rfl)) (mvT hZ (ow hw 4 rfl)) (by decide) (backOf (W := 2) (pick l Z a0 hw [] pI1 h6 n0 Z8 ) hZ (ow hw 4 rfl) (ow hw 3 rfl) (by decide) (by decide)) (g := (mkF m 9 #[.val (.int pI1), .val (.int pI2), .val (.int pI3), .val (.int pI4), .val (.int pI5), .val (.ref bR6), .unset, .unset, .unset, .unset, .unset, .unset] [(.int pI1), (.int 0), (.ref bR6)])) rfl (by rw [hml]; rfl) (argsL := [(.int pI1)]) (rest := [(.int 0), (.ref bR6)]) (lenOf pd_13 rfl) rfl (Nat.le_refl _) (hb hby at_9) (fun _ _ => ⟨rfl, e6, (by decide : 1 + 0 ≤ _), (by decide : 4 + 0 ≤ _)⟩)
  dsimp only [Pt.U, Pt.locs, Pt.cells, Pt.slots] at X9 l9 y9 z9 st9 hQ9
  subst l9 y9 z9
  obtain ⟨rfl, Nq9, e9⟩ := hQ9
  have N9 := Fr.app N0 Nq9
  have g10 : n0 ≤ bR6 := Nat.le_trans Z0 (Nat.le_of_eq g6.symm)
  obtain ⟨clq11, Arq11, Akq11, Asq11, Anq11, Ahq11, Agq11⟩ := id V6
  have hin12 : ¬ ((0 : Int32) < 0 ∨ clq11.slots.size ≤ ((0 : Int32)).toNatClampNeg) := inb_of Asq11 ⟨by decide, by decide⟩
  obtain ⟨T13, h13, X13, e13, W13, st13⟩ := stC X9 hx hZ e9 Arq11 (j := (0 : Int32)) hin12 (g := (mkF m 12 #[.val (.int pI1), .val (.int pI2), .val (.int pI3), .val (.int pI4), .val (.int pI5), .val (.ref bR6), .unset, .unset, .unset, .unset, .unset, .unset] [(.int pI901), (.int 0), (.ref bR6)])) rfl rfl (hb hby at_12)
  rw [own_narc hr0] at W13
  have Z15 : n0 ≤ h13.size := (Nat.le_trans Z8 (Keep.of_wr W13).1)
  have N13 := Fr.snoc X13 N9 g10
  obtain ⟨Lh13, X13, N13⟩ := own_hide X13 N13
  have V13 : Arv Z h13 bR6 k6 .char (4 : Int32) [(.int pI901), (.int 0), (.int 0), (.int 0)] (.int (0 : Int32)) := Arv.set Arq11 Akq11 Asq11 Anq11 Ahq11 Agq11 (own_fitc hr0) W13 0 rfl (Nat.le_of_ble_eq_true rfl)
  obtain ⟨_, _, ⟨T16, L16, k16, n16⟩, -, X16, ⟨Lc16, hQ16, l16, y16, z16⟩, st16⟩ := Jvm.LawKit.callS X13 hx (y := yN0) hown (mvT hZ (ow hw 1 rfl)) (mvT hZ (ow hw 2 rfl)) (mvT hZ (ow hw 3 rfl)) (mvT hZ (ow hw 4 rfl)) (by decide) (backOf (W := 2) (pick l Z a0 hw [] pI2 h13 n0 Z15 ) hZ (ow hw 4 rfl) (ow hw 3 rfl) (by decide) (by decide)) (g := (mkF m 17 #[.val (.int pI1), .val (.int pI2), .val (.int pI3), .val (.int pI4), .val (.int pI5), .val (.ref bR6), .unset, .unset, .unset, .unset, .unset, .unset] [(.int pI2), (.int 1), (.ref bR6)])) rfl (by rw [hml]; rfl) (argsL := [(.int pI2)]) (rest := [(.int 1), (.ref bR6)]) (lenOf pd_13 rfl) rfl (Nat.le_refl _) (hb hby at_17) (fun _ _ => ⟨rfl, e13, (by decide : 1 + 0 ≤ _), (by decide : 4 + 0 ≤ _)⟩)
  dsimp only [Pt.U, Pt.locs, Pt.cells, Pt.slots] at X16 l16 y16 z16 st16 hQ16
  subst l16 y16 z16
  obtain ⟨rfl, Nq16, e16⟩ := hQ16
  have N16 := Fr.app N13 Nq16
  obtain ⟨clq17, Arq17, Akq17, Asq17, Anq17, Ahq17, Agq17⟩ := id V13
  have hin18 : ¬ ((1 : Int32) < 0 ∨ clq17.slots.size ≤ ((1 : Int32)).toNatClampNeg) := inb_of Asq17 ⟨by decide, by decide⟩
  obtain ⟨T19, h19, X19, e19, W19, st19⟩ := stC X16 hx hZ e16 Arq17 (j := (1 : Int32)) hin18 (g := (mkF m 20 #[.val (.int pI1), .val (.int pI2), .val (.int pI3), .val (.int pI4), .val (.int pI5), .val (.ref bR6), .unset, .unset, .unset, .unset, .unset, .unset] [(.int pI902), (.int 1), (.ref bR6)])) rfl rfl (hb hby at_20)
  rw [own_narc hr1] at W19
  have Z21 : n0 ≤ h19.size := (Nat.le_trans Z15 (Keep.of_wr W19).1)
  have N19 := Fr.snoc X19 N16 g10
  obtain ⟨Lh19, X19, N19⟩ := own_hide X19 N19
  have V19 : Arv Z h19 bR6 k6 .char (4 : Int32) [(.int pI901), (.int pI902), (.int 0), (.int 0)] (.int (0 : Int32)) := Arv.set Arq17 Akq17 Asq17 Anq17 Ahq17 Agq17 (own_fitc hr1) W19 1 rfl (Nat.le_of_ble_eq_true rfl)
  obtain ⟨_, _, ⟨T22, L22, k22, n22⟩, -, X22, ⟨Lc22, hQ22, l22, y22, z22⟩, st22⟩ := Jvm.LawKit.callS X19 hx (y := yN0) hown (mvT hZ (ow hw 1 rfl)) (mvT hZ (ow hw 2 rfl)) (mvT hZ (ow hw 3 rfl)) (mvT hZ (ow hw 4 rfl)) (by decide) (backOf (W := 2) (pick l Z a0 hw [] pI3 h19 n0 Z21 ) hZ (ow hw 4 rfl) (ow hw 3 rfl) (by decide) (by decide)) (g := (mkF m 25 #[.val (.int pI1), .val (.int pI2), .val (.int pI3), .val (.int pI4), .val (.int pI5), .val (.ref bR6), .unset, .unset, .unset, .unset, .unset, .unset] [(.int pI3), (.int 2), (.ref bR6)])) rfl (by rw [hml]; rfl) (argsL := [(.int pI3)]) (rest := [(.int 2), (.ref bR6)]) (lenOf pd_13 rfl) rfl (Nat.le_refl _) (hb hby at_25) (fun _ _ => ⟨rfl, e19, (by decide : 1 + 0 ≤ _), (by decide : 4 + 0 ≤ _)⟩)
  dsimp only [Pt.U, Pt.locs, Pt.cells, Pt.slots] at X22 l22 y22 z22 st22 hQ22
  subst l22 y22 z22
  obtain ⟨rfl, Nq22, e22⟩ := hQ22
  have N22 := Fr.app N19 Nq22
  obtain ⟨clq23, Arq23, Akq23, Asq23, Anq23, Ahq23, Agq23⟩ := id V19
  have hin24 : ¬ ((2 : Int32) < 0 ∨ clq23.slots.size ≤ ((2 : Int32)).toNatClampNeg) := inb_of Asq23 ⟨by decide, by decide⟩
  obtain ⟨T25, h25, X25, e25, W25, st25⟩ := stC X22 hx hZ e22 Arq23 (j := (2 : Int32)) hin24 (g := (mkF m 28 #[.val (.int pI1), .val (.int pI2), .val (.int pI3), .val (.int pI4), .val (.int pI5), .val (.ref bR6), .unset, .unset, .unset, .unset, .unset, .unset] [(.int pI903), (.int 2), (.ref bR6)])) rfl rfl (hb hby at_28)
  rw [own_narc hr2] at W25
  have Z27 : n0 ≤ h25.size := (Nat.le_trans Z21 (Keep.of_wr W25).1)
  have N25 := Fr.snoc X25 N22 g10
  obtain ⟨Lh25, X25, N25⟩ := own_hide X25 N25
  have V25 : Arv Z h25 bR6 k6 .char (4 : Int32) [(.int pI901), (.int pI902), (.int pI903), (.int 0)] (.int (0 : Int32)) := Arv.set Arq23 Akq23 Asq23 Anq23 Ahq23 Agq23 (own_fitc hr2) W25 2 rfl (Nat.le_of_ble_eq_true rfl)
  obtain ⟨_, _, ⟨T28, L28, k28, n28⟩, -, X28, ⟨Lc28, hQ28, l28, y28, z28⟩, st28⟩ := Jvm.LawKit.callS X25 hx (y := yN0) hown (mvT hZ (ow hw 1 rfl)) (mvT hZ (ow hw 2 rfl)) (mvT hZ (ow hw 3 rfl)) (mvT hZ (ow hw 4 rfl)) (by decide) (backOf (W := 2) (pick l Z a0 hw [] pI4 h25 n0 Z27 ) hZ (ow hw 4 rfl) (ow hw 3 rfl) (by decide) (by decide)) (g := (mkF m 33 #[.val (.int pI1), .val (.int pI2), .val (.int pI3), .val (.int pI4), .val (.int pI5), .val (.ref bR6), .unset, .unset, .unset, .unset, .unset, .unset] [(.int pI4), (.int 3), (.ref bR6)])) rfl (by rw [hml]; rfl) (argsL := [(.int pI4)]) (rest := [(.int 3), (.ref bR6)]) (lenOf pd_13 rfl) rfl (Nat.le_refl _) (hb hby at_33) (fun _ _ => ⟨rfl, e25, (by decide : 1 + 0 ≤ _), (by decide : 4 + 0 ≤ _)⟩)
  dsimp only [Pt.U, Pt.locs, Pt.cells, Pt.slots] at X28 l28 y28 z28 st28 hQ28
  subst l28 y28 z28
  obtain ⟨rfl, Nq28, e28⟩ := hQ28
  have N28 := Fr.app N25 Nq28
  obtain ⟨clq29, Arq29, Akq29, Asq29, Anq29, Ahq29, Agq29⟩ := id V25
  have hin30 : ¬ ((3 : Int32) < 0 ∨ clq29.slots.size ≤ ((3 : Int32)).toNatClampNeg) := inb_of Asq29 ⟨by decide, by decide⟩
  obtain ⟨T31, h31, X31, e31, W31, st31⟩ := stC X28 hx hZ e28 Arq29 (j := (3 : Int32)) hin30 (g := (mkF m 36 #[.val (.int pI1), .val (.int pI2), .val (.int pI3), .val (.int pI4), .val (.int pI5), .val (.ref bR6), .unset, .unset, .unset, .unset, .unset, .unset] [(.int pI904), (.int 3), (.ref bR6)])) rfl rfl (hb hby at_36)
  rw [own_narc hr3] at W31
  have Z33 : n0 ≤ h31.size := (Nat.le_trans Z27 (Keep.of_wr W31).1)
  have N31 := Fr.snoc X31 N28 g10
  obtain ⟨Lh31, X31, N31⟩ := own_hide X31 N31
  have V31 : Arv Z h31 bR6 k6 .char (4 : Int32) [(.int pI901), (.int pI902), (.int pI903), (.int pI904)] (.int (0 : Int32)) := Arv.set Arq29 Akq29 Asq29 Anq29 Ahq29 Agq29 (own_fitc hr3) W31 3 rfl (Nat.le_of_ble_eq_true rfl)
  obtain ⟨T34, h34, X34, e34, E34, A34, D34, U34, st34⟩ := newO X31 hx hZ hown (ow hw 5 rfl) (ow hw 6 rfl) (ow hw 7 rfl) e31 (g := (mkF m 37 #[.val (.int pI1), .val (.int pI2), .val (.int pI3), .val (.int pI4), .val (.int pI5), .val (.ref bR6), .unset, .unset, .unset, .unset, .unset, .unset] [])) rfl (hb hby at_37) (by decide) (by decide)
  obtain ⟨bR34, g34⟩ : ∃ z, z = h31.size := ⟨_, rfl⟩
  rw [← g34] at A34 D34 U34 st34
  have Z36 : n0 ≤ h34.size := (Nat.le_trans Z33 E34.1)
  have F37 : Fld Z h34 bR34 "java/lang/String" "coder" "B" (.int 0) := D34 (Or.inr (ow hw 31 rfl)) (ty := .byte) (by decide)
  have F38 : Fld Z h34 bR34 "java/lang/String" "value" "[B" .null := D34 (Or.inr (ow hw 33 rfl)) (ty := (.array .byte)) (by decide)
  have c39 : Arv Z h34 bR6 k6 .char (4 : Int32) [(.int pI901), (.int pI902), (.int pI903), (.int pI904)] (.int (0 : Int32)) := V31.ext E34
  have c41 : Sta Z h6 "java/lang/String" "COMPACT_STRINGS" "Z" (.int pI40) := S_String_COMPACT_STRINGS.ext E6
  have c42 : Sta Z h13 "java/lang/String" "COMPACT_STRINGS" "Z" (.int pI40) := c41.wr W13
  have c43 : Sta Z h19 "java/lang/String" "COMPACT_STRINGS" "Z" (.int pI40) := c42.wr W19
  have c44 : Sta Z h25 "java/lang/String" "COMPACT_STRINGS" "Z" (.int pI40) := c43.wr W25
  have c45 : Sta Z h31 "java/lang/String" "COMPACT_STRINGS" "Z" (.int pI40) := c44.wr W31
  have c46 : Sta Z h34 "java/lang/String" "COMPACT_STRINGS" "Z" (.int pI40) := c45.ext E34
  have g47 : n0 ≤ bR34 := Nat.le_trans Z33 (Nat.le_of_eq g34.symm)
  obtain ⟨_, _, ⟨T48, L48, k48, n48⟩, -, X48, ⟨Lc48, hQ48, l48, y48, z48⟩, st48⟩ := X34.specialBack hx (y := yN11) rfl hown (mvT hZ (ow hw 8 rfl)) (mvT hZ (ow hw 9 rfl)) (mvT hZ (ow hw 10 rfl)) (by decide) (backOf (W := 1) (strL l Z a0 hw [] bR34 bR6 pI901 pI902 pI903 pI904 k6 pI40 h34 n0 Z36 c39 c46 A34 F37 g47 F38 hc43 hl0 hl1 hl2 hl3) hZ (ow hw 10 rfl) (ow hw 7 rfl) (by decide) (by decide)) (g := (mkF m 43 #[.val (.int pI1), .val (.int pI2), .val (.int pI3), .val (.int pI4), .val (.int pI5), .val (.ref bR6), .unset, .unset, .unset, .unset, .unset, .unset] [(.ref bR6), (.ref bR34), (.ref bR34)])) rfl (by rw [hml]; rfl) (Steps.refl _) (a := bR34) (argsL := [(.ref bR6)]) (rest := [(.ref bR34)]) (lenOf pd_14 rfl) rfl (Nat.le_refl _) (hb hby at_43) (fun _ _ => ⟨rfl, e34, (by decide : 2 + 1 ≤ _), (by decide : 8 + 4 ≤ _)⟩)
  dsimp only [Pt.U, Pt.locs, Pt.cells, Pt.slots] at X48 l48 y48 z48 st48 hQ48
  subst l48 y48 z48
  obtain ⟨bR48_0, kK48_0, rfl, Nq48, Kq48, sz48_0, x48_0, x48_1, x48_2, x48_3⟩ := hQ48
  have N48 := Fr.app N31 Nq48
  obtain ⟨Lh48, X48, N48⟩ := own_hide X48 N48
  have Z50 : n0 ≤ T48.heap.size := (Nat.le_trans Z36 Kq48.1)
  obtain ⟨T51, h51, X51, e51, E51, A51, D51, U51, st51⟩ := newO X48 hx hZ hown (ow hw 34 rfl) (ow hw 35 rfl) (ow hw 36 rfl) rfl (g := (mkF m 48 #[.val (.int pI1), .val (.int pI2), .val (.int pI3), .val (.int pI4), .val (.int pI5), .val (.ref bR6), .val (.ref bR34), .unset, .unset, .unset, .unset, .unset] [])) rfl (hb hby at_48) (by decide) (by decide)
  obtain ⟨bR51, g51⟩ : ∃ z, z = T48.heap.size := ⟨_, rfl⟩
  rw [← g51] at A51 D51 U51 st51
  have Z53 : n0 ≤ h51.size := (Nat.le_trans Z50 E51.1)
  have F54 : Fld Z h51 bR51 "com/example/watchful_junction/watchfuljunction/importer/Network$Phase" "durationS" "I" (.int 0) := D51 (Or.inr (ow hw 42 rfl)) (ty := .int) (by decide)
  have F55 : Fld Z h51 bR51 "com/example/watchful_junction/watchfuljunction/importer/Network$Phase" "state" "Ljava/lang/String;" .null := D51 (Or.inr (ow hw 44 rfl)) (ty := (.object "java/lang/String")) (by decide)
  have g56 : n0 ≤ bR51 := Nat.le_trans Z50 (Nat.le_of_eq g51.symm)
  obtain ⟨_, _, ⟨T57, L57, k57, n57⟩, -, X57, ⟨Lc57, hQ57, l57, y57, z57⟩, st57⟩ := X51.specialBack hx (y := yN21) rfl hown (mvT hZ (ow hw 37 rfl)) (mvT hZ (ow hw 38 rfl)) (mvT hZ (ow hw 39 rfl)) (by decide) (backOf (W := 1) (phI l Z a0 hw [] bR51 pI5 bR34 h51 n0 Z53 A51 F54 g56 F55) hZ (ow hw 39 rfl) (ow hw 36 rfl) (by decide) (by decide)) (g := (mkF m 56 #[.val (.int pI1), .val (.int pI2), .val (.int pI3), .val (.int pI4), .val (.int pI5), .val (.ref bR6), .val (.ref bR34), .unset, .unset, .unset, .unset, .unset] [(.ref bR34), (.int pI5), (.ref bR51), (.ref bR51)])) rfl (by rw [hml]; rfl) (Steps.refl _) (a := bR51) (argsL := [(.int pI5), (.ref bR34)]) (rest := [(.ref bR51)]) (lenOf pd_15 rfl) rfl (Nat.le_refl _) (hb hby at_56) (fun _ _ => ⟨rfl, e51, (by decide : 4 + 0 ≤ _), (by decide : 14 + 0 ≤ _)⟩)
  dsimp only [Pt.U, Pt.locs, Pt.cells, Pt.slots] at X57 l57 y57 z57 st57 hQ57
  subst l57 y57 z57
  obtain ⟨rfl, Nq57, Kq57, x57_0, x57_1, x57_2⟩ := hQ57
  have N57 := Fr.app N48 Nq57
  obtain ⟨Lh57, X57, N57⟩ := own_hide X57 N57
  have Z59 : n0 ≤ T57.heap.size := (Nat.le_trans Z53 Kq57.1)
  have c60 : Sta Z T48.heap "java/lang/String" "COMPACT_STRINGS" "Z" (.int pI40) := own_sta_keep c46 Kq48 (allS (own_plain_E A34) all0)
  have c61 : Sta Z h51 "java/lang/String" "COMPACT_STRINGS" "Z" (.int pI40) := c60.ext E51
  have c62 : Sta Z T57.heap "java/lang/String" "COMPACT_STRINGS" "Z" (.int pI40) := own_sta_keep c61 Kq57 (allS (own_plain_E A51) all0)
  have c63 : Fld Z h51 bR34 "java/lang/String" "coder" "B" (.int 0) := x48_2.ext E51
  have c64 : Exa Z T48.heap bR34 "java/lang/String" := A34.keep Kq48
  have c65 : Fld Z T57.heap bR34 "java/lang/String" "coder" "B" (.int 0) := c63.keep Kq57 (ninS (Nat.ne_of_lt (Nat.lt_of_lt_of_le c64.lt (Nat.le_of_eq g51.symm))) nin0)
  have c66 : Exa Z h51 bR34 "java/lang/String" := x48_0.ext E51
  have c67 : Exa Z T57.heap bR34 "java/lang/String" := c66.keep Kq57
  have c68 : Fld Z h51 bR34 "java/lang/String" "value" "[B" (.ref bR48_0) := x48_3.ext E51
  have c69 : Fld Z T57.heap bR34 "java/lang/String" "value" "[B" (.ref bR48_0) := c68.keep Kq57 (ninS (Nat.ne_of_lt (Nat.lt_of_lt_of_le c64.lt (Nat.le_of_eq g51.symm))) nin0)
  have c70 : Arv Z h51 bR48_0 kK48_0 .byte (4 : Int32) [(.int (pI901.toInt8.toInt32)), (.int (pI902.toInt8.toInt32)), (.int (pI903.toInt8.toInt32)), (.int (pI904.toInt8.toInt32))] (.int (0 : Int32)) := x48_1.ext E51
  have c71 : Arv Z T57.heap bR48_0 kK48_0 .byte (4 : Int32) [(.int (pI901.toInt8.toInt32)), (.int (pI902.toInt8.toInt32)), (.int (pI903.toInt8.toInt32)), (.int (pI904.toInt8.toInt32))] (.int (0 : Int32)) := c70.keep Kq57 (ninS (Nat.ne_of_lt (Nat.lt_of_lt_of_le x48_1.lt (Nat.le_of_eq g51.symm))) nin0)
  have c73 : Sta Z h6 "jdk/internal/util/Preconditions" "SIOOBE_FORMATTER" "Ljava/util/function/BiFunction;" pV72 := S_Preconditions_SIOOBE_FORMATTER.ext E6
  have c74 : Sta Z h13 "jdk/internal/util/Preconditions" "SIOOBE_FORMATTER" "Ljava/util/function/BiFunction;" pV72 := c73.wr W13
  have c75 : Sta Z h19 "jdk/internal/util/Preconditions" "SIOOBE_FORMATTER" "Ljava/util/function/BiFunction;" pV72 := c74.wr W19
  have c76 : Sta Z h25 "jdk/internal/util/Preconditions" "SIOOBE_FORMATTER" "Ljava/util/function/BiFunction;" pV72 := c75.wr W25
  have c77 : Sta Z h31 "jdk/internal/util/Preconditions" "SIOOBE_FORMATTER" "Ljava/util/function/BiFunction;" pV72 := c76.wr W31
  have c78 : Sta Z h34 "jdk/internal/util/Preconditions" "SIOOBE_FORMATTER" "Ljava/util/function/BiFunction;" pV72 := c77.ext E34
  have c79 : Sta Z T48.heap "jdk/internal/util/Preconditions" "SIOOBE_FORMATTER" "Ljava/util/function/BiFunction;" pV72 := own_sta_keep c78 Kq48 (allS (own_plain_E A34) all0)
  have c80 : Sta Z h51 "jdk/internal/util/Preconditions" "SIOOBE_FORMATTER" "Ljava/util/function/BiFunction;" pV72 := c79.ext E51
  have c81 : Sta Z T57.heap "jdk/internal/util/Preconditions" "SIOOBE_FORMATTER" "Ljava/util/function/BiFunction;" pV72 := own_sta_keep c80 Kq57 (allS (own_plain_E A51) all0)
  obtain ⟨cq82, kq82, q82a, q82b, q82c⟩ := isOf hZ rfl x57_0
  obtain ⟨_, _, ⟨T82, L82, k82, n82⟩, -, X82, ⟨Lc82, hQ82, l82, y82, z82⟩, st82⟩ := X57.virtualBack hx (y := yN20) (z := yN20) hown (mvT hZ (ow hw 45 rfl)) (mvT hZ (ow hw 46 rfl)) (notFace_of_selects (args := #[]) (mvT hZ (ow hw 48 rfl))) (mvT hZ (ow hw 48 rfl)) (mvT hZ (ow hw 47 rfl)) (by decide) (backOf (W := 0) (grL0 l Z a0 hw [] bR51 bR34 pI40 bR48_0 pI901 pI902 pI903 pI904 kK48_0 pV72 T57.heap n0 Z59 x57_2 c62 c65 c67 c69 c71 c81 hr0 hl0 hc43 hc64) hZ (ow hw 49 rfl) (ow hw 36 rfl) (by decide) (by decide)) q82a q82c (g := (mkF m 64 #[.val (.int pI1), .val (.int pI2), .val (.int pI3), .val (.int pI4), .val (.int pI5), .val (.ref bR6), .val (.ref bR34), .val (.ref bR51), .unset, .unset, .unset, .unset] [(.int 0), (.ref bR51)])) rfl (by rw [hml]; rfl) (Steps.refl _) (argsL := [(.int 0)]) (rest := []) (lenOf pd_16 rfl) rfl (Nat.le_refl _) (hb hby at_64) (fun _ _ => ⟨rfl, rfl, (by decide : 4 + 0 ≤ _), (by decide : 14 + 0 ≤ _)⟩)
  dsimp only [Pt.U, Pt.locs, Pt.cells, Pt.slots] at X82 l82 y82 z82 st82 hQ82
  subst l82 y82 z82
  obtain ⟨rfl, Nq82, e82⟩ := hQ82
  have N82 := Fr.app N57 Nq82
  have c84 : Arv Z T48.heap bR6 k6 .char (4 : Int32) [(.int pI901), (.int pI902), (.int pI903), (.int pI904)] (.int (0 : Int32)) := c39.keep Kq48 (ninS (Nat.ne_of_lt (Nat.lt_of_lt_of_le V31.lt (Nat.le_of_eq g34.symm))) nin0)
  have c85 : Arv Z h51 bR6 k6 .char (4 : Int32) [(.int pI901), (.int pI902), (.int pI903), (.int pI904)] (.int (0 : Int32)) := c84.ext E51
  have c86 : Arv Z T57.heap bR6 k6 .char (4 : Int32) [(.int pI901), (.int pI902), (.int pI903), (.int pI904)] (.int (0 : Int32)) := c85.keep Kq57 (ninS (Nat.ne_of_lt (Nat.lt_of_lt_of_le c84.lt (Nat.le_of_eq g51.symm))) nin0)
  obtain ⟨clq83, Arq83, Akq83, Asq83, Anq83, Ahq83, Agq83⟩ := id c86
  have hin87 : ¬ ((0 : Int32) < 0 ∨ clq83.slots.size ≤ ((0 : Int32)).toNatClampNeg) := inb_of Asq83 ⟨by decide, by decide⟩
  obtain ⟨_, _, ⟨T88, L88, k88, n88⟩, -, X88, ⟨Lc88, hQ88, l88, y88, z88⟩, st88⟩ := Jvm.LawKit.callS X82 hx (y := yN1) hown (mvT hZ (ow hw 72 rfl)) (mvT hZ (ow hw 73 rfl)) (mvT hZ (ow hw 3 rfl)) (mvT hZ (ow hw 74 rfl)) (by decide) (backOf (W := 1) (isg l Z a0 hw [] pI901 T57.heap n0 Z59 ) hZ (ow hw 74 rfl) (ow hw 3 rfl) (by decide) (by decide)) (g := (mkF m 71 #[.val (.int pI1), .val (.int pI2), .val (.int pI3), .val (.int pI4), .val (.int pI5), .val (.ref bR6), .val (.ref bR34), .val (.ref bR51), .unset, .unset, .unset, .unset] [(.int pI901), (.int (own_green pI901))])) rfl (by rw [hml]; rfl) (argsL := [(.int pI901)]) (rest := [(.int (own_green pI901))]) (lenOf pd_17 rfl) rfl (Nat.le_refl _) (hb hby at_71) (fun _ _ => ⟨rfl, e82, (by decide : 4 + 0 ≤ _), (by decide : 14 + 0 ≤ _)⟩)
  dsimp only [Pt.U, Pt.locs, Pt.cells, Pt.slots] at X88 l88 y88 z88 st88 hQ88
  subst l88 y88 z88
  obtain ⟨rfl, Nq88, e88⟩ := hQ88
  have N88 := Fr.app N82 Nq88
  obtain ⟨cq89, kq89, q89a, q89b, q89c⟩ := isOf hZ e88 x57_0
  obtain ⟨_, _, ⟨T89, L89, k89, n89⟩, -, X89, ⟨Lc89, hQ89, l89, y89, z89⟩, st89⟩ := X88.virtualBack hx (y := yN20) (z := yN20) hown (mvT hZ (ow hw 45 rfl)) (mvT hZ (ow hw 46 rfl)) (notFace_of_selects (args := #[]) (mvT hZ (ow hw 48 rfl))) (mvT hZ (ow hw 48 rfl)) (mvT hZ (ow hw 47 rfl)) (by decide) (backOf (W := 0) (grL1 l Z a0 hw [] bR51 bR34 pI40 bR48_0 pI901 pI902 pI903 pI904 kK48_0 pV72 T57.heap n0 Z59 x57_2 c62 c65 c67 c69 c71 c81 hr1 hl1 hc43 hc64) hZ (ow hw 49 rfl) (ow hw 36 rfl) (by decide) (by decide)) q89a q89c (g := (mkF m 87 #[.val (.int pI1), .val (.int pI2), .val (.int pI3), .val (.int pI4), .val (.int pI5), .val (.ref bR6), .val (.ref bR34), .val (.ref bR51), .val (.int 1), .unset, .unset, .unset] [(.int 1), (.ref bR51)])) rfl (by rw [hml]; rfl) (Steps.refl _) (argsL := [(.int 1)]) (rest := []) (lenOf pd_16 rfl) rfl (Nat.le_refl _) (hb hby at_87) (fun _ _ => ⟨rfl, e88, (by decide : 4 + 0 ≤ _), (by decide : 14 + 0 ≤ _)⟩)
  dsimp only [Pt.U, Pt.locs, Pt.cells, Pt.slots] at X89 l89 y89 z89 st89 hQ89
  subst l89 y89 z89
  obtain ⟨rfl, Nq89, e89⟩ := hQ89
  have N89 := Fr.app N88 Nq89
  obtain ⟨clq90, Arq90, Akq90, Asq90, Anq90, Ahq90, Agq90⟩ := id c86
  have hin91 : ¬ ((1 : Int32) < 0 ∨ clq90.slots.size ≤ ((1 : Int32)).toNatClampNeg) := inb_of Asq90 ⟨by decide, by decide⟩
  obtain ⟨_, _, ⟨T92, L92, k92, n92⟩, -, X92, ⟨Lc92, hQ92, l92, y92, z92⟩, st92⟩ := Jvm.LawKit.callS X89 hx (y := yN1) hown (mvT hZ (ow hw 72 rfl)) (mvT hZ (ow hw 73 rfl)) (mvT hZ (ow hw 3 rfl)) (mvT hZ (ow hw 74 rfl)) (by decide) (backOf (W := 1) (isg l Z a0 hw [] pI902 T57.heap n0 Z59 ) hZ (ow hw 74 rfl) (ow hw 3 rfl) (by decide) (by decide)) (g := (mkF m 94 #[.val (.int pI1), .val (.int pI2), .val (.int pI3), .val (.int pI4), .val (.int pI5), .val (.ref bR6), .val (.ref bR34), .val (.ref bR51), .val (.int 1), .unset, .unset, .unset] [(.int pI902), (.int (own_green pI902))])) rfl (by rw [hml]; rfl) (argsL := [(.int pI902)]) (rest := [(.int (own_green pI902))]) (lenOf pd_17 rfl) rfl (Nat.le_refl _) (hb hby at_94) (fun _ _ => ⟨rfl, e89, (by decide : 4 + 0 ≤ _), (by decide : 14 + 0 ≤ _)⟩)
  dsimp only [Pt.U, Pt.locs, Pt.cells, Pt.slots] at X92 l92 y92 z92 st92 hQ92
  subst l92 y92 z92
  obtain ⟨rfl, Nq92, e92⟩ := hQ92
  have N92 := Fr.app N89 Nq92
  obtain ⟨cq93, kq93, q93a, q93b, q93c⟩ := isOf hZ e92 x57_0
  obtain ⟨_, _, ⟨T93, L93, k93, n93⟩, -, X93, ⟨Lc93, hQ93, l93, y93, z93⟩, st93⟩ := X92.virtualBack hx (y := yN20) (z := yN20) hown (mvT hZ (ow hw 45 rfl)) (mvT hZ (ow hw 46 rfl)) (notFace_of_selects (args := #[]) (mvT hZ (ow hw 48 rfl))) (mvT hZ (ow hw 48 rfl)) (mvT hZ (ow hw 47 rfl)) (by decide) (backOf (W := 0) (grL2 l Z a0 hw [] bR51 bR34 pI40 bR48_0 pI901 pI902 pI903 pI904 kK48_0 pV72 T57.heap n0 Z59 x57_2 c62 c65 c67 c69 c71 c81 hr2 hl2 hc43 hc64) hZ (ow hw 49 rfl) (ow hw 36 rfl) (by decide) (by decide)) q93a q93c (g := (mkF m 110 #[.val (.int pI1), .val (.int pI2), .val (.int pI3), .val (.int pI4), .val (.int pI5), .val (.ref bR6), .val (.ref bR34), .val (.ref bR51), .val (.int 1), .val (.int 1), .unset, .unset] [(.int 2), (.ref bR51)])) rfl (by rw [hml]; rfl) (Steps.refl _) (argsL := [(.int 2)]) (rest := []) (lenOf pd_16 rfl) rfl (Nat.le_refl _) (hb hby at_110) (fun _ _ => ⟨rfl, e92, (by decide : 4 + 0 ≤ _), (by decide : 14 + 0 ≤ _)⟩)
  dsimp only [Pt.U, Pt.locs, Pt.cells, Pt.slots] at X93 l93 y93 z93 st93 hQ93
  subst l93 y93 z93
  obtain ⟨rfl, Nq93, e93⟩ := hQ93
  have N93 := Fr.app N92 Nq93
  obtain ⟨clq94, Arq94, Akq94, Asq94, Anq94, Ahq94, Agq94⟩ := id c86
  have hin95 : ¬ ((2 : Int32) < 0 ∨ clq94.slots.size ≤ ((2 : Int32)).toNatClampNeg) := inb_of Asq94 ⟨by decide, by decide⟩
  obtain ⟨_, _, ⟨T96, L96, k96, n96⟩, -, X96, ⟨Lc96, hQ96, l96, y96, z96⟩, st96⟩ := Jvm.LawKit.callS X93 hx (y := yN1) hown (mvT hZ (ow hw 72 rfl)) (mvT hZ (ow hw 73 rfl)) (mvT hZ (ow hw 3 rfl)) (mvT hZ (ow hw 74 rfl)) (by decide) (backOf (W := 1) (isg l Z a0 hw [] pI903 T57.heap n0 Z59 ) hZ (ow hw 74 rfl) (ow hw 3 rfl) (by decide) (by decide)) (g := (mkF m 117 #[.val (.int pI1), .val (.int pI2), .val (.int pI3), .val (.int pI4), .val (.int pI5), .val (.ref bR6), .val (.ref bR34), .val (.ref bR51), .val (.int 1), .val (.int 1), .unset, .unset] [(.int pI903), (.int (own_green pI903))])) rfl (by rw [hml]; rfl) (argsL := [(.int pI903)]) (rest := [(.int (own_green pI903))]) (lenOf pd_17 rfl) rfl (Nat.le_refl _) (hb hby at_117) (fun _ _ => ⟨rfl, e93, (by decide : 4 + 0 ≤ _), (by decide : 14 + 0 ≤ _)⟩)
  dsimp only [Pt.U, Pt.locs, Pt.cells, Pt.slots] at X96 l96 y96 z96 st96 hQ96
  subst l96 y96 z96
  obtain ⟨rfl, Nq96, e96⟩ := hQ96
  have N96 := Fr.app N93 Nq96
  obtain ⟨cq97, kq97, q97a, q97b, q97c⟩ := isOf hZ e96 x57_0
  obtain ⟨_, _, ⟨T97, L97, k97, n97⟩, -, X97, ⟨Lc97, hQ97, l97, y97, z97⟩, st97⟩ := X96.virtualBack hx (y := yN20) (z := yN20) hown (mvT hZ (ow hw 45 rfl)) (mvT hZ (ow hw 46 rfl)) (notFace_of_selects (args := #[]) (mvT hZ (ow hw 48 rfl))) (mvT hZ (ow hw 48 rfl)) (mvT hZ (ow hw 47 rfl)) (by decide) (backOf (W := 0) (grL3 l Z a0 hw [] bR51 bR34 pI40 bR48_0 pI901 pI902 pI903 pI904 kK48_0 pV72 T57.heap n0 Z59 x57_2 c62 c65 c67 c69 c71 c81 hr3 hl3 hc43 hc64) hZ (ow hw 49 rfl) (ow hw 36 rfl) (by decide) (by decide)) q97a q97c (g := (mkF m 133 #[.val (.int pI1), .val (.int pI2), .val (.int pI3), .val (.int pI4), .val (.int pI5), .val (.ref bR6), .val (.ref bR34), .val (.ref bR51), .val (.int 1), .val (.int 1), .val (.int 1), .unset] [(.int 3), (.ref bR51)])) rfl (by rw [hml]; rfl) (Steps.refl _) (argsL := [(.int 3)]) (rest := []) (lenOf pd_16 rfl) rfl (Nat.le_refl _) (hb hby at_133) (fun _ _ => ⟨rfl, e96, (by decide : 4 + 0 ≤ _), (by decide : 14 + 0 ≤ _)⟩)
  dsimp only [Pt.U, Pt.locs, Pt.cells, Pt.slots] at X97 l97 y97 z97 st97 hQ97
  subst l97 y97 z97
  obtain ⟨rfl, Nq97, e97⟩ := hQ97
  have N97 := Fr.app N96 Nq97
  obtain ⟨clq98, Arq98, Akq98, Asq98, Anq98, Ahq98, Agq98⟩ := id c86
  have hin99 : ¬ ((3 : Int32) < 0 ∨ clq98.slots.size ≤ ((3 : Int32)).toNatClampNeg) := inb_of Asq98 ⟨by decide, by decide⟩
  obtain ⟨_, _, ⟨T100, L100, k100, n100⟩, -, X100, ⟨Lc100, hQ100, l100, y100, z100⟩, st100⟩ := Jvm.LawKit.callS X97 hx (y := yN1) hown (mvT hZ (ow hw 72 rfl)) (mvT hZ (ow hw 73 rfl)) (mvT hZ (ow hw 3 rfl)) (mvT hZ (ow hw 74 rfl)) (by decide) (backOf (W := 1) (isg l Z a0 hw [] pI904 T57.heap n0 Z59 ) hZ (ow hw 74 rfl) (ow hw 3 rfl) (by decide) (by decide)) (g := (mkF m 140 #[.val (.int pI1), .val (.int pI2), .val (.int pI3), .val (.int pI4), .val (.int pI5), .val (.ref bR6), .val (.ref bR34), .val (.ref bR51), .val (.int 1), .val (.int 1), .val (.int 1), .unset] [(.int pI904), (.int (own_green pI904))])) rfl (by rw [hml]; rfl) (argsL := [(.int pI904)]) (rest := [(.int (own_green pI904))]) (lenOf pd_17 rfl) rfl (Nat.le_refl _) (hb hby at_140) (fun _ _ => ⟨rfl, e97, (by decide : 4 + 0 ≤ _), (by decide : 14 + 0 ≤ _)⟩)
  dsimp only [Pt.U, Pt.locs, Pt.cells, Pt.slots] at X100 l100 y100 z100 st100 hQ100
  subst l100 y100 z100
  obtain ⟨rfl, Nq100, e100⟩ := hQ100
  have N100 := Fr.app N97 Nq100
  obtain ⟨fs, hr, hrun, hended, hW, hsame⟩ := X100.leave (v := some (.int 1)) (fun h => by rw [Bd.returns] at h; cases h)
  refine ⟨_, _, castTop (ef_lawL m pI1 pI2 pI3 pI4 pI5) ?_, hrun, hended, _, _, rfl, ?_, ⟨_, rfl⟩, hW, hsame.mono (by decide) (by decide)⟩
  · show oS p e below s₁ m 0 #[.val (.int pI1), .val (.int pI2), .val (.int pI3), .val (.int pI4), .val (.int pI5), .unset, .unset, .unset, .unset, .unset, .unset, .unset] [] _
    refine XS.iconst X0.here hx rfl (hb hby at_0) ?_
    refine st6 _ ?_
    refine XS.astore X6.here hx rfl (hb hby at_3) rfl rfl (l' := #[.val (.int pI1), .val (.int pI2), .val (.int pI3), .val (.int pI4), .val (.int pI5), .val (.ref bR6), .unset, .unset, .unset, .unset, .unset, .unset]) rfl ?_
    refine XS.aload X6.here hx rfl (hb hby at_5) rfl rfl ?_
    refine XS.iconst X6.here hx rfl (hb hby at_7) ?_
    refine XS.iloadN X6.here hx rfl (hb hby at_8) rfl ?_
    show oS p e below T6 m 9 #[.val (.int pI1), .val (.int pI2), .val (.int pI3), .val (.int pI4), .val (.int pI5), .val (.ref bR6), .unset, .unset, .unset, .unset, .unset, .unset] [(.int pI1), (.int 0), (.ref bR6)] _
    refine st9 _ ?_
    show Steps p.tables e below (T9.setTop (mkF m 12 #[.val (.int pI1), .val (.int pI2), .val (.int pI3), .val (.int pI4), .val (.int pI5), .val (.ref bR6), .unset, .unset, .unset, .unset, .unset, .unset] [(.int (own_pick pI1)), (.int 0), (.ref bR6)])) _
    rw [hr9]
    refine st13 _ ?_
    refine XS.aload X13.here hx rfl (hb hby at_13) rfl rfl ?_
    refine XS.iconst X13.here hx rfl (hb hby at_15) ?_
    refine XS.iloadN X13.here hx rfl (hb hby at_16) rfl ?_
    refine st16 _ ?_
    show Steps p.tables e below (T16.setTop (mkF m 20 #[.val (.int pI1), .val (.int pI2), .val (.int pI3), .val (.int pI4), .val (.int pI5), .val (.ref bR6), .unset, .unset, .unset, .unset, .unset, .unset] [(.int (own_pick pI2)), (.int 1), (.ref bR6)])) _
    rw [hr17]
    show oS p e below T16 m 20 #[.val (.int pI1), .val (.int pI2), .val (.int pI3), .val (.int pI4), .val (.int pI5), .val (.ref bR6), .unset, .unset, .unset, .unset, .unset, .unset] [(.int pI902), (.int 1), (.ref bR6)] _
    refine st19 _ ?_
    refine XS.aload X19.here hx rfl (hb hby at_21) rfl rfl ?_
    refine XS.iconst X19.here hx rfl (hb hby at_23) ?_
    refine XS.iloadN X19.here hx rfl (hb hby at_24) rfl ?_
    refine st22 _ ?_
    show Steps p.tables e below (T22.setTop (mkF m 28 #[.val (.int pI1), .val (.int pI2), .val (.int pI3), .val (.int pI4), .val (.int pI5), .val (.ref bR6), .unset, .unset, .unset, .unset, .unset, .unset] [(.int (own_pick pI3)), (.int 2), (.ref bR6)])) _
    rw [hr25]
    refine st25 _ ?_
    show oS p e below T25 m 29 #[.val (.int pI1), .val (.int pI2), .val (.int pI3), .val (.int pI4), .val (.int pI5), .val (.ref bR6), .unset, .unset, .unset, .unset, .unset, .unset] [] _
    refine XS.aload X25.here hx rfl (hb hby at_29) rfl rfl ?_
    refine XS.iconst X25.here hx rfl (hb hby at_31) ?_
    refine XS.iloadN X25.here hx rfl (hb hby at_32) rfl ?_
    refine st28 _ ?_
    show Steps p.tables e below (T28.setTop (mkF m 36 #[.val (.int pI1), .val (.int pI2), .val (.int pI3), .val (.int pI4), .val (.int pI5), .val (.ref bR6), .unset, .unset, .unset, .unset, .unset, .unset] [(.int (own_pick pI4)), (.int 3), (.ref bR6)])) _
    rw [hr33]
    refine st31 _ ?_
    refine st34 _ ?_
    show oS p e below T34 m 40 #[.val (.int pI1), .val (.int pI2), .val (.int pI3), .val (.int pI4), .val (.int pI5), .val (.ref bR6), .unset, .unset, .unset, .unset, .unset, .unset] [(.ref bR34)] _
    refine XS.dup X34.here hx rfl (hb hby at_40) rfl rfl ?_
    refine XS.aload X34.here hx rfl (hb hby at_41) rfl rfl ?_
    refine st48.trans ?_
    refine XS.astore X48.here hx rfl (hb hby at_46) rfl rfl (l' := #[.val (.int pI1), .val (.int pI2), .val (.int pI3), .val (.int pI4), .val (.int pI5), .val (.ref bR6), .val (.ref bR34), .unset, .unset, .unset, .unset, .unset]) rfl ?_
    refine st51 _ ?_
    refine XS.dup X51.here hx rfl (hb hby at_51) rfl rfl ?_
    show oS p e below T51 m 52 #[.val (.int pI1), .val (.int pI2), .val (.int pI3), .val (.int pI4), .val (.int pI5), .val (.ref bR6), .val (.ref bR34), .unset, .unset, .unset, .unset, .unset] [(.ref bR51), (.ref bR51)] _
    refine XS.iload X51.here hx rfl (hb hby at_52) rfl ?_
    refine XS.aload X51.here hx rfl (hb hby at_54) rfl rfl ?_
    refine st57.trans ?_
    refine XS.astore X57.here hx rfl (hb hby at_59) rfl rfl (l' := #[.val (.int pI1), .val (.int pI2), .val (.int pI3), .val (.int pI4), .val (.int pI5), .val (.ref bR6), .val (.ref bR34), .val (.ref bR51), .unset, .unset, .unset, .unset]) rfl ?_
    refine XS.aload X57.here hx rfl (hb hby at_61) rfl rfl ?_
    refine XS.iconst X57.here hx rfl (hb hby at_63) ?_
    show oS p e below T57 m 64 #[.val (.int pI1), .val (.int pI2), .val (.int pI3), .val (.int pI4), .val (.int pI5), .val (.ref bR6), .val (.ref bR34), .val (.ref bR51), .unset, .unset, .unset, .unset] [(.int 0), (.ref bR51)] _
    refine st82.trans ?_
    refine XS.aload X82.here hx rfl (hb hby at_67) rfl rfl ?_
    refine XS.iconst X82.here hx rfl (hb hby at_69) ?_
    refine X82.caload hx (j := (0 : Int32)) (v := (.int pI901)) (by rw [e82]; exact Arq83.1) (State.isArrayOf_alike hZ.alike Arq83.2.1) Arq83.2.2 hin87 (Has.at Ahq83 hin87 rfl) (g := (mkF m 70 #[.val (.int pI1), .val (.int pI2), .val (.int pI3), .val (.int pI4), .val (.int pI5), .val (.ref bR6), .val (.ref bR34), .val (.ref bR51), .unset, .unset, .unset, .unset] [(.int 0), (.ref bR6), (.int (own_green pI901))])) rfl rfl (hb hby at_70) _ ?_
    refine st88 _ ?_
    refine XS.icmpNo X88.here hx rfl (hb hby at_74) rfl (teq (rfl : (own_green pI901) = (own_green pI901))).2 ?_
    show oS p e below T88 m 77 #[.val (.int pI1), .val (.int pI2), .val (.int pI3), .val (.int pI4), .val (.int pI5), .val (.ref bR6), .val (.ref bR34), .val (.ref bR51), .unset, .unset, .unset, .unset] [] _
    refine XS.iconst X88.here hx rfl (hb hby at_77) ?_
    refine XS.goto X88.here hx rfl (pc0 := 78) (pc' := 82) rfl (hb hby at_78) (by decide) (by decide) ?_
    refine XS.istore X88.here hx rfl (hb hby at_82) rfl (l' := #[.val (.int pI1), .val (.int pI2), .val (.int pI3), .val (.int pI4), .val (.int pI5), .val (.ref bR6), .val (.ref bR34), .val (.ref bR51), .val (.int 1), .unset, .unset, .unset]) rfl ?_
    refine XS.aload X88.here hx rfl (hb hby at_84) rfl rfl ?_
    refine XS.iconst X88.here hx rfl (hb hby at_86) ?_
    refine st89.trans ?_
    show oS p e below T89 m 90 #[.val (.int pI1), .val (.int pI2), .val (.int pI3), .val (.int pI4), .val (.int pI5), .val (.ref bR6), .val (.ref bR34), .val (.ref bR51), .val (.int 1), .unset, .unset, .unset] [(.int (own_green pI902))] _
    refine XS.aload X89.here hx rfl (hb hby at_90) rfl rfl ?_
    refine XS.iconst X89.here hx rfl (hb hby at_92) ?_
    refine X89.caload hx (j := (1 : Int32)) (v := (.int pI902)) (by rw [e89]; exact Arq90.1) (State.isArrayOf_alike hZ.alike Arq90.2.1) Arq90.2.2 hin91 (Has.at Ahq90 hin91 rfl) (g := (mkF m 93 #[.val (.int pI1), .val (.int pI2), .val (.int pI3), .val (.int pI4), .val (.int pI5), .val (.ref bR6), .val (.ref bR34), .val (.ref bR51), .val (.int 1), .unset, .unset, .unset] [(.int 1), (.ref bR6), (.int (own_green pI902))])) rfl rfl (hb hby at_93) _ ?_
    refine st92 _ ?_
    refine XS.icmpNo X92.here hx rfl (hb hby at_97) rfl (teq (rfl : (own_green pI902) = (own_green pI902))).2 ?_
    refine XS.iconst X92.here hx rfl (hb hby at_100) ?_
    show oS p e below T92 m 101 #[.val (.int pI1), .val (.int pI2), .val (.int pI3), .val (.int pI4), .val (.int pI5), .val (.ref bR6), .val (.ref bR34), .val (.ref bR51), .val (.int 1), .unset, .unset, .unset] [(.int 1)] _
    refine XS.goto X92.here hx rfl (pc0 := 101) (pc' := 105) rfl (hb hby at_101) (by decide) (by decide) ?_
    refine XS.istore X92.here hx rfl (hb hby at_105) rfl (l' := #[.val (.int pI1), .val (.int pI2), .val (.int pI3), .val (.int pI4), .val (.int pI5), .val (.ref bR6), .val (.ref bR34), .val (.ref bR51), .val (.int 1), .val (.int 1), .unset, .unset]) rfl ?_
    refine XS.aload X92.here hx rfl (hb hby at_107) rfl rfl ?_
    refine XS.iconst X92.here hx rfl (hb hby at_109) ?_
    refine st93.trans ?_
    refine XS.aload X93.here hx rfl (hb hby at_113) rfl rfl ?_
    show oS p e below T93 m 115 #[.val (.int pI1), .val (.int pI2), .val (.int pI3), .val (.int pI4), .val (.int pI5), .val (.ref bR6), .val (.ref bR34), .val (.ref bR51), .val (.int 1), .val (.int 1), .unset, .unset] [(.ref bR6), (.int (own_green pI903))] _
    refine XS.iconst X93.here hx rfl (hb hby at_115) ?_
    refine X93.caload hx (j := (2 : Int32)) (v := (.int pI903)) (by rw [e93]; exact Arq94.1) (State.isArrayOf_alike hZ.alike Arq94.2.1) Arq94.2.2 hin95 (Has.at Ahq94 hin95 rfl) (g := (mkF m 116 #[.val (.int pI1), .val (.int pI2), .val (.int pI3), .val (.int pI4), .val (.int pI5), .val (.ref bR6), .val (.ref bR34), .val (.ref bR51), .val (.int 1), .val (.int 1), .unset, .unset] [(.int 2), (.ref bR6), (.int (own_green pI903))])) rfl rfl (hb hby at_116) _ ?_
    refine st96 _ ?_
    refine XS.icmpNo X96.here hx rfl (hb hby at_120) rfl (teq (rfl : (own_green pI903) = (own_green pI903))).2 ?_
    refine XS.iconst X96.here hx rfl (hb hby at_123) ?_
    refine XS.goto X96.here hx rfl (pc0 := 124) (pc' := 128) rfl (hb hby at_124) (by decide) (by decide) ?_
    show oS p e below T96 m 128 #[.val (.int pI1), .val (.int pI2), .val (.int pI3), .val (.int pI4), .val (.int pI5), .val (.ref bR6), .val (.ref bR34), .val (.ref bR51), .val (.int 1), .val (.int 1), .unset, .unset] [(.int 1)] _
    refine XS.istore X96.here hx rfl (hb hby at_128) rfl (l' := #[.val (.int pI1), .val (.int pI2), .val (.int pI3), .val (.int pI4), .val (.int pI5), .val (.ref bR6), .val (.ref bR34), .val (.ref bR51), .val (.int 1), .val (.int 1), .val (.int 1), .unset]) rfl ?_
    refine XS.aload X96.here hx rfl (hb hby at_130) rfl rfl ?_
    refine XS.iconst X96.here hx rfl (hb hby at_132) ?_
    refine st97.trans ?_
    refine XS.aload X97.here hx rfl (hb hby at_136) rfl rfl ?_
    refine XS.iconst X97.here hx rfl (hb hby at_138) ?_
    show oS p e below T97 m 139 #[.val (.int pI1), .val (.int pI2), .val (.int pI3), .val (.int pI4), .val (.int pI5), .val (.ref bR6), .val (.ref bR34), .val (.ref bR51), .val (.int 1), .val (.int 1), .val (.int 1), .unset] [(.int 3), (.ref bR6), (.int (own_green pI904))] _
    refine X97.caload hx (j := (3 : Int32)) (v := (.int pI904)) (by rw [e97]; exact Arq98.1) (State.isArrayOf_alike hZ.alike Arq98.2.1) Arq98.2.2 hin99 (Has.at Ahq98 hin99 rfl) (g := (mkF m 139 #[.val (.int pI1), .val (.int pI2), .val (.int pI3), .val (.int pI4), .val (.int pI5), .val (.ref bR6), .val (.ref bR34), .val (.ref bR51), .val (.int 1), .val (.int 1), .val (.int 1), .unset] [(.int 3), (.ref bR6), (.int (own_green pI904))])) rfl rfl (hb hby at_139) _ ?_
    refine st100 _ ?_
    refine XS.icmpNo X100.here hx rfl (hb hby at_143) rfl (teq (rfl : (own_green pI904) = (own_green pI904))).2 ?_
    refine XS.iconst X100.here hx rfl (hb hby at_146) ?_
    refine XS.goto X100.here hx rfl (pc0 := 147) (pc' := 151) rfl (hb hby at_147) (by decide) (by decide) ?_
    refine XS.istore X100.here hx rfl (hb hby at_151) rfl (l' := #[.val (.int pI1), .val (.int pI2), .val (.int pI3), .val (.int pI4), .val (.int pI5), .val (.ref bR6), .val (.ref bR34), .val (.ref bR51), .val (.int 1), .val (.int 1), .val (.int 1), .val (.int 1)]) rfl ?_
    show oS p e below T100 m 153 #[.val (.int pI1), .val (.int pI2), .val (.int pI3), .val (.int pI4), .val (.int pI5), .val (.ref bR6), .val (.ref bR34), .val (.ref bR51), .val (.int 1), .val (.int 1), .val (.int 1), .val (.int 1)] [] _
    refine XS.iload X100.here hx rfl (hb hby at_153) rfl ?_
    refine XS.ifNo X100.here hx rfl (hb hby at_155) rfl ((if0 _ _).trans (feq (by decide : ¬ ((1 : Int32) = (0 : Int32)))).1) ?_
    refine XS.iload X100.here hx rfl (hb hby at_158) rfl ?_
    refine XS.ifNo X100.here hx rfl (hb hby at_160) rfl ((if0 _ _).trans (feq (by decide : ¬ ((1 : Int32) = (0 : Int32)))).1) ?_
    refine XS.iload X100.here hx rfl (hb hby at_163) rfl ?_
    refine XS.ifNo X100.here hx rfl (hb hby at_165) rfl ((if0 _ _).trans (feq (by decide : ¬ ((1 : Int32) = (0 : Int32)))).1) ?_
    show oS p e below T100 m 168 #[.val (.int pI1), .val (.int pI2), .val (.int pI3), .val (.int pI4), .val (.int pI5), .val (.ref bR6), .val (.ref bR34), .val (.ref bR51), .val (.int 1), .val (.int 1), .val (.int 1), .val (.int 1)] [] _
    refine XS.iload X100.here hx rfl (hb hby at_168) rfl ?_
    refine XS.ifNo X100.here hx rfl (hb hby at_170) rfl ((if0 _ _).trans (feq (by decide : ¬ ((1 : Int32) = (0 : Int32)))).1) ?_
    refine XS.iconst X100.here hx rfl (hb hby at_173) ?_
    refine XS.goto X100.here hx rfl (pc0 := 174) (pc' := 178) rfl (hb hby at_174) (by decide) (by decide) ?_
    exact retN X100 hx (t := .boolean) Bd.returns (by simp) (hb hby at_178) hr
  · show QlawL Z pI1 pI2 pI3 pI4 pI5 pI901 pI902 pI903 pI904 pI40 pV72 h0 n0 _ T100.heap _
    rw [e100]
    exact ⟨rfl, N100⟩
theorem ef_lawU (m : MethodId) (pI1 : Int32) (pI2 : Int32) (pI3 : Int32) (pI4 : Int32) (pI5 : Int32) : entryFrame m #[(.int pI1), (.int pI2), (.int pI3), (.int pI4), (.int pI5)] maxLocals = mkF m 0 #[.val (.int pI1), .val (.int pI2), .val (.int pI3), .val (.int pI4), .val (.int pI5), .unset, .unset, .unset, .unset, .unset, .unset, .unset] [] := by first | (simp [entryFrame, mkF, argsToLocals, Value.category, maxLocals]; done) | rfl
def QlawU (Z : State) (pI1 : Int32) (pI2 : Int32) (pI3 : Int32) (pI4 : Int32) (pI5 : Int32) (pI901 : Int32) (pI902 : Int32) (pI903 : Int32) (pI904 : Int32) (pI40 : Int32) (pV90 : Value) (h0 : Heap) (n0 : Nat) (v : Option Value) (h : Heap) (L : List Loc) : Prop := v = some (.int 1) ∧ Fr n0 L
set_option maxRecDepth 65536 in
set_option maxHeartbeats 40000000 in
theorem lawU (l : Launch) (Z : State) (a0 : Array Value) (hw : ∀ d ∈ tables_1, d.before a0 Z = true) (ws : List Jvm.Cond) (pI1 : Int32) (pI2 : Int32) (pI3 : Int32) (pI4 : Int32) (pI5 : Int32) (pI901 : Int32) (pI902 : Int32) (pI903 : Int32) (pI904 : Int32) (pI40 : Int32) (pV90 : Value) (h0 : Heap) (n0 : Nat) (Z0 : n0 ≤ h0.size) (S_String_COMPACT_STRINGS : Sta Z h0 "java/lang/String" "COMPACT_STRINGS" "Z" (.int pI40)) (S_StringUTF16__assertionsDisabled : Sta Z h0 "java/lang/StringUTF16" "$assertionsDisabled" "Z" (.int 1)) (S_StringUTF16_HI_BYTE_SHIFT : Sta Z h0 "java/lang/StringUTF16" "HI_BYTE_SHIFT" "I" (.int 0)) (S_StringUTF16_LO_BYTE_SHIFT : Sta Z h0 "java/lang/StringUTF16" "LO_BYTE_SHIFT" "I" (.int 8)) (S_Preconditions_SIOOBE_FORMATTER : Sta Z h0 "jdk/internal/util/Preconditions" "SIOOBE_FORMATTER" "Ljava/util/function/BiFunction;" pV90) (hr0 : 0 ≤ pI901.toInt ∧ pI901.toInt ≤ 65535) (hr1 : 0 ≤ pI902.toInt ∧ pI902.toInt ≤ 65535) (hr2 : 0 ≤ pI903.toInt ∧ pI903.toInt ≤ 65535) (hr3 : 0 ≤ pI904.toInt ∧ pI904.toInt ≤ 65535) (hU : (255 : Int32) < pI901 ∨ (255 : Int32) < pI902 ∨ (255 : Int32) < pI903 ∨ (255 : Int32) < pI904) (hr9 : (own_pick pI1) = pI901) (hr17 : (own_pick pI2) = pI902) (hr25 : (own_pick pI3) = pI903) (hr33 : (own_pick pI4) = pI904) (hc43 : ¬ (pI40 = (0 : Int32))) (hc64 : pV90.isRef = true) :
    oM l x code maxLocals ret ws room_1 #[(.int pI1), (.int pI2), (.int pI3), (.int pI4), (.int pI5)] Z h0 (QlawU Z pI1 pI2 pI3 pI4 pI5 pI901 pI902 pI903 pI904 pI40 pV90 h0 n0) := by
  refine MetFree.of_bodySF (plainFor_of_name pn_0) hisR ?_
  intro p e s m args below meth c s₁ Bd hml0 hP hK
  obtain ⟨rfl, hZ, hh⟩ := hP
  have hx := Bd.exec
  have hby := Bd.bytes
  have hml : c.maxLocals = 12 := hml0
  have hown : s.vm.findClass "com/example/watchful_junction/watchfuljunction/importer/PhaseGreenPinLaw" = some m.cls := findClass_of_methodNamed Bd.named
  have hnm := (name_of_methodNamed Bd.named Bd.method).1
  have X0 : Stand p l e room_1 s m #[(.int pI1), (.int pI2), (.int pI3), (.int pI4), (.int pI5)] below meth c s₁ [] 0 0 := Stand.of_body Bd
  have e0 : s₁.heap = h0 := by rw [← hh, Bd.state]; rfl
  have N0 := Fr.nil n0
  obtain ⟨T6, h6, k6, X6, e6, E6, A6, st6⟩ := newP X0 hx hZ (ow hw 0 rfl) e0 (g := (mkF m 1 #[.val (.int pI1), .val (.int pI2), .val (.int pI3), .val (.int pI4), .val (.int pI5), .unset, .unset, .unset, .unset, .unset, .unset, .unset] [(.int 4)])) rfl (hb hby at_1) rfl (by decide) (cap := 4) (by decide) (by decide) (by decide) (by decide)
  obtain ⟨bR6, g6⟩ : ∃ z, z = h0.size := ⟨_, rfl⟩
  rw [← g6] at A6 st6
  have Z8 : n0 ≤ h6.size := (Nat.le_trans Z0 E6.1)
  have V6 : Arv Z h6 bR6 k6 .char (4 : Int32) [(.int 0), (.int 0), (.int 0), (.int 0)] (.int (0 : Int32)) := (Arv.new A6 (by decide)).pad (pad_rep [] (.int (0 : Int32)) 4)
  obtain ⟨_, _, ⟨T9, L9, k9, n9⟩, -, X9, ⟨Lc9, hQ9, l9, y9, z9⟩, st9⟩ := Jvm.LawKit.callS X6 hx (y := yN0) hown (mvT hZ (ow hw 1 rfl)) (mvT hZ (ow hw 2 rfl)) (mvT hZ (ow hw 3 rfl)) (mvT hZ (ow hw 4 rfl)) (by decide) (backOf (W := 2) (pick l Z a0 hw [] pI1 h6 n0 Z8 ) hZ (ow hw 4 rfl) (ow hw 3 rfl) (by decide) (by decide)) (g := (mkF m 9 #[.val (.int pI1), .val (.int pI2), .val (.int pI3), .val (.int pI4), .val (.int pI5), .val (.ref bR6), .unset, .unset, .unset, .unset, .unset, .unset] [(.int pI1), (.int 0), (.ref bR6)])) rfl (by rw [hml]; rfl) (argsL := [(.int pI1)]) (rest := [(.int 0), (.ref bR6)]) (lenOf pd_13 rfl) rfl (Nat.le_refl _) (hb hby at_9) (fun _ _ => ⟨rfl, e6, (by decide : 1 + 0 ≤ _), (by decide : 4 + 0 ≤ _)⟩)
  dsimp only [Pt.U, Pt.locs, Pt.cells, Pt.slots] at X9 l9 y9 z9 st9 hQ9
  subst l9 y9 z9
  obtain ⟨rfl, Nq9, e9⟩ := hQ9
  have N9 := Fr.app N0 Nq9
  have g10 : n0 ≤ bR6 := Nat.le_trans Z0 (Nat.le_of_eq g6.symm)
  obtain ⟨clq11, Arq11, Akq11, Asq11, Anq11, Ahq11, Agq11⟩ := id V6
  have hin12 : ¬ ((0 : Int32) < 0 ∨ clq11.slots.size ≤ ((0 : Int32)).toNatClampNeg) := inb_of Asq11 ⟨by decide, by decide⟩
  obtain ⟨T13, h13, X13, e13, W13, st13⟩ := stC X9 hx hZ e9 Arq11 (j := (0 : Int32)) hin12 (g := (mkF m 12 #[.val (.int pI1), .val (.int pI2), .val (.int pI3), .val (.int pI4), .val (.int pI5), .val (.ref bR6), .unset, .unset, .unset, .unset, .unset, .unset] [(.int pI901), (.int 0), (.ref bR6)])) rfl rfl (hb hby at_12)
  rw [own_narc hr0] at W13
  have Z15 : n0 ≤ h13.size := (Nat.le_trans Z8 (Keep.of_wr W13).1)
  have N13 := Fr.snoc X13 N9 g10
  obtain ⟨Lh13, X13, N13⟩ := own_hide X13 N13
  have V13 : Arv Z h13 bR6 k6 .char (4 : Int32) [(.int pI901), (.int 0), (.int 0), (.int 0)] (.int (0 : Int32)) := Arv.set Arq11 Akq11 Asq11 Anq11 Ahq11 Agq11 (own_fitc hr0) W13 0 rfl (Nat.le_of_ble_eq_true rfl)
  obtain ⟨_, _, ⟨T16, L16, k16, n16⟩, -, X16, ⟨Lc16, hQ16, l16, y16, z16⟩, st16⟩ := Jvm.LawKit.callS X13 hx (y := yN0) hown (mvT hZ (ow hw 1 rfl)) (mvT hZ (ow hw 2 rfl)) (mvT hZ (ow hw 3 rfl)) (mvT hZ (ow hw 4 rfl)) (by decide) (backOf (W := 2) (pick l Z a0 hw [] pI2 h13 n0 Z15 ) hZ (ow hw 4 rfl) (ow hw 3 rfl) (by decide) (by decide)) (g := (mkF m 17 #[.val (.int pI1), .val (.int pI2), .val (.int pI3), .val (.int pI4), .val (.int pI5), .val (.ref bR6), .unset, .unset, .unset, .unset, .unset, .unset] [(.int pI2), (.int 1), (.ref bR6)])) rfl (by rw [hml]; rfl) (argsL := [(.int pI2)]) (rest := [(.int 1), (.ref bR6)]) (lenOf pd_13 rfl) rfl (Nat.le_refl _) (hb hby at_17) (fun _ _ => ⟨rfl, e13, (by decide : 1 + 0 ≤ _), (by decide : 4 + 0 ≤ _)⟩)
  dsimp only [Pt.U, Pt.locs, Pt.cells, Pt.slots] at X16 l16 y16 z16 st16 hQ16
  subst l16 y16 z16
  obtain ⟨rfl, Nq16, e16⟩ := hQ16
  have N16 := Fr.app N13 Nq16
  obtain ⟨clq17, Arq17, Akq17, Asq17, Anq17, Ahq17, Agq17⟩ := id V13
  have hin18 : ¬ ((1 : Int32) < 0 ∨ clq17.slots.size ≤ ((1 : Int32)).toNatClampNeg) := inb_of Asq17 ⟨by decide, by decide⟩
  obtain ⟨T19, h19, X19, e19, W19, st19⟩ := stC X16 hx hZ e16 Arq17 (j := (1 : Int32)) hin18 (g := (mkF m 20 #[.val (.int pI1), .val (.int pI2), .val (.int pI3), .val (.int pI4), .val (.int pI5), .val (.ref bR6), .unset, .unset, .unset, .unset, .unset, .unset] [(.int pI902), (.int 1), (.ref bR6)])) rfl rfl (hb hby at_20)
  rw [own_narc hr1] at W19
  have Z21 : n0 ≤ h19.size := (Nat.le_trans Z15 (Keep.of_wr W19).1)
  have N19 := Fr.snoc X19 N16 g10
  obtain ⟨Lh19, X19, N19⟩ := own_hide X19 N19
  have V19 : Arv Z h19 bR6 k6 .char (4 : Int32) [(.int pI901), (.int pI902), (.int 0), (.int 0)] (.int (0 : Int32)) := Arv.set Arq17 Akq17 Asq17 Anq17 Ahq17 Agq17 (own_fitc hr1) W19 1 rfl (Nat.le_of_ble_eq_true rfl)
  obtain ⟨_, _, ⟨T22, L22, k22, n22⟩, -, X22, ⟨Lc22, hQ22, l22, y22, z22⟩, st22⟩ := Jvm.LawKit.callS X19 hx (y := yN0) hown (mvT hZ (ow hw 1 rfl)) (mvT hZ (ow hw 2 rfl)) (mvT hZ (ow hw 3 rfl)) (mvT hZ (ow hw 4 rfl)) (by decide) (backOf (W := 2) (pick l Z a0 hw [] pI3 h19 n0 Z21 ) hZ (ow hw 4 rfl) (ow hw 3 rfl) (by decide) (by decide)) (g := (mkF m 25 #[.val (.int pI1), .val (.int pI2), .val (.int pI3), .val (.int pI4), .val (.int pI5), .val (.ref bR6), .unset, .unset, .unset, .unset, .unset, .unset] [(.int pI3), (.int 2), (.ref bR6)])) rfl (by rw [hml]; rfl) (argsL := [(.int pI3)]) (rest := [(.int 2), (.ref bR6)]) (lenOf pd_13 rfl) rfl (Nat.le_refl _) (hb hby at_25) (fun _ _ => ⟨rfl, e19, (by decide : 1 + 0 ≤ _), (by decide : 4 + 0 ≤ _)⟩)
  dsimp only [Pt.U, Pt.locs, Pt.cells, Pt.slots] at X22 l22 y22 z22 st22 hQ22
  subst l22 y22 z22
  obtain ⟨rfl, Nq22, e22⟩ := hQ22
  have N22 := Fr.app N19 Nq22
  obtain ⟨clq23, Arq23, Akq23, Asq23, Anq23, Ahq23, Agq23⟩ := id V19
  have hin24 : ¬ ((2 : Int32) < 0 ∨ clq23.slots.size ≤ ((2 : Int32)).toNatClampNeg) := inb_of Asq23 ⟨by decide, by decide⟩
  obtain ⟨T25, h25, X25, e25, W25, st25⟩ := stC X22 hx hZ e22 Arq23 (j := (2 : Int32)) hin24 (g := (mkF m 28 #[.val (.int pI1), .val (.int pI2), .val (.int pI3), .val (.int pI4), .val (.int pI5), .val (.ref bR6), .unset, .unset, .unset, .unset, .unset, .unset] [(.int pI903), (.int 2), (.ref bR6)])) rfl rfl (hb hby at_28)
  rw [own_narc hr2] at W25
  have Z27 : n0 ≤ h25.size := (Nat.le_trans Z21 (Keep.of_wr W25).1)
  have N25 := Fr.snoc X25 N22 g10
  obtain ⟨Lh25, X25, N25⟩ := own_hide X25 N25
  have V25 : Arv Z h25 bR6 k6 .char (4 : Int32) [(.int pI901), (.int pI902), (.int pI903), (.int 0)] (.int (0 : Int32)) := Arv.set Arq23 Akq23 Asq23 Anq23 Ahq23 Agq23 (own_fitc hr2) W25 2 rfl (Nat.le_of_ble_eq_true rfl)
  obtain ⟨_, _, ⟨T28, L28, k28, n28⟩, -, X28, ⟨Lc28, hQ28, l28, y28, z28⟩, st28⟩ := Jvm.LawKit.callS X25 hx (y := yN0) hown (mvT hZ (ow hw 1 rfl)) (mvT hZ (ow hw 2 rfl)) (mvT hZ (ow hw 3 rfl)) (mvT hZ (ow hw 4 rfl)) (by decide) (backOf (W := 2) (pick l Z a0 hw [] pI4 h25 n0 Z27 ) hZ (ow hw 4 rfl) (ow hw 3 rfl) (by decide) (by decide)) (g := (mkF m 33 #[.val (.int pI1), .val (.int pI2), .val (.int pI3), .val (.int pI4), .val (.int pI5), .val (.ref bR6), .unset, .unset, .unset, .unset, .unset, .unset] [(.int pI4), (.int 3), (.ref bR6)])) rfl (by rw [hml]; rfl) (argsL := [(.int pI4)]) (rest := [(.int 3), (.ref bR6)]) (lenOf pd_13 rfl) rfl (Nat.le_refl _) (hb hby at_33) (fun _ _ => ⟨rfl, e25, (by decide : 1 + 0 ≤ _), (by decide : 4 + 0 ≤ _)⟩)
  dsimp only [Pt.U, Pt.locs, Pt.cells, Pt.slots] at X28 l28 y28 z28 st28 hQ28
  subst l28 y28 z28
  obtain ⟨rfl, Nq28, e28⟩ := hQ28
  have N28 := Fr.app N25 Nq28
  obtain ⟨clq29, Arq29, Akq29, Asq29, Anq29, Ahq29, Agq29⟩ := id V25
  have hin30 : ¬ ((3 : Int32) < 0 ∨ clq29.slots.size ≤ ((3 : Int32)).toNatClampNeg) := inb_of Asq29 ⟨by decide, by decide⟩
  obtain ⟨T31, h31, X31, e31, W31, st31⟩ := stC X28 hx hZ e28 Arq29 (j := (3 : Int32)) hin30 (g := (mkF m 36 #[.val (.int pI1), .val (.int pI2), .val (.int pI3), .val (.int pI4), .val (.int pI5), .val (.ref bR6), .unset, .unset, .unset, .unset, .unset, .unset] [(.int pI904), (.int 3), (.ref bR6)])) rfl rfl (hb hby at_36)
  rw [own_narc hr3] at W31
  have Z33 : n0 ≤ h31.size := (Nat.le_trans Z27 (Keep.of_wr W31).1)
  have N31 := Fr.snoc X31 N28 g10
  obtain ⟨Lh31, X31, N31⟩ := own_hide X31 N31
  have V31 : Arv Z h31 bR6 k6 .char (4 : Int32) [(.int pI901), (.int pI902), (.int pI903), (.int pI904)] (.int (0 : Int32)) := Arv.set Arq29 Akq29 Asq29 Anq29 Ahq29 Agq29 (own_fitc hr3) W31 3 rfl (Nat.le_of_ble_eq_true rfl)
  obtain ⟨T34, h34, X34, e34, E34, A34, D34, U34, st34⟩ := newO X31 hx hZ hown (ow hw 5 rfl) (ow hw 6 rfl) (ow hw 7 rfl) e31 (g := (mkF m 37 #[.val (.int pI1), .val (.int pI2), .val (.int pI3), .val (.int pI4), .val (.int pI5), .val (.ref bR6), .unset, .unset, .unset, .unset, .unset, .unset] [])) rfl (hb hby at_37) (by decide) (by decide)
  obtain ⟨bR34, g34⟩ : ∃ z, z = h31.size := ⟨_, rfl⟩
  rw [← g34] at A34 D34 U34 st34
  have Z36 : n0 ≤ h34.size := (Nat.le_trans Z33 E34.1)
  have F37 : Fld Z h34 bR34 "java/lang/String" "coder" "B" (.int 0) := D34 (Or.inr (ow hw 31 rfl)) (ty := .byte) (by decide)
  have F38 : Fld Z h34 bR34 "java/lang/String" "value" "[B" .null := D34 (Or.inr (ow hw 33 rfl)) (ty := (.array .byte)) (by decide)
  have c39 : Arv Z h34 bR6 k6 .char (4 : Int32) [(.int pI901), (.int pI902), (.int pI903), (.int pI904)] (.int (0 : Int32)) := V31.ext E34
  have c41 : Sta Z h6 "java/lang/String" "COMPACT_STRINGS" "Z" (.int pI40) := S_String_COMPACT_STRINGS.ext E6
  have c42 : Sta Z h13 "java/lang/String" "COMPACT_STRINGS" "Z" (.int pI40) := c41.wr W13
  have c43 : Sta Z h19 "java/lang/String" "COMPACT_STRINGS" "Z" (.int pI40) := c42.wr W19
  have c44 : Sta Z h25 "java/lang/String" "COMPACT_STRINGS" "Z" (.int pI40) := c43.wr W25
  have c45 : Sta Z h31 "java/lang/String" "COMPACT_STRINGS" "Z" (.int pI40) := c44.wr W31
  have c46 : Sta Z h34 "java/lang/String" "COMPACT_STRINGS" "Z" (.int pI40) := c45.ext E34
  have c47 : Sta Z h6 "java/lang/StringUTF16" "$assertionsDisabled" "Z" (.int 1) := S_StringUTF16__assertionsDisabled.ext E6
  have c48 : Sta Z h13 "java/lang/StringUTF16" "$assertionsDisabled" "Z" (.int 1) := c47.wr W13
  have c49 : Sta Z h19 "java/lang/StringUTF16" "$assertionsDisabled" "Z" (.int 1) := c48.wr W19
  have c50 : Sta Z h25 "java/lang/StringUTF16" "$assertionsDisabled" "Z" (.int 1) := c49.wr W25
  have c51 : Sta Z h31 "java/lang/StringUTF16" "$assertionsDisabled" "Z" (.int 1) := c50.wr W31
  have c52 : Sta Z h34 "java/lang/StringUTF16" "$assertionsDisabled" "Z" (.int 1) := c51.ext E34
  have c53 : Sta Z h6 "java/lang/StringUTF16" "HI_BYTE_SHIFT" "I" (.int 0) := S_StringUTF16_HI_BYTE_SHIFT.ext E6
  have c54 : Sta Z h13 "java/lang/StringUTF16" "HI_BYTE_SHIFT" "I" (.int 0) := c53.wr W13
  have c55 : Sta Z h19 "java/lang/StringUTF16" "HI_BYTE_SHIFT" "I" (.int 0) := c54.wr W19
  have c56 : Sta Z h25 "java/lang/StringUTF16" "HI_BYTE_SHIFT" "I" (.int 0) := c55.wr W25
  have c57 : Sta Z h31 "java/lang/StringUTF16" "HI_BYTE_SHIFT" "I" (.int 0) := c56.wr W31
  have c58 : Sta Z h34 "java/lang/StringUTF16" "HI_BYTE_SHIFT" "I" (.int 0) := c57.ext E34
  have c59 : Sta Z h6 "java/lang/StringUTF16" "LO_BYTE_SHIFT" "I" (.int 8) := S_StringUTF16_LO_BYTE_SHIFT.ext E6
  have c60 : Sta Z h13 "java/lang/StringUTF16" "LO_BYTE_SHIFT" "I" (.int 8) := c59.wr W13
  have c61 : Sta Z h19 "java/lang/StringUTF16" "LO_BYTE_SHIFT" "I" (.int 8) := c60.wr W19
  have c62 : Sta Z h25 "java/lang/StringUTF16" "LO_BYTE_SHIFT" "I" (.int 8) := c61.wr W25
  have c63 : Sta Z h31 "java/lang/StringUTF16" "LO_BYTE_SHIFT" "I" (.int 8) := c62.wr W31
  have c64 : Sta Z h34 "java/lang/StringUTF16" "LO_BYTE_SHIFT" "I" (.int 8) := c63.ext E34
  have g65 : n0 ≤ bR34 := Nat.le_trans Z33 (Nat.le_of_eq g34.symm)
  obtain ⟨_, _, ⟨T66, L66, k66, n66⟩, -, X66, ⟨Lc66, hQ66, l66, y66, z66⟩, st66⟩ := X34.specialBack hx (y := yN11) rfl hown (mvT hZ (ow hw 8 rfl)) (mvT hZ (ow hw 9 rfl)) (mvT hZ (ow hw 10 rfl)) (by decide) (backOf (W := 1) (strU l Z a0 hw [] bR34 bR6 pI901 pI902 pI903 pI904 k6 pI40 h34 n0 Z36 c39 c46 c52 c58 c64 A34 F37 g65 F38 hc43 hU hr0 hr1 hr2 hr3) hZ (ow hw 10 rfl) (ow hw 7 rfl) (by decide) (by decide)) (g := (mkF m 43 #[.val (.int pI1), .val (.int pI2), .val (.int pI3), .val (.int pI4), .val (.int pI5), .val (.ref bR6), .unset, .unset, .unset, .unset, .unset, .unset] [(.ref bR6), (.ref bR34), (.ref bR34)])) rfl (by rw [hml]; rfl) (Steps.refl _) (a := bR34) (argsL := [(.ref bR6)]) (rest := [(.ref bR34)]) (lenOf pd_14 rfl) rfl (Nat.le_refl _) (hb hby at_43) (fun _ _ => ⟨rfl, e34, (by decide : 2 + 2 ≤ _), (by decide : 8 + 12 ≤ _)⟩)
  dsimp only [Pt.U, Pt.locs, Pt.cells, Pt.slots] at X66 l66 y66 z66 st66 hQ66
  subst l66 y66 z66
  obtain ⟨bR66_0, kK66_0, rfl, Nq66, Kq66, sz66_0, x66_0, x66_1, x66_2, x66_3⟩ := hQ66
  have N66 := Fr.app N31 Nq66
  obtain ⟨Lh66, X66, N66⟩ := own_hide X66 N66
  have Z68 : n0 ≤ T66.heap.size := (Nat.le_trans Z36 Kq66.1)
  obtain ⟨T69, h69, X69, e69, E69, A69, D69, U69, st69⟩ := newO X66 hx hZ hown (ow hw 34 rfl) (ow hw 35 rfl) (ow hw 36 rfl) rfl (g := (mkF m 48 #[.val (.int pI1), .val (.int pI2), .val (.int pI3), .val (.int pI4), .val (.int pI5), .val (.ref bR6), .val (.ref bR34), .unset, .unset, .unset, .unset, .unset] [])) rfl (hb hby at_48) (by decide) (by decide)
  obtain ⟨bR69, g69⟩ : ∃ z, z = T66.heap.size := ⟨_, rfl⟩
  rw [← g69] at A69 D69 U69 st69
  have Z71 : n0 ≤ h69.size := (Nat.le_trans Z68 E69.1)
  have F72 : Fld Z h69 bR69 "com/example/watchful_junction/watchfuljunction/importer/Network$Phase" "durationS" "I" (.int 0) := D69 (Or.inr (ow hw 42 rfl)) (ty := .int) (by decide)
  have F73 : Fld Z h69 bR69 "com/example/watchful_junction/watchfuljunction/importer/Network$Phase" "state" "Ljava/lang/String;" .null := D69 (Or.inr (ow hw 44 rfl)) (ty := (.object "java/lang/String")) (by decide)
  have g74 : n0 ≤ bR69 := Nat.le_trans Z68 (Nat.le_of_eq g69.symm)
  obtain ⟨_, _, ⟨T75, L75, k75, n75⟩, -, X75, ⟨Lc75, hQ75, l75, y75, z75⟩, st75⟩ := X69.specialBack hx (y := yN21) rfl hown (mvT hZ (ow hw 37 rfl)) (mvT hZ (ow hw 38 rfl)) (mvT hZ (ow hw 39 rfl)) (by decide) (backOf (W := 1) (phI l Z a0 hw [] bR69 pI5 bR34 h69 n0 Z71 A69 F72 g74 F73) hZ (ow hw 39 rfl) (ow hw 36 rfl) (by decide) (by decide)) (g := (mkF m 56 #[.val (.int pI1), .val (.int pI2), .val (.int pI3), .val (.int pI4), .val (.int pI5), .val (.ref bR6), .val (.ref bR34), .unset, .unset, .unset, .unset, .unset] [(.ref bR34), (.int pI5), (.ref bR69), (.ref bR69)])) rfl (by rw [hml]; rfl) (Steps.refl _) (a := bR69) (argsL := [(.int pI5), (.ref bR34)]) (rest := [(.ref bR69)]) (lenOf pd_15 rfl) rfl (Nat.le_refl _) (hb hby at_56) (fun _ _ => ⟨rfl, e69, (by decide : 5 + 0 ≤ _), (by decide : 22 + 0 ≤ _)⟩)
  dsimp only [Pt.U, Pt.locs, Pt.cells, Pt.slots] at X75 l75 y75 z75 st75 hQ75
  subst l75 y75 z75
  obtain ⟨rfl, Nq75, Kq75, x75_0, x75_1, x75_2⟩ := hQ75
  have N75 := Fr.app N66 Nq75
  obtain ⟨Lh75, X75, N75⟩ := own_hide X75 N75
  have Z77 : n0 ≤ T75.heap.size := (Nat.le_trans Z71 Kq75.1)
  have c78 : Sta Z T66.heap "java/lang/String" "COMPACT_STRINGS" "Z" (.int pI40) := own_sta_keep c46 Kq66 (allS (own_plain_E A34) all0)
  have c79 : Sta Z h69 "java/lang/String" "COMPACT_STRINGS" "Z" (.int pI40) := c78.ext E69
  have c80 : Sta Z T75.heap "java/lang/String" "COMPACT_STRINGS" "Z" (.int pI40) := own_sta_keep c79 Kq75 (allS (own_plain_E A69) all0)
  have c81 : Fld Z h69 bR34 "java/lang/String" "coder" "B" (.int 1) := x66_2.ext E69
  have c82 : Exa Z T66.heap bR34 "java/lang/String" := A34.keep Kq66
  have c83 : Fld Z T75.heap bR34 "java/lang/String" "coder" "B" (.int 1) := c81.keep Kq75 (ninS (Nat.ne_of_lt (Nat.lt_of_lt_of_le c82.lt (Nat.le_of_eq g69.symm))) nin0)
  have c84 : Exa Z h69 bR34 "java/lang/String" := x66_0.ext E69
  have c85 : Exa Z T75.heap bR34 "java/lang/String" := c84.keep Kq75
  have c86 : Fld Z h69 bR34 "java/lang/String" "value" "[B" (.ref bR66_0) := x66_3.ext E69
  have c87 : Fld Z T75.heap bR34 "java/lang/String" "value" "[B" (.ref bR66_0) := c86.keep Kq75 (ninS (Nat.ne_of_lt (Nat.lt_of_lt_of_le c82.lt (Nat.le_of_eq g69.symm))) nin0)
  have c88 : Arv Z h69 bR66_0 kK66_0 .byte (8 : Int32) [(.int ((pI901 >>> ((0 : Int32) &&& 31)).toInt8.toInt32)), (.int ((pI901 >>> ((8 : Int32) &&& 31)).toInt8.toInt32)), (.int ((pI902 >>> ((0 : Int32) &&& 31)).toInt8.toInt32)), (.int ((pI902 >>> ((8 : Int32) &&& 31)).toInt8.toInt32)), (.int ((pI903 >>> ((0 : Int32) &&& 31)).toInt8.toInt32)), (.int ((pI903 >>> ((8 : Int32) &&& 31)).toInt8.toInt32)), (.int ((pI904 >>> ((0 : Int32) &&& 31)).toInt8.toInt32)), (.int ((pI904 >>> ((8 : Int32) &&& 31)).toInt8.toInt32))] (.int (0 : Int32)) := x66_1.ext E69
  have c89 : Arv Z T75.heap bR66_0 kK66_0 .byte (8 : Int32) [(.int ((pI901 >>> ((0 : Int32) &&& 31)).toInt8.toInt32)), (.int ((pI901 >>> ((8 : Int32) &&& 31)).toInt8.toInt32)), (.int ((pI902 >>> ((0 : Int32) &&& 31)).toInt8.toInt32)), (.int ((pI902 >>> ((8 : Int32) &&& 31)).toInt8.toInt32)), (.int ((pI903 >>> ((0 : Int32) &&& 31)).toInt8.toInt32)), (.int ((pI903 >>> ((8 : Int32) &&& 31)).toInt8.toInt32)), (.int ((pI904 >>> ((0 : Int32) &&& 31)).toInt8.toInt32)), (.int ((pI904 >>> ((8 : Int32) &&& 31)).toInt8.toInt32))] (.int (0 : Int32)) := c88.keep Kq75 (ninS (Nat.ne_of_lt (Nat.lt_of_lt_of_le x66_1.lt (Nat.le_of_eq g69.symm))) nin0)
  have c91 : Sta Z h6 "jdk/internal/util/Preconditions" "SIOOBE_FORMATTER" "Ljava/util/function/BiFunction;" pV90 := S_Preconditions_SIOOBE_FORMATTER.ext E6
  have c92 : Sta Z h13 "jdk/internal/util/Preconditions" "SIOOBE_FORMATTER" "Ljava/util/function/BiFunction;" pV90 := c91.wr W13
  have c93 : Sta Z h19 "jdk/internal/util/Preconditions" "SIOOBE_FORMATTER" "Ljava/util/function/BiFunction;" pV90 := c92.wr W19
  have c94 : Sta Z h25 "jdk/internal/util/Preconditions" "SIOOBE_FORMATTER" "Ljava/util/function/BiFunction;" pV90 := c93.wr W25
  have c95 : Sta Z h31 "jdk/internal/util/Preconditions" "SIOOBE_FORMATTER" "Ljava/util/function/BiFunction;" pV90 := c94.wr W31
  have c96 : Sta Z h34 "jdk/internal/util/Preconditions" "SIOOBE_FORMATTER" "Ljava/util/function/BiFunction;" pV90 := c95.ext E34
  have c97 : Sta Z T66.heap "jdk/internal/util/Preconditions" "SIOOBE_FORMATTER" "Ljava/util/function/BiFunction;" pV90 := own_sta_keep c96 Kq66 (allS (own_plain_E A34) all0)
  have c98 : Sta Z h69 "jdk/internal/util/Preconditions" "SIOOBE_FORMATTER" "Ljava/util/function/BiFunction;" pV90 := c97.ext E69
  have c99 : Sta Z T75.heap "jdk/internal/util/Preconditions" "SIOOBE_FORMATTER" "Ljava/util/function/BiFunction;" pV90 := own_sta_keep c98 Kq75 (allS (own_plain_E A69) all0)
  have c100 : Sta Z T66.heap "java/lang/StringUTF16" "$assertionsDisabled" "Z" (.int 1) := own_sta_keep c52 Kq66 (allS (own_plain_E A34) all0)
  have c101 : Sta Z h69 "java/lang/StringUTF16" "$assertionsDisabled" "Z" (.int 1) := c100.ext E69
  have c102 : Sta Z T75.heap "java/lang/StringUTF16" "$assertionsDisabled" "Z" (.int 1) := own_sta_keep c101 Kq75 (allS (own_plain_E A69) all0)
  have c103 : Sta Z T66.heap "java/lang/StringUTF16" "HI_BYTE_SHIFT" "I" (.int 0) := own_sta_keep c58 Kq66 (allS (own_plain_E A34) all0)
  have c104 : Sta Z h69 "java/lang/StringUTF16" "HI_BYTE_SHIFT" "I" (.int 0) := c103.ext E69
  have c105 : Sta Z T75.heap "java/lang/StringUTF16" "HI_BYTE_SHIFT" "I" (.int 0) := own_sta_keep c104 Kq75 (allS (own_plain_E A69) all0)
  have c106 : Sta Z T66.heap "java/lang/StringUTF16" "LO_BYTE_SHIFT" "I" (.int 8) := own_sta_keep c64 Kq66 (allS (own_plain_E A34) all0)
  have c107 : Sta Z h69 "java/lang/StringUTF16" "LO_BYTE_SHIFT" "I" (.int 8) := c106.ext E69
  have c108 : Sta Z T75.heap "java/lang/StringUTF16" "LO_BYTE_SHIFT" "I" (.int 8) := own_sta_keep c107 Kq75 (allS (own_plain_E A69) all0)
  obtain ⟨cq109, kq109, q109a, q109b, q109c⟩ := isOf hZ rfl x75_0
  obtain ⟨_, _, ⟨T109, L109, k109, n109⟩, -, X109, ⟨Lc109, hQ109, l109, y109, z109⟩, st109⟩ := X75.virtualBack hx (y := yN20) (z := yN20) hown (mvT hZ (ow hw 45 rfl)) (mvT hZ (ow hw 46 rfl)) (notFace_of_selects (args := #[]) (mvT hZ (ow hw 48 rfl))) (mvT hZ (ow hw 48 rfl)) (mvT hZ (ow hw 47 rfl)) (by decide) (backOf (W := 0) (grU0 l Z a0 hw [] bR69 bR34 pI40 bR66_0 pI901 pI902 pI903 pI904 kK66_0 pV90 T75.heap n0 Z77 x75_2 c80 c83 c85 c87 c89 c99 c102 c105 c108 hr0 hc43 hc64) hZ (ow hw 49 rfl) (ow hw 36 rfl) (by decide) (by decide)) q109a q109c (g := (mkF m 64 #[.val (.int pI1), .val (.int pI2), .val (.int pI3), .val (.int pI4), .val (.int pI5), .val (.ref bR6), .val (.ref bR34), .val (.ref bR69), .unset, .unset, .unset, .unset] [(.int 0), (.ref bR69)])) rfl (by rw [hml]; rfl) (Steps.refl _) (argsL := [(.int 0)]) (rest := []) (lenOf pd_16 rfl) rfl (Nat.le_refl _) (hb hby at_64) (fun _ _ => ⟨rfl, rfl, (by decide : 5 + 0 ≤ _), (by decide : 22 + 0 ≤ _)⟩)
  dsimp only [Pt.U, Pt.locs, Pt.cells, Pt.slots] at X109 l109 y109 z109 st109 hQ109
  subst l109 y109 z109
  obtain ⟨rfl, Nq109, e109⟩ := hQ109
  have N109 := Fr.app N75 Nq109
  have c111 : Arv Z T66.heap bR6 k6 .char (4 : Int32) [(.int pI901), (.int pI902), (.int pI903), (.int pI904)] (.int (0 : Int32)) := c39.keep Kq66 (ninS (Nat.ne_of_lt (Nat.lt_of_lt_of_le V31.lt (Nat.le_of_eq g34.symm))) nin0)
  have c112 : Arv Z h69 bR6 k6 .char (4 : Int32) [(.int pI901), (.int pI902), (.int pI903), (.int pI904)] (.int (0 : Int32)) := c111.ext E69
  have c113 : Arv Z T75.heap bR6 k6 .char (4 : Int32) [(.int pI901), (.int pI902), (.int pI903), (.int pI904)] (.int (0 : Int32)) := c112.keep Kq75 (ninS (Nat.ne_of_lt (Nat.lt_of_lt_of_le c111.lt (Nat.le_of_eq g69.symm))) nin0)
  obtain ⟨clq110, Arq110, Akq110, Asq110, Anq110, Ahq110, Agq110⟩ := id c113
  have hin114 : ¬ ((0 : Int32) < 0 ∨ clq110.slots.size ≤ ((0 : Int32)).toNatClampNeg) := inb_of Asq110 ⟨by decide, by decide⟩
  obtain ⟨_, _, ⟨T115, L115, k115, n115⟩, -, X115, ⟨Lc115, hQ115, l115, y115, z115⟩, st115⟩ := Jvm.LawKit.callS X109 hx (y := yN1) hown (mvT hZ (ow hw 72 rfl)) (mvT hZ (ow hw 73 rfl)) (mvT hZ (ow hw 3 rfl)) (mvT hZ (ow hw 74 rfl)) (by decide) (backOf (W := 1) (isg l Z a0 hw [] pI901 T75.heap n0 Z77 ) hZ (ow hw 74 rfl) (ow hw 3 rfl) (by decide) (by decide)) (g := (mkF m 71 #[.val (.int pI1), .val (.int pI2), .val (.int pI3), .val (.int pI4), .val (.int pI5), .val (.ref bR6), .val (.ref bR34), .val (.ref bR69), .unset, .unset, .unset, .unset] [(.int pI901), (.int (own_green pI901))])) rfl (by rw [hml]; rfl) (argsL := [(.int pI901)]) (rest := [(.int (own_green pI901))]) (lenOf pd_17 rfl) rfl (Nat.le_refl _) (hb hby at_71) (fun _ _ => ⟨rfl, e109, (by decide : 5 + 0 ≤ _), (by decide : 22 + 0 ≤ _)⟩)
  dsimp only [Pt.U, Pt.locs, Pt.cells, Pt.slots] at X115 l115 y115 z115 st115 hQ115
  subst l115 y115 z115
  obtain ⟨rfl, Nq115, e115⟩ := hQ115
  have N115 := Fr.app N109 Nq115
  obtain ⟨cq116, kq116, q116a, q116b, q116c⟩ := isOf hZ e115 x75_0
  obtain ⟨_, _, ⟨T116, L116, k116, n116⟩, -, X116, ⟨Lc116, hQ116, l116, y116, z116⟩, st116⟩ := X115.virtualBack hx (y := yN20) (z := yN20) hown (mvT hZ (ow hw 45 rfl)) (mvT hZ (ow hw 46 rfl)) (notFace_of_selects (args := #[]) (mvT hZ (ow hw 48 rfl))) (mvT hZ (ow hw 48 rfl)) (mvT hZ (ow hw 47 rfl)) (by decide) (backOf (W := 0) (grU1 l Z a0 hw [] bR69 bR34 pI40 bR66_0 pI901 pI902 pI903 pI904 kK66_0 pV90 T75.heap n0 Z77 x75_2 c80 c83 c85 c87 c89 c99 c102 c105 c108 hr1 hc43 hc64) hZ (ow hw 49 rfl) (ow hw 36 rfl) (by decide) (by decide)) q116a q116c (g := (mkF m 87 #[.val (.int pI1), .val (.int pI2), .val (.int pI3), .val (.int pI4), .val (.int pI5), .val (.ref bR6), .val (.ref bR34), .val (.ref bR69), .val (.int 1), .unset, .unset, .unset] [(.int 1), (.ref bR69)])) rfl (by rw [hml]; rfl) (Steps.refl _) (argsL := [(.int 1)]) (rest := []) (lenOf pd_16 rfl) rfl (Nat.le_refl _) (hb hby at_87) (fun _ _ => ⟨rfl, e115, (by decide : 5 + 0 ≤ _), (by decide : 22 + 0 ≤ _)⟩)
  dsimp only [Pt.U, Pt.locs, Pt.cells, Pt.slots] at X116 l116 y116 z116 st116 hQ116
  subst l116 y116 z116
  obtain ⟨rfl, Nq116, e116⟩ := hQ116
  have N116 := Fr.app N115 Nq116
  obtain ⟨clq117, Arq117, Akq117, Asq117, Anq117, Ahq117, Agq117⟩ := id c113
  have hin118 : ¬ ((1 : Int32) < 0 ∨ clq117.slots.size ≤ ((1 : Int32)).toNatClampNeg) := inb_of Asq117 ⟨by decide, by decide⟩
  obtain ⟨_, _, ⟨T119, L119, k119, n119⟩, -, X119, ⟨Lc119, hQ119, l119, y119, z119⟩, st119⟩ := Jvm.LawKit.callS X116 hx (y := yN1) hown (mvT hZ (ow hw 72 rfl)) (mvT hZ (ow hw 73 rfl)) (mvT hZ (ow hw 3 rfl)) (mvT hZ (ow hw 74 rfl)) (by decide) (backOf (W := 1) (isg l Z a0 hw [] pI902 T75.heap n0 Z77 ) hZ (ow hw 74 rfl) (ow hw 3 rfl) (by decide) (by decide)) (g := (mkF m 94 #[.val (.int pI1), .val (.int pI2), .val (.int pI3), .val (.int pI4), .val (.int pI5), .val (.ref bR6), .val (.ref bR34), .val (.ref bR69), .val (.int 1), .unset, .unset, .unset] [(.int pI902), (.int (own_green pI902))])) rfl (by rw [hml]; rfl) (argsL := [(.int pI902)]) (rest := [(.int (own_green pI902))]) (lenOf pd_17 rfl) rfl (Nat.le_refl _) (hb hby at_94) (fun _ _ => ⟨rfl, e116, (by decide : 5 + 0 ≤ _), (by decide : 22 + 0 ≤ _)⟩)
  dsimp only [Pt.U, Pt.locs, Pt.cells, Pt.slots] at X119 l119 y119 z119 st119 hQ119
  subst l119 y119 z119
  obtain ⟨rfl, Nq119, e119⟩ := hQ119
  have N119 := Fr.app N116 Nq119
  obtain ⟨cq120, kq120, q120a, q120b, q120c⟩ := isOf hZ e119 x75_0
  obtain ⟨_, _, ⟨T120, L120, k120, n120⟩, -, X120, ⟨Lc120, hQ120, l120, y120, z120⟩, st120⟩ := X119.virtualBack hx (y := yN20) (z := yN20) hown (mvT hZ (ow hw 45 rfl)) (mvT hZ (ow hw 46 rfl)) (notFace_of_selects (args := #[]) (mvT hZ (ow hw 48 rfl))) (mvT hZ (ow hw 48 rfl)) (mvT hZ (ow hw 47 rfl)) (by decide) (backOf (W := 0) (grU2 l Z a0 hw [] bR69 bR34 pI40 bR66_0 pI901 pI902 pI903 pI904 kK66_0 pV90 T75.heap n0 Z77 x75_2 c80 c83 c85 c87 c89 c99 c102 c105 c108 hr2 hc43 hc64) hZ (ow hw 49 rfl) (ow hw 36 rfl) (by decide) (by decide)) q120a q120c (g := (mkF m 110 #[.val (.int pI1), .val (.int pI2), .val (.int pI3), .val (.int pI4), .val (.int pI5), .val (.ref bR6), .val (.ref bR34), .val (.ref bR69), .val (.int 1), .val (.int 1), .unset, .unset] [(.int 2), (.ref bR69)])) rfl (by rw [hml]; rfl) (Steps.refl _) (argsL := [(.int 2)]) (rest := []) (lenOf pd_16 rfl) rfl (Nat.le_refl _) (hb hby at_110) (fun _ _ => ⟨rfl, e119, (by decide : 5 + 0 ≤ _), (by decide : 22 + 0 ≤ _)⟩)
  dsimp only [Pt.U, Pt.locs, Pt.cells, Pt.slots] at X120 l120 y120 z120 st120 hQ120
  subst l120 y120 z120
  obtain ⟨rfl, Nq120, e120⟩ := hQ120
  have N120 := Fr.app N119 Nq120
  obtain ⟨clq121, Arq121, Akq121, Asq121, Anq121, Ahq121, Agq121⟩ := id c113
  have hin122 : ¬ ((2 : Int32) < 0 ∨ clq121.slots.size ≤ ((2 : Int32)).toNatClampNeg) := inb_of Asq121 ⟨by decide, by decide⟩
  obtain ⟨_, _, ⟨T123, L123, k123, n123⟩, -, X123, ⟨Lc123, hQ123, l123, y123, z123⟩, st123⟩ := Jvm.LawKit.callS X120 hx (y := yN1) hown (mvT hZ (ow hw 72 rfl)) (mvT hZ (ow hw 73 rfl)) (mvT hZ (ow hw 3 rfl)) (mvT hZ (ow hw 74 rfl)) (by decide) (backOf (W := 1) (isg l Z a0 hw [] pI903 T75.heap n0 Z77 ) hZ (ow hw 74 rfl) (ow hw 3 rfl) (by decide) (by decide)) (g := (mkF m 117 #[.val (.int pI1), .val (.int pI2), .val (.int pI3), .val (.int pI4), .val (.int pI5), .val (.ref bR6), .val (.ref bR34), .val (.ref bR69), .val (.int 1), .val (.int 1), .unset, .unset] [(.int pI903), (.int (own_green pI903))])) rfl (by rw [hml]; rfl) (argsL := [(.int pI903)]) (rest := [(.int (own_green pI903))]) (lenOf pd_17 rfl) rfl (Nat.le_refl _) (hb hby at_117) (fun _ _ => ⟨rfl, e120, (by decide : 5 + 0 ≤ _), (by decide : 22 + 0 ≤ _)⟩)
  dsimp only [Pt.U, Pt.locs, Pt.cells, Pt.slots] at X123 l123 y123 z123 st123 hQ123
  subst l123 y123 z123
  obtain ⟨rfl, Nq123, e123⟩ := hQ123
  have N123 := Fr.app N120 Nq123
  obtain ⟨cq124, kq124, q124a, q124b, q124c⟩ := isOf hZ e123 x75_0
  obtain ⟨_, _, ⟨T124, L124, k124, n124⟩, -, X124, ⟨Lc124, hQ124, l124, y124, z124⟩, st124⟩ := X123.virtualBack hx (y := yN20) (z := yN20) hown (mvT hZ (ow hw 45 rfl)) (mvT hZ (ow hw 46 rfl)) (notFace_of_selects (args := #[]) (mvT hZ (ow hw 48 rfl))) (mvT hZ (ow hw 48 rfl)) (mvT hZ (ow hw 47 rfl)) (by decide) (backOf (W := 0) (grU3 l Z a0 hw [] bR69 bR34 pI40 bR66_0 pI901 pI902 pI903 pI904 kK66_0 pV90 T75.heap n0 Z77 x75_2 c80 c83 c85 c87 c89 c99 c102 c105 c108 hr3 hc43 hc64) hZ (ow hw 49 rfl) (ow hw 36 rfl) (by decide) (by decide)) q124a q124c (g := (mkF m 133 #[.val (.int pI1), .val (.int pI2), .val (.int pI3), .val (.int pI4), .val (.int pI5), .val (.ref bR6), .val (.ref bR34), .val (.ref bR69), .val (.int 1), .val (.int 1), .val (.int 1), .unset] [(.int 3), (.ref bR69)])) rfl (by rw [hml]; rfl) (Steps.refl _) (argsL := [(.int 3)]) (rest := []) (lenOf pd_16 rfl) rfl (Nat.le_refl _) (hb hby at_133) (fun _ _ => ⟨rfl, e123, (by decide : 5 + 0 ≤ _), (by decide : 22 + 0 ≤ _)⟩)
  dsimp only [Pt.U, Pt.locs, Pt.cells, Pt.slots] at X124 l124 y124 z124 st124 hQ124
  subst l124 y124 z124
  obtain ⟨rfl, Nq124, e124⟩ := hQ124
  have N124 := Fr.app N123 Nq124
  obtain ⟨clq125, Arq125, Akq125, Asq125, Anq125, Ahq125, Agq125⟩ := id c113
  have hin126 : ¬ ((3 : Int32) < 0 ∨ clq125.slots.size ≤ ((3 : Int32)).toNatClampNeg) := inb_of Asq125 ⟨by decide, by decide⟩
  obtain ⟨_, _, ⟨T127, L127, k127, n127⟩, -, X127, ⟨Lc127, hQ127, l127, y127, z127⟩, st127⟩ := Jvm.LawKit.callS X124 hx (y := yN1) hown (mvT hZ (ow hw 72 rfl)) (mvT hZ (ow hw 73 rfl)) (mvT hZ (ow hw 3 rfl)) (mvT hZ (ow hw 74 rfl)) (by decide) (backOf (W := 1) (isg l Z a0 hw [] pI904 T75.heap n0 Z77 ) hZ (ow hw 74 rfl) (ow hw 3 rfl) (by decide) (by decide)) (g := (mkF m 140 #[.val (.int pI1), .val (.int pI2), .val (.int pI3), .val (.int pI4), .val (.int pI5), .val (.ref bR6), .val (.ref bR34), .val (.ref bR69), .val (.int 1), .val (.int 1), .val (.int 1), .unset] [(.int pI904), (.int (own_green pI904))])) rfl (by rw [hml]; rfl) (argsL := [(.int pI904)]) (rest := [(.int (own_green pI904))]) (lenOf pd_17 rfl) rfl (Nat.le_refl _) (hb hby at_140) (fun _ _ => ⟨rfl, e124, (by decide : 5 + 0 ≤ _), (by decide : 22 + 0 ≤ _)⟩)
  dsimp only [Pt.U, Pt.locs, Pt.cells, Pt.slots] at X127 l127 y127 z127 st127 hQ127
  subst l127 y127 z127
  obtain ⟨rfl, Nq127, e127⟩ := hQ127
  have N127 := Fr.app N124 Nq127
  obtain ⟨fs, hr, hrun, hended, hW, hsame⟩ := X127.leave (v := some (.int 1)) (fun h => by rw [Bd.returns] at h; cases h)
  refine ⟨_, _, castTop (ef_lawU m pI1 pI2 pI3 pI4 pI5) ?_, hrun, hended, _, _, rfl, ?_, ⟨_, rfl⟩, hW, hsame.mono (by decide) (by decide)⟩
  · show oS p e below s₁ m 0 #[.val (.int pI1), .val (.int pI2), .val (.int pI3), .val (.int pI4), .val (.int pI5), .unset, .unset, .unset, .unset, .unset, .unset, .unset] [] _
    refine XS.iconst X0.here hx rfl (hb hby at_0) ?_
    refine st6 _ ?_
    refine XS.astore X6.here hx rfl (hb hby at_3) rfl rfl (l' := #[.val (.int pI1), .val (.int pI2), .val (.int pI3), .val (.int pI4), .val (.int pI5), .val (.ref bR6), .unset, .unset, .unset, .unset, .unset, .unset]) rfl ?_
    refine XS.aload X6.here hx rfl (hb hby at_5) rfl rfl ?_
    refine XS.iconst X6.here hx rfl (hb hby at_7) ?_
    refine XS.iloadN X6.here hx rfl (hb hby at_8) rfl ?_
    show oS p e below T6 m 9 #[.val (.int pI1), .val (.int pI2), .val (.int pI3), .val (.int pI4), .val (.int pI5), .val (.ref bR6), .unset, .unset, .unset, .unset, .unset, .unset] [(.int pI1), (.int 0), (.ref bR6)] _
    refine st9 _ ?_
    show Steps p.tables e below (T9.setTop (mkF m 12 #[.val (.int pI1), .val (.int pI2), .val (.int pI3), .val (.int pI4), .val (.int pI5), .val (.ref bR6), .unset, .unset, .unset, .unset, .unset, .unset] [(.int (own_pick pI1)), (.int 0), (.ref bR6)])) _
    rw [hr9]
    refine st13 _ ?_
    refine XS.aload X13.here hx rfl (hb hby at_13) rfl rfl ?_
    refine XS.iconst X13.here hx rfl (hb hby at_15) ?_
    refine XS.iloadN X13.here hx rfl (hb hby at_16) rfl ?_
    refine st16 _ ?_
    show Steps p.tables e below (T16.setTop (mkF m 20 #[.val (.int pI1), .val (.int pI2), .val (.int pI3), .val (.int pI4), .val (.int pI5), .val (.ref bR6), .unset, .unset, .unset, .unset, .unset, .unset] [(.int (own_pick pI2)), (.int 1), (.ref bR6)])) _
    rw [hr17]
    show oS p e below T16 m 20 #[.val (.int pI1), .val (.int pI2), .val (.int pI3), .val (.int pI4), .val (.int pI5), .val (.ref bR6), .unset, .unset, .unset, .unset, .unset, .unset] [(.int pI902), (.int 1), (.ref bR6)] _
    refine st19 _ ?_
    refine XS.aload X19.here hx rfl (hb hby at_21) rfl rfl ?_
    refine XS.iconst X19.here hx rfl (hb hby at_23) ?_
    refine XS.iloadN X19.here hx rfl (hb hby at_24) rfl ?_
    refine st22 _ ?_
    show Steps p.tables e below (T22.setTop (mkF m 28 #[.val (.int pI1), .val (.int pI2), .val (.int pI3), .val (.int pI4), .val (.int pI5), .val (.ref bR6), .unset, .unset, .unset, .unset, .unset, .unset] [(.int (own_pick pI3)), (.int 2), (.ref bR6)])) _
    rw [hr25]
    refine st25 _ ?_
    show oS p e below T25 m 29 #[.val (.int pI1), .val (.int pI2), .val (.int pI3), .val (.int pI4), .val (.int pI5), .val (.ref bR6), .unset, .unset, .unset, .unset, .unset, .unset] [] _
    refine XS.aload X25.here hx rfl (hb hby at_29) rfl rfl ?_
    refine XS.iconst X25.here hx rfl (hb hby at_31) ?_
    refine XS.iloadN X25.here hx rfl (hb hby at_32) rfl ?_
    refine st28 _ ?_
    show Steps p.tables e below (T28.setTop (mkF m 36 #[.val (.int pI1), .val (.int pI2), .val (.int pI3), .val (.int pI4), .val (.int pI5), .val (.ref bR6), .unset, .unset, .unset, .unset, .unset, .unset] [(.int (own_pick pI4)), (.int 3), (.ref bR6)])) _
    rw [hr33]
    refine st31 _ ?_
    refine st34 _ ?_
    show oS p e below T34 m 40 #[.val (.int pI1), .val (.int pI2), .val (.int pI3), .val (.int pI4), .val (.int pI5), .val (.ref bR6), .unset, .unset, .unset, .unset, .unset, .unset] [(.ref bR34)] _
    refine XS.dup X34.here hx rfl (hb hby at_40) rfl rfl ?_
    refine XS.aload X34.here hx rfl (hb hby at_41) rfl rfl ?_
    refine st66.trans ?_
    refine XS.astore X66.here hx rfl (hb hby at_46) rfl rfl (l' := #[.val (.int pI1), .val (.int pI2), .val (.int pI3), .val (.int pI4), .val (.int pI5), .val (.ref bR6), .val (.ref bR34), .unset, .unset, .unset, .unset, .unset]) rfl ?_
    refine st69 _ ?_
    refine XS.dup X69.here hx rfl (hb hby at_51) rfl rfl ?_
    show oS p e below T69 m 52 #[.val (.int pI1), .val (.int pI2), .val (.int pI3), .val (.int pI4), .val (.int pI5), .val (.ref bR6), .val (.ref bR34), .unset, .unset, .unset, .unset, .unset] [(.ref bR69), (.ref bR69)] _
    refine XS.iload X69.here hx rfl (hb hby at_52) rfl ?_
    refine XS.aload X69.here hx rfl (hb hby at_54) rfl rfl ?_
    refine st75.trans ?_
    refine XS.astore X75.here hx rfl (hb hby at_59) rfl rfl (l' := #[.val (.int pI1), .val (.int pI2), .val (.int pI3), .val (.int pI4), .val (.int pI5), .val (.ref bR6), .val (.ref bR34), .val (.ref bR69), .unset, .unset, .unset, .unset]) rfl ?_
    refine XS.aload X75.here hx rfl (hb hby at_61) rfl rfl ?_
    refine XS.iconst X75.here hx rfl (hb hby at_63) ?_
    show oS p e below T75 m 64 #[.val (.int pI1), .val (.int pI2), .val (.int pI3), .val (.int pI4), .val (.int pI5), .val (.ref bR6), .val (.ref bR34), .val (.ref bR69), .unset, .unset, .unset, .unset] [(.int 0), (.ref bR69)] _
    refine st109.trans ?_
    refine XS.aload X109.here hx rfl (hb hby at_67) rfl rfl ?_
    refine XS.iconst X109.here hx rfl (hb hby at_69) ?_
    refine X109.caload hx (j := (0 : Int32)) (v := (.int pI901)) (by rw [e109]; exact Arq110.1) (State.isArrayOf_alike hZ.alike Arq110.2.1) Arq110.2.2 hin114 (Has.at Ahq110 hin114 rfl) (g := (mkF m 70 #[.val (.int pI1), .val (.int pI2), .val (.int pI3), .val (.int pI4), .val (.int pI5), .val (.ref bR6), .val (.ref bR34), .val (.ref bR69), .unset, .unset, .unset, .unset] [(.int 0), (.ref bR6), (.int (own_green pI901))])) rfl rfl (hb hby at_70) _ ?_
    refine st115 _ ?_
    refine XS.icmpNo X115.here hx rfl (hb hby at_74) rfl (teq (rfl : (own_green pI901) = (own_green pI901))).2 ?_
    show oS p e below T115 m 77 #[.val (.int pI1), .val (.int pI2), .val (.int pI3), .val (.int pI4), .val (.int pI5), .val (.ref bR6), .val (.ref bR34), .val (.ref bR69), .unset, .unset, .unset, .unset] [] _
    refine XS.iconst X115.here hx rfl (hb hby at_77) ?_
    refine XS.goto X115.here hx rfl (pc0 := 78) (pc' := 82) rfl (hb hby at_78) (by decide) (by decide) ?_
    refine XS.istore X115.here hx rfl (hb hby at_82) rfl (l' := #[.val (.int pI1), .val (.int pI2), .val (.int pI3), .val (.int pI4), .val (.int pI5), .val (.ref bR6), .val (.ref bR34), .val (.ref bR69), .val (.int 1), .unset, .unset, .unset]) rfl ?_
    refine XS.aload X115.here hx rfl (hb hby at_84) rfl rfl ?_
    refine XS.iconst X115.here hx rfl (hb hby at_86) ?_
    refine st116.trans ?_
    show oS p e below T116 m 90 #[.val (.int pI1), .val (.int pI2), .val (.int pI3), .val (.int pI4), .val (.int pI5), .val (.ref bR6), .val (.ref bR34), .val (.ref bR69), .val (.int 1), .unset, .unset, .unset] [(.int (own_green pI902))] _
    refine XS.aload X116.here hx rfl (hb hby at_90) rfl rfl ?_
    refine XS.iconst X116.here hx rfl (hb hby at_92) ?_
    refine X116.caload hx (j := (1 : Int32)) (v := (.int pI902)) (by rw [e116]; exact Arq117.1) (State.isArrayOf_alike hZ.alike Arq117.2.1) Arq117.2.2 hin118 (Has.at Ahq117 hin118 rfl) (g := (mkF m 93 #[.val (.int pI1), .val (.int pI2), .val (.int pI3), .val (.int pI4), .val (.int pI5), .val (.ref bR6), .val (.ref bR34), .val (.ref bR69), .val (.int 1), .unset, .unset, .unset] [(.int 1), (.ref bR6), (.int (own_green pI902))])) rfl rfl (hb hby at_93) _ ?_
    refine st119 _ ?_
    refine XS.icmpNo X119.here hx rfl (hb hby at_97) rfl (teq (rfl : (own_green pI902) = (own_green pI902))).2 ?_
    refine XS.iconst X119.here hx rfl (hb hby at_100) ?_
    show oS p e below T119 m 101 #[.val (.int pI1), .val (.int pI2), .val (.int pI3), .val (.int pI4), .val (.int pI5), .val (.ref bR6), .val (.ref bR34), .val (.ref bR69), .val (.int 1), .unset, .unset, .unset] [(.int 1)] _
    refine XS.goto X119.here hx rfl (pc0 := 101) (pc' := 105) rfl (hb hby at_101) (by decide) (by decide) ?_
    refine XS.istore X119.here hx rfl (hb hby at_105) rfl (l' := #[.val (.int pI1), .val (.int pI2), .val (.int pI3), .val (.int pI4), .val (.int pI5), .val (.ref bR6), .val (.ref bR34), .val (.ref bR69), .val (.int 1), .val (.int 1), .unset, .unset]) rfl ?_
    refine XS.aload X119.here hx rfl (hb hby at_107) rfl rfl ?_
    refine XS.iconst X119.here hx rfl (hb hby at_109) ?_
    refine st120.trans ?_
    refine XS.aload X120.here hx rfl (hb hby at_113) rfl rfl ?_
    show oS p e below T120 m 115 #[.val (.int pI1), .val (.int pI2), .val (.int pI3), .val (.int pI4), .val (.int pI5), .val (.ref bR6), .val (.ref bR34), .val (.ref bR69), .val (.int 1), .val (.int 1), .unset, .unset] [(.ref bR6), (.int (own_green pI903))] _
    refine XS.iconst X120.here hx rfl (hb hby at_115) ?_
    refine X120.caload hx (j := (2 : Int32)) (v := (.int pI903)) (by rw [e120]; exact Arq121.1) (State.isArrayOf_alike hZ.alike Arq121.2.1) Arq121.2.2 hin122 (Has.at Ahq121 hin122 rfl) (g := (mkF m 116 #[.val (.int pI1), .val (.int pI2), .val (.int pI3), .val (.int pI4), .val (.int pI5), .val (.ref bR6), .val (.ref bR34), .val (.ref bR69), .val (.int 1), .val (.int 1), .unset, .unset] [(.int 2), (.ref bR6), (.int (own_green pI903))])) rfl rfl (hb hby at_116) _ ?_
    refine st123 _ ?_
    refine XS.icmpNo X123.here hx rfl (hb hby at_120) rfl (teq (rfl : (own_green pI903) = (own_green pI903))).2 ?_
    refine XS.iconst X123.here hx rfl (hb hby at_123) ?_
    refine XS.goto X123.here hx rfl (pc0 := 124) (pc' := 128) rfl (hb hby at_124) (by decide) (by decide) ?_
    show oS p e below T123 m 128 #[.val (.int pI1), .val (.int pI2), .val (.int pI3), .val (.int pI4), .val (.int pI5), .val (.ref bR6), .val (.ref bR34), .val (.ref bR69), .val (.int 1), .val (.int 1), .unset, .unset] [(.int 1)] _
    refine XS.istore X123.here hx rfl (hb hby at_128) rfl (l' := #[.val (.int pI1), .val (.int pI2), .val (.int pI3), .val (.int pI4), .val (.int pI5), .val (.ref bR6), .val (.ref bR34), .val (.ref bR69), .val (.int 1), .val (.int 1), .val (.int 1), .unset]) rfl ?_
    refine XS.aload X123.here hx rfl (hb hby at_130) rfl rfl ?_
    refine XS.iconst X123.here hx rfl (hb hby at_132) ?_
    refine st124.trans ?_
    refine XS.aload X124.here hx rfl (hb hby at_136) rfl rfl ?_
    refine XS.iconst X124.here hx rfl (hb hby at_138) ?_
    show oS p e below T124 m 139 #[.val (.int pI1), .val (.int pI2), .val (.int pI3), .val (.int pI4), .val (.int pI5), .val (.ref bR6), .val (.ref bR34), .val (.ref bR69), .val (.int 1), .val (.int 1), .val (.int 1), .unset] [(.int 3), (.ref bR6), (.int (own_green pI904))] _
    refine X124.caload hx (j := (3 : Int32)) (v := (.int pI904)) (by rw [e124]; exact Arq125.1) (State.isArrayOf_alike hZ.alike Arq125.2.1) Arq125.2.2 hin126 (Has.at Ahq125 hin126 rfl) (g := (mkF m 139 #[.val (.int pI1), .val (.int pI2), .val (.int pI3), .val (.int pI4), .val (.int pI5), .val (.ref bR6), .val (.ref bR34), .val (.ref bR69), .val (.int 1), .val (.int 1), .val (.int 1), .unset] [(.int 3), (.ref bR6), (.int (own_green pI904))])) rfl rfl (hb hby at_139) _ ?_
    refine st127 _ ?_
    refine XS.icmpNo X127.here hx rfl (hb hby at_143) rfl (teq (rfl : (own_green pI904) = (own_green pI904))).2 ?_
    refine XS.iconst X127.here hx rfl (hb hby at_146) ?_
    refine XS.goto X127.here hx rfl (pc0 := 147) (pc' := 151) rfl (hb hby at_147) (by decide) (by decide) ?_
    refine XS.istore X127.here hx rfl (hb hby at_151) rfl (l' := #[.val (.int pI1), .val (.int pI2), .val (.int pI3), .val (.int pI4), .val (.int pI5), .val (.ref bR6), .val (.ref bR34), .val (.ref bR69), .val (.int 1), .val (.int 1), .val (.int 1), .val (.int 1)]) rfl ?_
    show oS p e below T127 m 153 #[.val (.int pI1), .val (.int pI2), .val (.int pI3), .val (.int pI4), .val (.int pI5), .val (.ref bR6), .val (.ref bR34), .val (.ref bR69), .val (.int 1), .val (.int 1), .val (.int 1), .val (.int 1)] [] _
    refine XS.iload X127.here hx rfl (hb hby at_153) rfl ?_
    refine XS.ifNo X127.here hx rfl (hb hby at_155) rfl ((if0 _ _).trans (feq (by decide : ¬ ((1 : Int32) = (0 : Int32)))).1) ?_
    refine XS.iload X127.here hx rfl (hb hby at_158) rfl ?_
    refine XS.ifNo X127.here hx rfl (hb hby at_160) rfl ((if0 _ _).trans (feq (by decide : ¬ ((1 : Int32) = (0 : Int32)))).1) ?_
    refine XS.iload X127.here hx rfl (hb hby at_163) rfl ?_
    refine XS.ifNo X127.here hx rfl (hb hby at_165) rfl ((if0 _ _).trans (feq (by decide : ¬ ((1 : Int32) = (0 : Int32)))).1) ?_
    show oS p e below T127 m 168 #[.val (.int pI1), .val (.int pI2), .val (.int pI3), .val (.int pI4), .val (.int pI5), .val (.ref bR6), .val (.ref bR34), .val (.ref bR69), .val (.int 1), .val (.int 1), .val (.int 1), .val (.int 1)] [] _
    refine XS.iload X127.here hx rfl (hb hby at_168) rfl ?_
    refine XS.ifNo X127.here hx rfl (hb hby at_170) rfl ((if0 _ _).trans (feq (by decide : ¬ ((1 : Int32) = (0 : Int32)))).1) ?_
    refine XS.iconst X127.here hx rfl (hb hby at_173) ?_
    refine XS.goto X127.here hx rfl (pc0 := 174) (pc' := 178) rfl (hb hby at_174) (by decide) (by decide) ?_
    exact retN X127 hx (t := .boolean) Bd.returns (by simp) (hb hby at_178) hr
  · show QlawU Z pI1 pI2 pI3 pI4 pI5 pI901 pI902 pI903 pI904 pI40 pV90 h0 n0 _ T127.heap _
    rw [e127]
    exact ⟨rfl, N127⟩
set_option maxRecDepth 65536 in
set_option maxHeartbeats 40000000 in
theorem comes_1 {Post : Tables → Env → Array Value → State → Outcome → State → Prop} (hpost : ∀ tb e args s v u, (limb_1_1.after args s (.returned v) u = true ∧ limb_1_2.after args s (.returned v) u = true ∧ True) → FrameEnd s (.returned v) u (Jvm.fieldLocs frame_1_writes args s ++ Jvm.arrayLocs frame_1_arrays args s ++ Jvm.staticLocs frame_1_statics s) 24 128 → Post tb e args s (.returned v) u) :
    ArmFor flags0 classFile x code maxLocals ret World_1 tables_1 room_1 Calls_1 rest_1 Pre_1 Post := by
  intro l hfl _ _ p e ha hc hk s m args below hf hA hF happ hP
  obtain ⟨hcalls, hrest, hpre⟩ := hP
  obtain ⟨-, -, -, hnamed, -, -, -, hat⟩ := (Spec.applies_iff hf).mp happ
  obtain ⟨hg, hn⟩ := and_e (Cond.before_iff.mp (show (Jvm.Cond.and given_1 narrow_1).before args s = true from hpre))
  obtain ⟨w1, w2⟩ := and_e hg
  obtain ⟨w3, w4⟩ := and_e w2
  obtain ⟨w5, w6⟩ := and_e w4
  obtain ⟨w7, w8⟩ := and_e w6
  obtain ⟨w9, w10⟩ := and_e w8
  obtain ⟨v0, v1, v2, v3, v4, rfl⟩ : ∃ v0 v1 v2 v3 v4 : Value, args = #[v0, v1, v2, v3, v4] := by
    have hs : args.size = 5 := by simpa [Cond.value, given_1] using w1
    obtain ⟨L⟩ := args
    match L, hs with
    | [v0, v1, v2, v3, v4], _ => exact ⟨v0, v1, v2, v3, v4, rfl⟩
  have hw := fun d (hd : d ∈ tables_1) => atoms_spec (ws := Jvm.Cond.code x code maxLocals ret :: tables_1) hat d (List.mem_cons_of_mem _ hd)
  have hfit : Fit s := fun {y c} hc i hi => by
    obtain ⟨ha, rfl⟩ := Array.getElem?_eq_some_iff.mp hc
    have q := List.all_eq_true.mp ((Array.all_eq_true_iff_forall_mem.mp hF) _ (Array.getElem_mem ha)) i (List.mem_range.mpr hi)
    simpa [Array.getElem?_eq_getElem hi] using q
  obtain ⟨hsets, hown0⟩ := atoms_of _ (rest_1_c_eq ▸ (show rest_1_c.before _ s = true from hrest))
  obtain ⟨i0, ei0⟩ := is_v w3
  obtain rfl : v0 = (.int i0) := Option.some.inj ei0
  obtain ⟨i1, ei1⟩ := is_v w5
  obtain rfl : v1 = (.int i1) := Option.some.inj ei1
  obtain ⟨i2, ei2⟩ := is_v w7
  obtain rfl : v2 = (.int i2) := Option.some.inj ei2
  obtain ⟨i3, ei3⟩ := is_v w9
  obtain rfl : v3 = (.int i3) := Option.some.inj ei3
  obtain ⟨i4, ei4⟩ := is_v w10
  obtain rfl : v4 = (.int i4) := Option.some.inj ei4
  have ev11 := Cond.eq_int (Cond.before_iff.mpr (Cond.before_iff.mp (hsets _ (List.mem_of_getElem? (i := 12) rfl)))) rfl
  have S12 : Sta s s.heap "java/lang/StringUTF16" "$assertionsDisabled" "Z" (.int 1) := Sta.start ev11 (Or.inr ⟨(ow hw 21 rfl), hsets _ (List.mem_of_getElem? (i := 10) rfl)⟩)
  have ev13 := Cond.eq_int (Cond.before_iff.mpr (Cond.before_iff.mp (hsets _ (List.mem_of_getElem? (i := 15) rfl)))) rfl
  have S14 : Sta s s.heap "java/lang/StringUTF16" "HI_BYTE_SHIFT" "I" (.int 0) := Sta.start ev13 (Or.inr ⟨(ow hw 21 rfl), hsets _ (List.mem_of_getElem? (i := 13) rfl)⟩)
  have ev15 := Cond.eq_int (Cond.before_iff.mpr (Cond.before_iff.mp (hsets _ (List.mem_of_getElem? (i := 18) rfl)))) rfl
  have S16 : Sta s s.heap "java/lang/StringUTF16" "LO_BYTE_SHIFT" "I" (.int 8) := Sta.start ev15 (Or.inr ⟨(ow hw 21 rfl), hsets _ (List.mem_of_getElem? (i := 16) rfl)⟩)
  obtain ⟨i90, ev90⟩ := is_v (Cond.before_iff.mp (hsets _ (List.mem_of_getElem? (i := 1) rfl)))
  have S17 : Sta s s.heap "java/lang/String" "COMPACT_STRINGS" "Z" (.int i90) := Sta.start ev90 (Or.inl (hsets _ (List.mem_of_getElem? (i := 0) rfl)))
  have hcs0 : ¬ (i90 = (0 : Int32)) := gotF (Cond.eq_ints ev90 (Term.int_eval 0)) (not_v (Cond.before_iff.mp (hsets _ (List.mem_of_getElem? (i := 2) rfl))))
  obtain ⟨v91, ev91, hv91⟩ := isR_v (Cond.before_iff.mp (hsets _ (List.mem_of_getElem? (i := 8) rfl)))
  have S18 : Sta s s.heap "jdk/internal/util/Preconditions" "SIOOBE_FORMATTER" "Ljava/util/function/BiFunction;" v91 := Sta.start ev91 (Or.inl (hsets _ (List.mem_of_getElem? (i := 7) rfl)))
  have hr0 := own_pick_rng i0
  have hr1 := own_pick_rng i1
  have hr2 := own_pick_rng i2
  have hr3 := own_pick_rng i3
  by_cases hU : (255 : Int32) < (own_pick i0) ∨ (255 : Int32) < (own_pick i1) ∨ (255 : Int32) < (own_pick i2) ∨ (255 : Int32) < (own_pick i3)
  · obtain ⟨n, o, h1, h2, h3, _, L, rfl, ⟨rfl, N⟩, hq⟩ := lawU l s _ hw tables_1 i0 i1 i2 i3 i4 (own_pick i0) (own_pick i1) (own_pick i2) (own_pick i3) i90 v91 s.heap s.heap.size (Nat.le_refl _) S17 S12 S14 S16 S18 hr0 hr1 hr2 hr3 hU rfl rfl rfl rfl hcs0 hv91 p e ha hc hk s m _ below hf ((Spec.applies_iff_loose hf).mp happ).1 ⟨rfl, State.Warmed39.refl s, rfl⟩ trivial
    exact ⟨n, _, h1, h2, h3, hpost _ _ _ _ _ _ ⟨Cond.after_iff.mpr rfl, Cond.after_iff.mpr (eq_i res_at (Term.int_eval (1)) rfl), trivial⟩ ⟨hq.1, hq.2.1, (hq.2.2.sift fun y hy => Or.inr (N y hy)).mono (by decide) (by decide)⟩⟩
  · simp only [not_or] at hU
    obtain ⟨hq0, hq1, hq2, hq3⟩ := hU
    obtain ⟨n, o, h1, h2, h3, _, L, rfl, ⟨rfl, N⟩, hq⟩ := lawL l s _ hw tables_1 i0 i1 i2 i3 i4 (own_pick i0) (own_pick i1) (own_pick i2) (own_pick i3) i90 v91 s.heap s.heap.size (Nat.le_refl _) S17 S18 hr0 hr1 hr2 hr3 hq0 hq1 hq2 hq3 rfl rfl rfl rfl hcs0 hv91 p e ha hc hk s m _ below hf ((Spec.applies_iff_loose hf).mp happ).1 ⟨rfl, State.Warmed39.refl s, rfl⟩ trivial
    exact ⟨n, _, h1, h2, h3, hpost _ _ _ _ _ _ ⟨Cond.after_iff.mpr rfl, Cond.after_iff.mpr (eq_i res_at (Term.int_eval (1)) rfl), trivial⟩ ⟨hq.1, hq.2.1, (hq.2.2.sift fun y hy => Or.inr (N y hy)).mono (by decide) (by decide)⟩⟩
theorem main_1_1 : Claimed_1_1 := comes_1 fun _ _ _ _ _ _ h hF => ⟨h.1, hF⟩
theorem main_1_2 : Claimed_1_2 := comes_1 fun _ _ _ _ _ _ h hF => ⟨h.2.1, hF⟩
end Jvm.Pilot.@@N@@
namespace Jvm.Pilot.@@N@@
open Jvm Jvm.ClassFile Sem Op Lib Jvm.Free Jvm.Stand Jvm.Pilot.@@N@@.Jvm.D
/-! MADE BY PROGRAM (witnessworld.py) out of the Statement's table words and the real class files: 20 classes; the members and pool entries that the words name. The judged class is class 1, her method 3. -/
namespace start1
open Jvm.ClassFile
def u (s : String) : CpInfo := .utf8 (stringToUtf16 s)
/-- a pool by its gaps: so many unusable entries, then the entry; so many at the end -/
def gap : Nat → List CpInfo → List CpInfo
  | 0, r => r
  | n + 1, r => .unusable :: gap n r
def poolList (es : List (Nat × CpInfo)) (last : Nat) : List CpInfo := es.foldr (fun e r => gap e.1 (e.2 :: r)) (gap last [])
def pool (es : List (Nat × CpInfo)) (last : Nat) : Array CpInfo := ⟨poolList es last⟩
def fileOf (pool : Array CpInfo) (this : Nat) (attrs : Array Attribute := #[]) (ms : Array MethodInfo := #[]) (fl : Nat := 33) (sup : Nat := 0) (ifs : Array Nat := #[]) (fds : Array FieldInfo := #[]) : ClassFile where
  minorVersion := 0
  majorVersion := 65
  constantPool := pool
  accessFlags := fl
  thisClass := this
  superClass := sup
  interfaces := ifs
  fields := fds
  methods := ms
  attributes := attrs
def plain (name : String) (sup : Option ClassId) : Class where
  name := name
  kind := .ordinary
  loader := none
  accessFlags := 33
  super := sup
  interfaces := #[]
  cf := none
  fields := #[]
  methods := #[]
  instanceTypes := #[]
  staticTypes := #[]
  resolved := #[]
  callSites := []
  init := .initialized
  statics := none
  mirror := none

def pool0 : Array CpInfo := pool [(5, u "<init>"), (0, u "()V"), (1, .class_ 10), (1, u "java/lang/Object")] 113

def k0c0 : Code := { maxStack := 0, maxLocals := 1, code := object_method_1_code, exceptionTable := #[], attributes := #[] }
def k0m0 : Method := { name := "<init>", desc := "()V", sig := { parameters := [], returnType := none }, accessFlags := 1, code := some k0c0 }
/-- java/lang/Object -/
def k0 : Class := { plain "java/lang/Object" none with
  accessFlags := 33
  interfaces := #[]
  cf := some (fileOf pool0 8 #[] #[{ accessFlags := 1, nameIndex := 5, descriptorIndex := 6, attributes := #[] }] 33 0 #[] #[])
  fields := #[]
  methods := #[k0m0]
  instanceTypes := #[]
  staticTypes := #[]
  resolved := Array.replicate 124 none
  statics := none }

def pool1 : Array CpInfo := pool [(2, .class_ 4), (1, u "java/lang/Object"), (0, u "<init>"), (0, u "()V"), (0, .methodref 8 9), (0, .class_ 10), (0, .nameAndType 11 12), (0, u "com/example/watchful_junction/watchfuljunction/importer/PhaseGreenPinLaw"), (0, u "pick"), (0, u "(I)C"), (0, .class_ 14), (0, u "java/lang/String"), (0, .methodref 13 16), (0, .nameAndType 5 17), (0, u "([C)V"), (0, .class_ 19), (0, u "com/example/watchful_junction/watchfuljunction/importer/Network$Phase"), (0, .methodref 18 21), (0, .nameAndType 5 22), (0, u "(ILjava/lang/String;)V"), (0, .methodref 18 24), (0, .nameAndType 25 26), (0, u "green"), (0, u "(I)Z"), (0, .methodref 8 28), (0, .nameAndType 29 30), (0, u "isGreen"), (0, u "(C)Z"), (3, u "law"), (0, u "(IIIII)Z")] 8

def k1m0 : Method := { name := "<init>", desc := "()V", sig := { parameters := [], returnType := none }, accessFlags := 1, code := none }
def k1c1 : Code := { maxStack := 2, maxLocals := 2, code := method_2_code, exceptionTable := #[], attributes := #[] }
def k1m1 : Method := { name := "pick", desc := "(I)C", sig := { parameters := [.int], returnType := some .char }, accessFlags := 10, code := some k1c1 }
def k1c2 : Code := { maxStack := 2, maxLocals := 1, code := method_3_code, exceptionTable := #[], attributes := #[] }
def k1m2 : Method := { name := "isGreen", desc := "(C)Z", sig := { parameters := [.char], returnType := some .boolean }, accessFlags := 10, code := some k1c2 }
def k1c3 : Code := { maxStack := 4, maxLocals := 12, code := code, exceptionTable := #[], attributes := #[] }
def k1m3 : Method := { name := "law", desc := "(IIIII)Z", sig := { parameters := [.int, .int, .int, .int, .int], returnType := some .boolean }, accessFlags := 9, code := some k1c3 }
/-- com/example/watchful_junction/watchfuljunction/importer/PhaseGreenPinLaw -/
def k1 : Class := { plain "com/example/watchful_junction/watchfuljunction/importer/PhaseGreenPinLaw" (some 0) with
  accessFlags := 49
  interfaces := #[]
  cf := some (fileOf pool1 8 #[] #[{ accessFlags := 1, nameIndex := 5, descriptorIndex := 6, attributes := #[] }, { accessFlags := 10, nameIndex := 11, descriptorIndex := 12, attributes := #[] }, { accessFlags := 10, nameIndex := 29, descriptorIndex := 30, attributes := #[] }, { accessFlags := 9, nameIndex := 34, descriptorIndex := 35, attributes := #[] }] 49 2 #[] #[])
  fields := #[]
  methods := #[k1m0, k1m1, k1m2, k1m3]
  instanceTypes := #[]
  staticTypes := #[]
  resolved := Array.replicate 44 none
  statics := none }

def pool2 : Array CpInfo := pool [(1, .class_ 2), (0, u "java/io/Serializable"), (0, .class_ 4), (0, u "java/lang/Object")] 2

/-- java/io/Serializable -/
def k2 : Class := { plain "java/io/Serializable" (some 0) with
  accessFlags := 1537
  interfaces := #[]
  cf := some (fileOf pool2 1 #[] #[] 1537 3 #[] #[])
  fields := #[]
  methods := #[]
  instanceTypes := #[]
  staticTypes := #[]
  resolved := Array.replicate 7 none
  statics := none }

def pool3 : Array CpInfo := pool [(1, .class_ 2), (0, u "java/lang/Comparable"), (0, .class_ 4), (0, u "java/lang/Object")] 7

/-- java/lang/Comparable -/
def k3 : Class := { plain "java/lang/Comparable" (some 0) with
  accessFlags := 1537
  interfaces := #[]
  cf := some (fileOf pool3 1 #[] #[] 1537 3 #[] #[])
  fields := #[]
  methods := #[]
  instanceTypes := #[]
  staticTypes := #[]
  resolved := Array.replicate 12 none
  statics := none }

def pool4 : Array CpInfo := pool [(2, .class_ 4), (1, u "java/lang/CharSequence"), (42, .class_ 48), (0, u "java/lang/CharSequence$1CodePointIterator"), (10, .class_ 60), (0, u "java/lang/CharSequence$1CharIterator"), (5, .class_ 67), (0, u "java/lang/Object")] 63

/-- java/lang/CharSequence -/
def k4 : Class := { plain "java/lang/CharSequence" (some 0) with
  accessFlags := 1537
  interfaces := #[]
  cf := some (fileOf pool4 2 #[.nestMembers #[47, 59]] #[] 1537 66 #[] #[])
  fields := #[]
  methods := #[]
  instanceTypes := #[]
  staticTypes := #[]
  resolved := Array.replicate 131 none
  statics := none }

def pool5 : Array CpInfo := pool [(1, .class_ 2), (0, u "java/lang/constant/Constable"), (0, .class_ 4), (0, u "java/lang/Object")] 6

/-- java/lang/constant/Constable -/
def k5 : Class := { plain "java/lang/constant/Constable" (some 0) with
  accessFlags := 1537
  interfaces := #[]
  cf := some (fileOf pool5 1 #[] #[] 1537 3 #[] #[])
  fields := #[]
  methods := #[]
  instanceTypes := #[]
  staticTypes := #[]
  resolved := Array.replicate 11 none
  statics := none }

def pool6 : Array CpInfo := pool [(1, .class_ 2), (0, u "java/lang/constant/ConstantDesc"), (0, .class_ 4), (0, u "java/lang/Object")] 32

/-- java/lang/constant/ConstantDesc -/
def k6 : Class := { plain "java/lang/constant/ConstantDesc" (some 0) with
  accessFlags := 1537
  interfaces := #[]
  cf := some (fileOf pool6 1 #[] #[] 1537 3 #[] #[])
  fields := #[]
  methods := #[]
  instanceTypes := #[]
  staticTypes := #[]
  resolved := Array.replicate 37 none
  statics := none }

def pool7 : Array CpInfo := pool [(1, .methodref 2 3), (0, .class_ 4), (0, .nameAndType 5 6), (0, u "java/lang/Object"), (0, u "<init>"), (0, u "()V"), (2, .fieldref 10 11), (0, .class_ 12), (0, .nameAndType 13 14), (0, u "java/lang/String"), (0, u "value"), (0, u "[B"), (0, .fieldref 10 16), (0, .nameAndType 17 18), (0, u "coder"), (0, u "B"), (2, u "hash"), (0, u "I"), (2, u "hashIsZero"), (0, u "Z"), (0, .methodref 10 28), (0, .nameAndType 5 29), (0, u "([CIILjava/lang/Void;)V"), (8, .fieldref 10 39), (0, .nameAndType 40 26), (0, u "COMPACT_STRINGS"), (1, .class_ 44), (1, u "java/lang/StringUTF16"), (0, u "compress"), (1, .methodref 42 48), (0, .nameAndType 49 50), (0, u "coderFromArrayLen"), (0, u "([BI)B"), (56, .class_ 109), (1, u "java/lang/StringLatin1"), (32, u "()Z"), (34, .methodref 42 178), (0, .nameAndType 45 179), (0, u "([CII)[B"), (183, u "([BI)C"), (27, u "(II)V"), (35, u "(I)C"), (64, .methodref 10 493), (0, .nameAndType 494 142), (0, u "isLatin1"), (0, .methodref 107 496), (0, .nameAndType 497 363), (0, u "charAt"), (0, .methodref 42 496), (2, u "checkIndex"), (73, .class_ 576), (0, u "java/lang/CharSequence"), (22, u "CASE_INSENSITIVE_ORDER"), (0, u "Ljava/util/Comparator;"), (409, u "([C)V"), (42, .fieldref 1054 1055), (0, .class_ 1056), (0, .nameAndType 1057 1058), (0, u "jdk/internal/util/Preconditions"), (0, u "SIOOBE_FORMATTER"), (0, u "Ljava/util/function/BiFunction;"), (0, .methodref 1054 1060), (0, .nameAndType 501 1061), (0, u "(IILjava/util/function/BiFunction;)I"), (39, u "serialPersistentFields"), (0, u "[Ljava/io/ObjectStreamField;"), (0, .class_ 1104), (0, u "java/lang/String$CaseInsensitiveComparator"), (1, .class_ 1107), (0, u "java/io/Serializable"), (0, .class_ 1109), (0, u "java/lang/Comparable"), (0, .class_ 1111), (0, u "java/lang/constant/Constable"), (0, .class_ 1113), (0, u "java/lang/constant/ConstantDesc"), (2, u "serialVersionUID"), (0, u "J"), (3, u "REPL"), (0, u "C"), (2, u "LATIN1"), (1, u "UTF16")] 323

def k7m0 : Method := { name := "<init>", desc := "()V", sig := { parameters := [], returnType := none }, accessFlags := 1, code := none }
def k7c1 : Code := { maxStack := 5, maxLocals := 2, code := jdk_42_method_3_code, exceptionTable := #[], attributes := #[] }
def k7m1 : Method := { name := "<init>", desc := "([C)V", sig := { parameters := [(.array .char)], returnType := none }, accessFlags := 1, code := some k7c1 }
def k7c2 : Code := { maxStack := 2, maxLocals := 2, code := jdk_42_method_56_code, exceptionTable := #[], attributes := #[] }
def k7m2 : Method := { name := "charAt", desc := "(I)C", sig := { parameters := [.int], returnType := some .char }, accessFlags := 1, code := some k7c2 }
def k7c3 : Code := { maxStack := 4, maxLocals := 6, code := jdk_42_method_149_code, exceptionTable := #[], attributes := #[] }
def k7m3 : Method := { name := "<init>", desc := "([CIILjava/lang/Void;)V", sig := { parameters := [(.array .char), .int, .int, (.object "java/lang/Void")], returnType := none }, accessFlags := 2, code := some k7c3 }
def k7c4 : Code := { maxStack := 1, maxLocals := 1, code := jdk_42_method_154_code, exceptionTable := #[], attributes := #[] }
def k7m4 : Method := { name := "isLatin1", desc := "()Z", sig := { parameters := [], returnType := some .boolean }, accessFlags := 0, code := some k7c4 }
def k7c5 : Code := { maxStack := 3, maxLocals := 2, code := jdk_42_method_155_code, exceptionTable := #[], attributes := #[] }
def k7m5 : Method := { name := "checkIndex", desc := "(II)V", sig := { parameters := [.int, .int], returnType := none }, accessFlags := 8, code := some k7c5 }
/-- java/lang/String -/
def k7 : Class := { plain "java/lang/String" (some 0) with
  accessFlags := 49
  interfaces := #[2, 3, 4, 5, 6]
  cf := some (fileOf pool7 10 #[.nestMembers #[1103]] #[{ accessFlags := 1, nameIndex := 5, descriptorIndex := 6, attributes := #[] }, { accessFlags := 1, nameIndex := 5, descriptorIndex := 1010, attributes := #[] }, { accessFlags := 1, nameIndex := 497, descriptorIndex := 427, attributes := #[] }, { accessFlags := 2, nameIndex := 5, descriptorIndex := 29, attributes := #[] }, { accessFlags := 0, nameIndex := 494, descriptorIndex := 142, attributes := #[] }, { accessFlags := 8, nameIndex := 501, descriptorIndex := 391, attributes := #[] }] 49 2 #[1106, 1108, 575, 1110, 1112] #[{ accessFlags := 18, nameIndex := 13, descriptorIndex := 14, attributes := #[] }, { accessFlags := 18, nameIndex := 17, descriptorIndex := 18, attributes := #[] }, { accessFlags := 2, nameIndex := 21, descriptorIndex := 22, attributes := #[] }, { accessFlags := 2, nameIndex := 25, descriptorIndex := 26, attributes := #[] }, { accessFlags := 26, nameIndex := 1116, descriptorIndex := 1117, attributes := #[] }, { accessFlags := 24, nameIndex := 40, descriptorIndex := 26, attributes := #[] }, { accessFlags := 26, nameIndex := 1101, descriptorIndex := 1102, attributes := #[] }, { accessFlags := 26, nameIndex := 1121, descriptorIndex := 1122, attributes := #[] }, { accessFlags := 25, nameIndex := 599, descriptorIndex := 600, attributes := #[] }, { accessFlags := 24, nameIndex := 1125, descriptorIndex := 18, attributes := #[] }, { accessFlags := 24, nameIndex := 1127, descriptorIndex := 18, attributes := #[] }])
  fields := #[{ name := "value", type := (.array .byte), accessFlags := 18, slot := 0, constantValue := 0 }, { name := "coder", type := .byte, accessFlags := 18, slot := 1, constantValue := 0 }, { name := "hash", type := .int, accessFlags := 2, slot := 2, constantValue := 0 }, { name := "hashIsZero", type := .boolean, accessFlags := 2, slot := 3, constantValue := 0 }, { name := "serialVersionUID", type := .long, accessFlags := 26, slot := 0, constantValue := 0 }, { name := "COMPACT_STRINGS", type := .boolean, accessFlags := 24, slot := 1, constantValue := 0 }, { name := "serialPersistentFields", type := (.array (.object "java/io/ObjectStreamField")), accessFlags := 26, slot := 2, constantValue := 0 }, { name := "REPL", type := .char, accessFlags := 26, slot := 3, constantValue := 0 }, { name := "CASE_INSENSITIVE_ORDER", type := (.object "java/util/Comparator"), accessFlags := 25, slot := 4, constantValue := 0 }, { name := "LATIN1", type := .byte, accessFlags := 24, slot := 5, constantValue := 0 }, { name := "UTF16", type := .byte, accessFlags := 24, slot := 6, constantValue := 0 }]
  methods := #[k7m0, k7m1, k7m2, k7m3, k7m4, k7m5]
  instanceTypes := #[(.array .byte), .byte, .int, .boolean]
  staticTypes := #[.long, .boolean, (.array (.object "java/io/ObjectStreamField")), .char, (.object "java/util/Comparator"), .byte, .byte]
  resolved := Array.replicate 1451 none
  statics := some 0 }

def pool8 : Array CpInfo := pool [(3, .class_ 4), (0, u "java/lang/String"), (1, .class_ 8), (1, u "java/lang/Object"), (0, u "<init>"), (0, u "()V"), (0, .methodref 12 13), (0, .class_ 14), (0, .nameAndType 15 16), (0, u "java/lang/StringUTF16"), (0, u "newBytesLength"), (0, u "(I)I"), (3, .integer 1073741823), (23, .fieldref 12 45), (0, .nameAndType 46 47), (0, u "$assertionsDisabled"), (0, u "Z"), (0, .methodref 12 49), (0, .nameAndType 50 51), (0, u "length"), (0, u "([B)I"), (7, .fieldref 12 60), (0, .nameAndType 61 62), (0, u "HI_BYTE_SHIFT"), (0, u "I"), (0, .fieldref 12 64), (0, .nameAndType 65 62), (0, u "LO_BYTE_SHIFT"), (1, .methodref 12 68), (0, .nameAndType 69 70), (0, u "checkIndex"), (0, u "(I[B)V"), (0, .methodref 12 72), (0, .nameAndType 73 74), (0, u "getChar"), (0, u "([BI)C"), (32, .methodref 12 108), (0, .nameAndType 109 110), (0, u "newBytesFor"), (0, u "(I)[B"), (0, .methodref 12 112), (0, .nameAndType 113 114), (0, u "putChar"), (0, u "([BII)V"), (0, .methodref 12 116), (0, .nameAndType 117 118), (0, u "compress"), (0, u "([CI[BII)I"), (0, .methodref 12 120), (0, .nameAndType 121 122), (0, u "toBytes"), (0, u "([CII)[B"), (138, u "coderFromArrayLen"), (0, u "([BI)B"), (106, .class_ 371), (1, u "java/lang/StringUTF16$LinesSpliterator"), (20, u "charAt"), (21, .methodref 3 415), (0, .nameAndType 69 416), (0, u "(II)V"), (13, u "MAX_LENGTH"), (196, .class_ 628), (0, u "java/lang/StringUTF16$CodePointsSpliterator"), (0, .class_ 630), (0, u "java/lang/StringUTF16$CharsSpliterator")] 4

def k8m0 : Method := { name := "<init>", desc := "()V", sig := { parameters := [], returnType := none }, accessFlags := 0, code := none }
def k8c1 : Code := { maxStack := 1, maxLocals := 1, code := jdk_52_method_2_code, exceptionTable := #[], attributes := #[] }
def k8m1 : Method := { name := "newBytesFor", desc := "(I)[B", sig := { parameters := [.int], returnType := some (.array .byte) }, accessFlags := 9, code := some k8c1 }
def k8c2 : Code := { maxStack := 4, maxLocals := 1, code := jdk_52_method_3_code, exceptionTable := #[], attributes := #[] }
def k8m2 : Method := { name := "newBytesLength", desc := "(I)I", sig := { parameters := [.int], returnType := some .int }, accessFlags := 9, code := some k8c2 }
def k8c3 : Code := { maxStack := 4, maxLocals := 3, code := jdk_52_method_4_code, exceptionTable := #[], attributes := #[] }
def k8m3 : Method := { name := "putChar", desc := "([BII)V", sig := { parameters := [(.array .byte), .int, .int], returnType := none }, accessFlags := 8, code := some k8c3 }
def k8c4 : Code := { maxStack := 3, maxLocals := 2, code := jdk_52_method_5_code, exceptionTable := #[], attributes := #[] }
def k8m4 : Method := { name := "getChar", desc := "([BI)C", sig := { parameters := [(.array .byte), .int], returnType := some .char }, accessFlags := 8, code := some k8c4 }
def k8c5 : Code := { maxStack := 2, maxLocals := 1, code := jdk_52_method_6_code, exceptionTable := #[], attributes := #[] }
def k8m5 : Method := { name := "length", desc := "([B)I", sig := { parameters := [(.array .byte)], returnType := some .int }, accessFlags := 9, code := some k8c5 }
def k8c6 : Code := { maxStack := 4, maxLocals := 5, code := jdk_52_method_14_code, exceptionTable := #[], attributes := #[] }
def k8m6 : Method := { name := "toBytes", desc := "([CII)[B", sig := { parameters := [(.array .char), .int, .int], returnType := some (.array .byte) }, accessFlags := 9, code := some k8c6 }
def k8c7 : Code := { maxStack := 2, maxLocals := 2, code := jdk_52_method_15_code, exceptionTable := #[], attributes := #[] }
def k8m7 : Method := { name := "coderFromArrayLen", desc := "([BI)B", sig := { parameters := [(.array .byte), .int], returnType := some .byte }, accessFlags := 8, code := some k8c7 }
def k8c8 : Code := { maxStack := 5, maxLocals := 6, code := jdk_52_method_16_code, exceptionTable := #[], attributes := #[] }
def k8m8 : Method := { name := "compress", desc := "([CII)[B", sig := { parameters := [(.array .char), .int, .int], returnType := some (.array .byte) }, accessFlags := 9, code := some k8c8 }
def k8c9 : Code := { maxStack := 3, maxLocals := 7, code := jdk_52_method_21_code, exceptionTable := #[], attributes := #[] }
def k8m9 : Method := { name := "compress", desc := "([CI[BII)I", sig := { parameters := [(.array .char), .int, (.array .byte), .int, .int], returnType := some .int }, accessFlags := 9, code := some k8c9 }
def k8c10 : Code := { maxStack := 2, maxLocals := 2, code := jdk_52_method_83_code, exceptionTable := #[], attributes := #[] }
def k8m10 : Method := { name := "charAt", desc := "([BI)C", sig := { parameters := [(.array .byte), .int], returnType := some .char }, accessFlags := 9, code := some k8c10 }
def k8c11 : Code := { maxStack := 2, maxLocals := 2, code := jdk_52_method_91_code, exceptionTable := #[], attributes := #[] }
def k8m11 : Method := { name := "checkIndex", desc := "(I[B)V", sig := { parameters := [.int, (.array .byte)], returnType := none }, accessFlags := 9, code := some k8c11 }
/-- java/lang/StringUTF16 -/
def k8 : Class := { plain "java/lang/StringUTF16" (some 0) with
  accessFlags := 48
  interfaces := #[]
  cf := some (fileOf pool8 12 #[.nestMembers #[627, 629, 369]] #[{ accessFlags := 0, nameIndex := 9, descriptorIndex := 10, attributes := #[] }, { accessFlags := 9, nameIndex := 109, descriptorIndex := 110, attributes := #[] }, { accessFlags := 9, nameIndex := 15, descriptorIndex := 16, attributes := #[] }, { accessFlags := 8, nameIndex := 113, descriptorIndex := 114, attributes := #[] }, { accessFlags := 8, nameIndex := 73, descriptorIndex := 74, attributes := #[] }, { accessFlags := 9, nameIndex := 50, descriptorIndex := 51, attributes := #[] }, { accessFlags := 9, nameIndex := 121, descriptorIndex := 122, attributes := #[] }, { accessFlags := 8, nameIndex := 261, descriptorIndex := 262, attributes := #[] }, { accessFlags := 9, nameIndex := 117, descriptorIndex := 122, attributes := #[] }, { accessFlags := 9, nameIndex := 117, descriptorIndex := 118, attributes := #[] }, { accessFlags := 9, nameIndex := 392, descriptorIndex := 74, attributes := #[] }, { accessFlags := 9, nameIndex := 69, descriptorIndex := 70, attributes := #[] }] 48 6 #[] #[{ accessFlags := 26, nameIndex := 61, descriptorIndex := 62, attributes := #[] }, { accessFlags := 26, nameIndex := 65, descriptorIndex := 62, attributes := #[] }, { accessFlags := 24, nameIndex := 430, descriptorIndex := 62, attributes := #[] }, { accessFlags := 4120, nameIndex := 46, descriptorIndex := 47, attributes := #[] }])
  fields := #[{ name := "HI_BYTE_SHIFT", type := .int, accessFlags := 26, slot := 0, constantValue := 0 }, { name := "LO_BYTE_SHIFT", type := .int, accessFlags := 26, slot := 1, constantValue := 0 }, { name := "MAX_LENGTH", type := .int, accessFlags := 24, slot := 2, constantValue := 0 }, { name := "$assertionsDisabled", type := .boolean, accessFlags := 4120, slot := 3, constantValue := 0 }]
  methods := #[k8m0, k8m1, k8m2, k8m3, k8m4, k8m5, k8m6, k8m7, k8m8, k8m9, k8m10, k8m11]
  instanceTypes := #[]
  staticTypes := #[.int, .int, .int, .boolean]
  resolved := Array.replicate 635 none
  statics := some 1 }

def pool9 : Array CpInfo := pool [(1, .methodref 2 3), (0, .class_ 4), (0, .nameAndType 5 6), (0, u "java/lang/Object"), (0, u "<init>"), (0, u "()V"), (0, .fieldref 8 9), (0, .class_ 10), (0, .nameAndType 11 12), (0, u "com/example/watchful_junction/watchfuljunction/importer/Network$Phase"), (0, u "durationS"), (0, u "I"), (0, .fieldref 8 14), (0, .nameAndType 15 16), (0, u "state"), (0, u "Ljava/lang/String;"), (0, .methodref 18 19), (0, .class_ 20), (0, .nameAndType 21 22), (0, u "java/lang/String"), (0, u "charAt"), (0, u "(I)C"), (0, u "(ILjava/lang/String;)V"), (3, u "green"), (0, u "(I)Z"), (4, .class_ 34), (0, u "com/example/watchful_junction/watchfuljunction/importer/Network")] 2

def k9c0 : Code := { maxStack := 2, maxLocals := 3, code := prog_18_method_1_code, exceptionTable := #[], attributes := #[] }
def k9m0 : Method := { name := "<init>", desc := "(ILjava/lang/String;)V", sig := { parameters := [.int, (.object "java/lang/String")], returnType := none }, accessFlags := 0, code := some k9c0 }
def k9c1 : Code := { maxStack := 2, maxLocals := 3, code := prog_18_method_3_code, exceptionTable := #[], attributes := #[] }
def k9m1 : Method := { name := "green", desc := "(I)Z", sig := { parameters := [.int], returnType := some .boolean }, accessFlags := 0, code := some k9c1 }
/-- com/example/watchful_junction/watchfuljunction/importer/Network$Phase -/
def k9 : Class := { plain "com/example/watchful_junction/watchfuljunction/importer/Network$Phase" (some 0) with
  accessFlags := 48
  interfaces := #[]
  cf := some (fileOf pool9 8 #[.nestHost 33] #[{ accessFlags := 0, nameIndex := 5, descriptorIndex := 23, attributes := #[] }, { accessFlags := 0, nameIndex := 27, descriptorIndex := 28, attributes := #[] }] 48 2 #[] #[{ accessFlags := 18, nameIndex := 11, descriptorIndex := 12, attributes := #[] }, { accessFlags := 18, nameIndex := 15, descriptorIndex := 16, attributes := #[] }])
  fields := #[{ name := "durationS", type := .int, accessFlags := 18, slot := 0, constantValue := 0 }, { name := "state", type := (.object "java/lang/String"), accessFlags := 18, slot := 1, constantValue := 0 }]
  methods := #[k9m0, k9m1]
  instanceTypes := #[.int, (.object "java/lang/String")]
  staticTypes := #[]
  resolved := Array.replicate 37 none
  statics := none }

def pool10 : Array CpInfo := pool [(1, .class_ 2), (0, u "java/lang/String"), (1, .class_ 6), (1, u "java/lang/Object"), (0, u "<init>"), (0, u "()V"), (0, .methodref 1 10), (0, .nameAndType 11 12), (0, u "checkIndex"), (0, u "(II)V"), (1, .class_ 16), (1, u "java/lang/StringLatin1"), (36, u "([BI)C"), (67, u "$assertionsDisabled"), (0, u "Z"), (98, .class_ 223), (1, u "java/lang/StringLatin1$LinesSpliterator"), (28, u "charAt"), (137, .class_ 391), (0, u "java/lang/StringLatin1$CharsSpliterator")] 3

def k10m0 : Method := { name := "<init>", desc := "()V", sig := { parameters := [], returnType := none }, accessFlags := 0, code := none }
def k10c1 : Code := { maxStack := 2, maxLocals := 2, code := jdk_43_method_2_code, exceptionTable := #[], attributes := #[] }
def k10m1 : Method := { name := "charAt", desc := "([BI)C", sig := { parameters := [(.array .byte), .int], returnType := some .char }, accessFlags := 9, code := some k10c1 }
/-- java/lang/StringLatin1 -/
def k10 : Class := { plain "java/lang/StringLatin1" (some 0) with
  accessFlags := 48
  interfaces := #[]
  cf := some (fileOf pool10 14 #[.nestMembers #[390, 221]] #[{ accessFlags := 0, nameIndex := 7, descriptorIndex := 8, attributes := #[] }, { accessFlags := 9, nameIndex := 252, descriptorIndex := 53, attributes := #[] }] 48 4 #[] #[{ accessFlags := 4120, nameIndex := 121, descriptorIndex := 122, attributes := #[] }])
  fields := #[{ name := "$assertionsDisabled", type := .boolean, accessFlags := 4120, slot := 0, constantValue := 0 }]
  methods := #[k10m0, k10m1]
  instanceTypes := #[]
  staticTypes := #[.boolean]
  resolved := Array.replicate 395 none
  statics := none }

def pool11 : Array CpInfo := pool [(2, .class_ 4), (1, u "java/lang/Object"), (0, u "<init>"), (0, u "()V"), (17, .class_ 26), (1, u "jdk/internal/util/Preconditions"), (6, u "checkIndex"), (21, .class_ 56), (0, u "jdk/internal/util/Preconditions$4"), (57, .class_ 115), (0, u "jdk/internal/util/Preconditions$1"), (7, u "SIOOBE_FORMATTER"), (0, u "Ljava/util/function/BiFunction;"), (0, .class_ 126), (0, u "jdk/internal/util/Preconditions$2"), (3, u "AIOOBE_FORMATTER"), (0, .class_ 132), (0, u "jdk/internal/util/Preconditions$3"), (3, u "IOOBE_FORMATTER"), (41, u "(IILjava/util/function/BiFunction;)I")] 15

def k11m0 : Method := { name := "<init>", desc := "()V", sig := { parameters := [], returnType := none }, accessFlags := 1, code := none }
def k11c1 : Code := { maxStack := 3, maxLocals := 3, code := jdk_41_method_11_code, exceptionTable := #[], attributes := #[] }
def k11m1 : Method := { name := "checkIndex", desc := "(IILjava/util/function/BiFunction;)I", sig := { parameters := [.int, .int, (.object "java/util/function/BiFunction")], returnType := some .int }, accessFlags := 9, code := some k11c1 }
/-- jdk/internal/util/Preconditions -/
def k11 : Class := { plain "jdk/internal/util/Preconditions" (some 0) with
  accessFlags := 33
  interfaces := #[]
  cf := some (fileOf pool11 24 #[.nestMembers #[55, 131, 125, 114]] #[{ accessFlags := 1, nameIndex := 5, descriptorIndex := 6, attributes := #[] }, { accessFlags := 9, nameIndex := 33, descriptorIndex := 178, attributes := #[] }] 33 2 #[] #[{ accessFlags := 25, nameIndex := 123, descriptorIndex := 124, attributes := #[] }, { accessFlags := 25, nameIndex := 130, descriptorIndex := 124, attributes := #[] }, { accessFlags := 25, nameIndex := 136, descriptorIndex := 124, attributes := #[] }])
  fields := #[{ name := "SIOOBE_FORMATTER", type := (.object "java/util/function/BiFunction"), accessFlags := 25, slot := 0, constantValue := 0 }, { name := "AIOOBE_FORMATTER", type := (.object "java/util/function/BiFunction"), accessFlags := 25, slot := 1, constantValue := 0 }, { name := "IOOBE_FORMATTER", type := (.object "java/util/function/BiFunction"), accessFlags := 25, slot := 2, constantValue := 0 }]
  methods := #[k11m0, k11m1]
  instanceTypes := #[]
  staticTypes := #[(.object "java/util/function/BiFunction"), (.object "java/util/function/BiFunction"), (.object "java/util/function/BiFunction")]
  resolved := Array.replicate 194 none
  statics := some 2 }

def pool12 : Array CpInfo := pool [(9, u "<init>"), (6, .class_ 18), (1, u "java/lang/Object"), (0, u "()V"), (1, .class_ 23), (1, u "jdk/internal/util/ArraysSupport"), (0, u "LOG2_ARRAY_LONG_INDEX_SCALE"), (0, u "I"), (2, u "U"), (0, u "Ljdk/internal/misc/Unsafe;"), (8, u "BIG_ENDIAN"), (0, u "Z"), (8, u "LOG2_BYTE_BIT_SIZE"), (4, u "LOG2_ARRAY_INT_INDEX_SCALE"), (54, u "JLA"), (0, u "Ljdk/internal/access/JavaLangAccess;"), (11, u "LOG2_ARRAY_BOOLEAN_INDEX_SCALE"), (9, u "LOG2_ARRAY_BYTE_INDEX_SCALE"), (5, u "LOG2_ARRAY_CHAR_INDEX_SCALE"), (5, u "LOG2_ARRAY_SHORT_INDEX_SCALE"), (18, u "LOG2_ARRAY_FLOAT_INDEX_SCALE"), (24, u "LOG2_ARRAY_DOUBLE_INDEX_SCALE"), (89, u "T_BOOLEAN"), (2, u "T_CHAR"), (1, u "T_FLOAT"), (1, u "T_DOUBLE"), (1, u "T_BYTE"), (1, u "T_SHORT"), (1, u "T_INT"), (1, u "T_LONG"), (1, u "SOFT_MAX_ARRAY_LENGTH")] 83

def k12m0 : Method := { name := "<init>", desc := "()V", sig := { parameters := [], returnType := none }, accessFlags := 2, code := none }
/-- jdk/internal/util/ArraysSupport -/
def k12 : Class := { plain "jdk/internal/util/ArraysSupport" (some 0) with
  accessFlags := 33
  interfaces := #[]
  cf := some (fileOf pool12 21 #[] #[{ accessFlags := 2, nameIndex := 9, descriptorIndex := 19, attributes := #[] }] 33 16 #[] #[{ accessFlags := 24, nameIndex := 28, descriptorIndex := 29, attributes := #[] }, { accessFlags := 26, nameIndex := 38, descriptorIndex := 39, attributes := #[] }, { accessFlags := 25, nameIndex := 121, descriptorIndex := 25, attributes := #[] }, { accessFlags := 25, nameIndex := 131, descriptorIndex := 25, attributes := #[] }, { accessFlags := 25, nameIndex := 137, descriptorIndex := 25, attributes := #[] }, { accessFlags := 25, nameIndex := 143, descriptorIndex := 25, attributes := #[] }, { accessFlags := 25, nameIndex := 53, descriptorIndex := 25, attributes := #[] }, { accessFlags := 25, nameIndex := 24, descriptorIndex := 25, attributes := #[] }, { accessFlags := 25, nameIndex := 162, descriptorIndex := 25, attributes := #[] }, { accessFlags := 25, nameIndex := 187, descriptorIndex := 25, attributes := #[] }, { accessFlags := 26, nameIndex := 48, descriptorIndex := 25, attributes := #[] }, { accessFlags := 25, nameIndex := 277, descriptorIndex := 25, attributes := #[] }, { accessFlags := 25, nameIndex := 280, descriptorIndex := 25, attributes := #[] }, { accessFlags := 25, nameIndex := 282, descriptorIndex := 25, attributes := #[] }, { accessFlags := 25, nameIndex := 284, descriptorIndex := 25, attributes := #[] }, { accessFlags := 25, nameIndex := 286, descriptorIndex := 25, attributes := #[] }, { accessFlags := 25, nameIndex := 288, descriptorIndex := 25, attributes := #[] }, { accessFlags := 25, nameIndex := 290, descriptorIndex := 25, attributes := #[] }, { accessFlags := 25, nameIndex := 292, descriptorIndex := 25, attributes := #[] }, { accessFlags := 26, nameIndex := 108, descriptorIndex := 109, attributes := #[] }, { accessFlags := 25, nameIndex := 294, descriptorIndex := 25, attributes := #[] }])
  fields := #[{ name := "U", type := (.object "jdk/internal/misc/Unsafe"), accessFlags := 24, slot := 0, constantValue := 0 }, { name := "BIG_ENDIAN", type := .boolean, accessFlags := 26, slot := 1, constantValue := 0 }, { name := "LOG2_ARRAY_BOOLEAN_INDEX_SCALE", type := .int, accessFlags := 25, slot := 2, constantValue := 0 }, { name := "LOG2_ARRAY_BYTE_INDEX_SCALE", type := .int, accessFlags := 25, slot := 3, constantValue := 0 }, { name := "LOG2_ARRAY_CHAR_INDEX_SCALE", type := .int, accessFlags := 25, slot := 4, constantValue := 0 }, { name := "LOG2_ARRAY_SHORT_INDEX_SCALE", type := .int, accessFlags := 25, slot := 5, constantValue := 0 }, { name := "LOG2_ARRAY_INT_INDEX_SCALE", type := .int, accessFlags := 25, slot := 6, constantValue := 0 }, { name := "LOG2_ARRAY_LONG_INDEX_SCALE", type := .int, accessFlags := 25, slot := 7, constantValue := 0 }, { name := "LOG2_ARRAY_FLOAT_INDEX_SCALE", type := .int, accessFlags := 25, slot := 8, constantValue := 0 }, { name := "LOG2_ARRAY_DOUBLE_INDEX_SCALE", type := .int, accessFlags := 25, slot := 9, constantValue := 0 }, { name := "LOG2_BYTE_BIT_SIZE", type := .int, accessFlags := 26, slot := 10, constantValue := 0 }, { name := "T_BOOLEAN", type := .int, accessFlags := 25, slot := 11, constantValue := 0 }, { name := "T_CHAR", type := .int, accessFlags := 25, slot := 12, constantValue := 0 }, { name := "T_FLOAT", type := .int, accessFlags := 25, slot := 13, constantValue := 0 }, { name := "T_DOUBLE", type := .int, accessFlags := 25, slot := 14, constantValue := 0 }, { name := "T_BYTE", type := .int, accessFlags := 25, slot := 15, constantValue := 0 }, { name := "T_SHORT", type := .int, accessFlags := 25, slot := 16, constantValue := 0 }, { name := "T_INT", type := .int, accessFlags := 25, slot := 17, constantValue := 0 }, { name := "T_LONG", type := .int, accessFlags := 25, slot := 18, constantValue := 0 }, { name := "JLA", type := (.object "jdk/internal/access/JavaLangAccess"), accessFlags := 26, slot := 19, constantValue := 0 }, { name := "SOFT_MAX_ARRAY_LENGTH", type := .int, accessFlags := 25, slot := 20, constantValue := 0 }]
  methods := #[k12m0]
  instanceTypes := #[]
  staticTypes := #[(.object "jdk/internal/misc/Unsafe"), .boolean, .int, .int, .int, .int, .int, .int, .int, .int, .int, .int, .int, .int, .int, .int, .int, .int, .int, (.object "jdk/internal/access/JavaLangAccess"), .int]
  resolved := Array.replicate 378 none
  statics := none }

def pool13 : Array CpInfo := pool [(1, u "java/lang/Cloneable"), (0, .class_ 1), (0, u "java/lang/Object"), (0, .class_ 3)] 3

/-- java/lang/Cloneable -/
def k13 : Class := { plain "java/lang/Cloneable" (some 0) with
  accessFlags := 1537
  interfaces := #[]
  cf := some (fileOf pool13 2 #[] #[] 1537 4 #[] #[])
  fields := #[]
  methods := #[]
  instanceTypes := #[]
  staticTypes := #[]
  resolved := Array.replicate 8 none
  statics := none }

/-- the primitive byte -/
def k14 : Class := { plain "byte" none with kind := .primitive 'B', accessFlags := 0x411 }
/-- [B -/
def k15 : Class := { plain "[B" (some 0) with kind := .array 14 .byte, interfaces := #[13, 2], accessFlags := 1041 }

/-- the primitive char -/
def k16 : Class := { plain "char" none with kind := .primitive 'C', accessFlags := 0x411 }
/-- [C -/
def k17 : Class := { plain "[C" (some 0) with kind := .array 16 .char, interfaces := #[13, 2], accessFlags := 1041 }

/-- the primitive int -/
def k18 : Class := { plain "int" none with kind := .primitive 'I', accessFlags := 0x411 }
/-- [I -/
def k19 : Class := { plain "[I" (some 0) with kind := .array 18 .int, interfaces := #[13, 2], accessFlags := 1041 }

def heap : Heap := #[{ cls := 7, slots := #[.long 0, .int 1, .null, .int 0, .null, .int 0, .int 0], vm := .statics 7 },
  { cls := 8, slots := #[.int 0, .int 8, .int 0, .int 1], vm := .statics 8 },
  { cls := 11, slots := #[.null, .null, .null], vm := .statics 11 }]
def classes : Array Class := #[k0, k1, k2, k3, k4, k5, k6, k7, k8, k9, k10, k11, k12, k13, k14, k15, k16, k17, k18, k19]
def interned : List (Array UInt16 × Addr) := []
def slotsUsed : Nat := 14
def theMethod : MethodId := ⟨1, 3⟩
def args0 : Array Value := #[.int 5, .int 7, .int 9, .int 11, .int 30]
def aboutOver (below : List Frame) : State where
  vm := { classes := classes, interned := interned.toArray }
  heap := heap
  slotsUsed := slotsUsed
  threads := #[{ frames := .invoking theMethod args0 :: below }]
def below0 : List Frame := [.native { method := ⟨0, 0⟩, args := #[] }]
def about1 : State := aboutOver below0
def p0 : Program := .bare "" "" ""
def e0 : Env := launch0.env 0 0 0
theorem w_frames : about1.frames = Frame.invoking theMethod args0 :: below0 := rfl
set_option maxRecDepth 65536 in
theorem w_args : argsFit about1.vm theMethod args0 = true := by decide +kernel
set_option maxRecDepth 65536 in
theorem w_heap : heapFits about1 = true := by decide +kernel
set_option maxRecDepth 65536 in
theorem w_runnable : about1.curStatus? = some .runnable := by decide +kernel
set_option maxRecDepth 65536 in
theorem w_alone : about1.alone = true := by decide +kernel
set_option maxRecDepth 65536 in
theorem w_named : about1.methodNamed? x = some theMethod := by decide +kernel
set_option maxRecDepth 65536 in
theorem w_hears : about1.hears theMethod below0 = true := by decide +kernel
set_option maxRecDepth 65536 in
theorem w_ripe : about1.ripe theMethod args0 below0 = true := by decide +kernel
theorem w_running : about1.status = .running := rfl
set_option maxRecDepth 65536 in
theorem w_room : about1.hasRoom e0.platform room_1 = true :=
  launch0.hasRoom_least _ room_1 (by decide +kernel) (by decide +kernel) (by decide +kernel) (by decide +kernel) (by decide +kernel) (by decide +kernel)
theorem allAtoms_all (ts : List Jvm.Cond) (a : Array Jvm.Value) (st : Jvm.State) : (allAtoms ts).before a st = ts.all (fun c => c.before a st) := by
  induction ts with
  | nil => rfl
  | cons c t ih =>
    show (Jvm.Cond.and c (allAtoms t)).before a st = _
    rw [Jvm.Cond.before_and, ih, List.all_cons]
def words1 : List Jvm.Cond := Jvm.Cond.code x code maxLocals ret :: tables_1
/-- a 'code' word, met by the world's own term for the bytes: nothing is compared byte by byte -/
theorem code_word {y : MethodName} {bytes : ByteArray} {mx : Nat} {rt : Option FieldType} {a : Array Value} {s : State} {m : MethodId} {meth : Method} {c : Code} (h1 : s.methodNamed? y = some m) (h2 : s.vm.method? m = some meth) (h3 : meth.code = some c) (h4 : c.code = bytes)
    (h5 : (c.maxLocals == mx && c.exceptionTable.isEmpty && decide (c.maxStack ≤ mostOperands) && decide (meth.sig.returnType = rt) && !meth.locks && decide (parseMethodDescriptor y.desc = some meth.sig)) = true) : (Jvm.Cond.code y bytes mx rt).before a s = true := by
  simp only [Bool.and_eq_true, beq_iff_eq, Bool.not_eq_true', decide_eq_true_eq] at h5
  obtain ⟨⟨⟨⟨⟨g1, g2⟩, g3⟩, g4⟩, g5⟩, g6⟩ := h5
  simp [Cond.before, Cond.holds, Cond.value, h1, h2, h3, h4, g1, g2, g3, g4, g5, g6]
def isCode : Jvm.Cond → Bool
  | .code _ _ _ _ => true
  | _ => false
theorem all_split {L : List Jvm.Cond} {P : Jvm.Cond → Bool} (h1 : L.all (fun c => isCode c || P c) = true) (h2 : ∀ c ∈ L.filter isCode, P c = true) : L.all P = true := by
  refine List.all_eq_true.mpr fun c hc => ?_
  have h := List.all_eq_true.mp h1 c hc
  rcases Bool.eq_false_or_eq_true (isCode c) with hi | hi
  · exact h2 c (List.mem_filter.mpr ⟨hc, hi⟩)
  · simpa [hi] using h
set_option maxRecDepth 65536 in
theorem w_c0 : (Jvm.Cond.code x code maxLocals ret).before args0 about1 = true := code_word (m := ⟨1, 3⟩) (meth := k1m3) (c := k1c3) (by decide +kernel) rfl rfl rfl (by decide +kernel)
set_option maxRecDepth 65536 in
theorem w_c1 : (Jvm.Cond.code ({ cls := "com/example/watchful_junction/watchfuljunction/importer/PhaseGreenPinLaw", name := "pick", desc := "(I)C" } : Jvm.MethodName) method_2_code (2 : Nat) (Option.some Jvm.ClassFile.FieldType.char)).before args0 about1 = true := code_word (m := ⟨1, 1⟩) (meth := k1m1) (c := k1c1) (by decide +kernel) rfl rfl rfl (by decide +kernel)
set_option maxRecDepth 65536 in
theorem w_c2 : (Jvm.Cond.code ({ cls := "java/lang/String", name := "<init>", desc := "([C)V" } : Jvm.MethodName) jdk_42_method_3_code (2 : Nat) (Option.none : Option Jvm.ClassFile.FieldType)).before args0 about1 = true := code_word (m := ⟨7, 1⟩) (meth := k7m1) (c := k7c1) (by decide +kernel) rfl rfl rfl (by decide +kernel)
set_option maxRecDepth 65536 in
theorem w_c3 : (Jvm.Cond.code ({ cls := "java/lang/String", name := "<init>", desc := "([CIILjava/lang/Void;)V" } : Jvm.MethodName) jdk_42_method_149_code (6 : Nat) (Option.none : Option Jvm.ClassFile.FieldType)).before args0 about1 = true := code_word (m := ⟨7, 3⟩) (meth := k7m3) (c := k7c3) (by decide +kernel) rfl rfl rfl (by decide +kernel)
set_option maxRecDepth 65536 in
theorem w_c4 : (Jvm.Cond.code ({ cls := "java/lang/Object", name := "<init>", desc := "()V" } : Jvm.MethodName) object_method_1_code (1 : Nat) (Option.none : Option Jvm.ClassFile.FieldType)).before args0 about1 = true := code_word (m := ⟨0, 0⟩) (meth := k0m0) (c := k0c0) (by decide +kernel) rfl rfl rfl (by decide +kernel)
set_option maxRecDepth 65536 in
theorem w_c5 : (Jvm.Cond.code ({ cls := "java/lang/StringUTF16", name := "compress", desc := "([CII)[B" } : Jvm.MethodName) jdk_52_method_16_code (6 : Nat) (Option.some (Jvm.ClassFile.FieldType.array Jvm.ClassFile.FieldType.byte))).before args0 about1 = true := code_word (m := ⟨8, 8⟩) (meth := k8m8) (c := k8c8) (by decide +kernel) rfl rfl rfl (by decide +kernel)
set_option maxRecDepth 65536 in
theorem w_c6 : (Jvm.Cond.code ({ cls := "java/lang/StringUTF16", name := "compress", desc := "([CI[BII)I" } : Jvm.MethodName) jdk_52_method_21_code (7 : Nat) (Option.some Jvm.ClassFile.FieldType.int)).before args0 about1 = true := code_word (m := ⟨8, 9⟩) (meth := k8m9) (c := k8c9) (by decide +kernel) rfl rfl rfl (by decide +kernel)
set_option maxRecDepth 65536 in
theorem w_c7 : (Jvm.Cond.code ({ cls := "java/lang/StringUTF16", name := "coderFromArrayLen", desc := "([BI)B" } : Jvm.MethodName) jdk_52_method_15_code (2 : Nat) (Option.some Jvm.ClassFile.FieldType.byte)).before args0 about1 = true := code_word (m := ⟨8, 7⟩) (meth := k8m7) (c := k8c7) (by decide +kernel) rfl rfl rfl (by decide +kernel)
set_option maxRecDepth 65536 in
theorem w_c8 : (Jvm.Cond.code ({ cls := "com/example/watchful_junction/watchfuljunction/importer/Network$Phase", name := "<init>", desc := "(ILjava/lang/String;)V" } : Jvm.MethodName) prog_18_method_1_code (3 : Nat) (Option.none : Option Jvm.ClassFile.FieldType)).before args0 about1 = true := code_word (m := ⟨9, 0⟩) (meth := k9m0) (c := k9c0) (by decide +kernel) rfl rfl rfl (by decide +kernel)
set_option maxRecDepth 65536 in
theorem w_c9 : (Jvm.Cond.code ({ cls := "com/example/watchful_junction/watchfuljunction/importer/Network$Phase", name := "green", desc := "(I)Z" } : Jvm.MethodName) prog_18_method_3_code (3 : Nat) (Option.some Jvm.ClassFile.FieldType.boolean)).before args0 about1 = true := code_word (m := ⟨9, 1⟩) (meth := k9m1) (c := k9c1) (by decide +kernel) rfl rfl rfl (by decide +kernel)
set_option maxRecDepth 65536 in
theorem w_c10 : (Jvm.Cond.code ({ cls := "java/lang/String", name := "charAt", desc := "(I)C" } : Jvm.MethodName) jdk_42_method_56_code (2 : Nat) (Option.some Jvm.ClassFile.FieldType.char)).before args0 about1 = true := code_word (m := ⟨7, 2⟩) (meth := k7m2) (c := k7c2) (by decide +kernel) rfl rfl rfl (by decide +kernel)
set_option maxRecDepth 65536 in
theorem w_c11 : (Jvm.Cond.code ({ cls := "java/lang/String", name := "isLatin1", desc := "()Z" } : Jvm.MethodName) jdk_42_method_154_code (1 : Nat) (Option.some Jvm.ClassFile.FieldType.boolean)).before args0 about1 = true := code_word (m := ⟨7, 4⟩) (meth := k7m4) (c := k7c4) (by decide +kernel) rfl rfl rfl (by decide +kernel)
set_option maxRecDepth 65536 in
theorem w_c12 : (Jvm.Cond.code ({ cls := "java/lang/StringLatin1", name := "charAt", desc := "([BI)C" } : Jvm.MethodName) jdk_43_method_2_code (2 : Nat) (Option.some Jvm.ClassFile.FieldType.char)).before args0 about1 = true := code_word (m := ⟨10, 1⟩) (meth := k10m1) (c := k10c1) (by decide +kernel) rfl rfl rfl (by decide +kernel)
set_option maxRecDepth 65536 in
theorem w_c13 : (Jvm.Cond.code ({ cls := "java/lang/String", name := "checkIndex", desc := "(II)V" } : Jvm.MethodName) jdk_42_method_155_code (2 : Nat) (Option.none : Option Jvm.ClassFile.FieldType)).before args0 about1 = true := code_word (m := ⟨7, 5⟩) (meth := k7m5) (c := k7c5) (by decide +kernel) rfl rfl rfl (by decide +kernel)
set_option maxRecDepth 65536 in
theorem w_c14 : (Jvm.Cond.code ({ cls := "jdk/internal/util/Preconditions", name := "checkIndex", desc := "(IILjava/util/function/BiFunction;)I" } : Jvm.MethodName) jdk_41_method_11_code (3 : Nat) (Option.some Jvm.ClassFile.FieldType.int)).before args0 about1 = true := code_word (m := ⟨11, 1⟩) (meth := k11m1) (c := k11c1) (by decide +kernel) rfl rfl rfl (by decide +kernel)
set_option maxRecDepth 65536 in
theorem w_c15 : (Jvm.Cond.code ({ cls := "com/example/watchful_junction/watchfuljunction/importer/PhaseGreenPinLaw", name := "isGreen", desc := "(C)Z" } : Jvm.MethodName) method_3_code (1 : Nat) (Option.some Jvm.ClassFile.FieldType.boolean)).before args0 about1 = true := code_word (m := ⟨1, 2⟩) (meth := k1m2) (c := k1c2) (by decide +kernel) rfl rfl rfl (by decide +kernel)
set_option maxRecDepth 65536 in
theorem w_c16 : (Jvm.Cond.code ({ cls := "java/lang/StringUTF16", name := "toBytes", desc := "([CII)[B" } : Jvm.MethodName) jdk_52_method_14_code (5 : Nat) (Option.some (Jvm.ClassFile.FieldType.array Jvm.ClassFile.FieldType.byte))).before args0 about1 = true := code_word (m := ⟨8, 6⟩) (meth := k8m6) (c := k8c6) (by decide +kernel) rfl rfl rfl (by decide +kernel)
set_option maxRecDepth 65536 in
theorem w_c17 : (Jvm.Cond.code ({ cls := "java/lang/StringUTF16", name := "newBytesFor", desc := "(I)[B" } : Jvm.MethodName) jdk_52_method_2_code (1 : Nat) (Option.some (Jvm.ClassFile.FieldType.array Jvm.ClassFile.FieldType.byte))).before args0 about1 = true := code_word (m := ⟨8, 1⟩) (meth := k8m1) (c := k8c1) (by decide +kernel) rfl rfl rfl (by decide +kernel)
set_option maxRecDepth 65536 in
theorem w_c18 : (Jvm.Cond.code ({ cls := "java/lang/StringUTF16", name := "newBytesLength", desc := "(I)I" } : Jvm.MethodName) jdk_52_method_3_code (1 : Nat) (Option.some Jvm.ClassFile.FieldType.int)).before args0 about1 = true := code_word (m := ⟨8, 2⟩) (meth := k8m2) (c := k8c2) (by decide +kernel) rfl rfl rfl (by decide +kernel)
set_option maxRecDepth 65536 in
theorem w_c19 : (Jvm.Cond.code ({ cls := "java/lang/StringUTF16", name := "putChar", desc := "([BII)V" } : Jvm.MethodName) jdk_52_method_4_code (3 : Nat) (Option.none : Option Jvm.ClassFile.FieldType)).before args0 about1 = true := code_word (m := ⟨8, 3⟩) (meth := k8m3) (c := k8c3) (by decide +kernel) rfl rfl rfl (by decide +kernel)
set_option maxRecDepth 65536 in
theorem w_c20 : (Jvm.Cond.code ({ cls := "java/lang/StringUTF16", name := "getChar", desc := "([BI)C" } : Jvm.MethodName) jdk_52_method_5_code (2 : Nat) (Option.some Jvm.ClassFile.FieldType.char)).before args0 about1 = true := code_word (m := ⟨8, 4⟩) (meth := k8m4) (c := k8c4) (by decide +kernel) rfl rfl rfl (by decide +kernel)
set_option maxRecDepth 65536 in
theorem w_c21 : (Jvm.Cond.code ({ cls := "java/lang/StringUTF16", name := "charAt", desc := "([BI)C" } : Jvm.MethodName) jdk_52_method_83_code (2 : Nat) (Option.some Jvm.ClassFile.FieldType.char)).before args0 about1 = true := code_word (m := ⟨8, 10⟩) (meth := k8m10) (c := k8c10) (by decide +kernel) rfl rfl rfl (by decide +kernel)
set_option maxRecDepth 65536 in
theorem w_c22 : (Jvm.Cond.code ({ cls := "java/lang/StringUTF16", name := "checkIndex", desc := "(I[B)V" } : Jvm.MethodName) jdk_52_method_91_code (2 : Nat) (Option.none : Option Jvm.ClassFile.FieldType)).before args0 about1 = true := code_word (m := ⟨8, 11⟩) (meth := k8m11) (c := k8c11) (by decide +kernel) rfl rfl rfl (by decide +kernel)
set_option maxRecDepth 65536 in
theorem w_c23 : (Jvm.Cond.code ({ cls := "java/lang/StringUTF16", name := "length", desc := "([B)I" } : Jvm.MethodName) jdk_52_method_6_code (1 : Nat) (Option.some Jvm.ClassFile.FieldType.int)).before args0 about1 = true := code_word (m := ⟨8, 5⟩) (meth := k8m5) (c := k8c5) (by decide +kernel) rfl rfl rfl (by decide +kernel)
def codes1 : List Jvm.Cond := [Jvm.Cond.code x code maxLocals ret, Jvm.Cond.code ({ cls := "com/example/watchful_junction/watchfuljunction/importer/PhaseGreenPinLaw", name := "pick", desc := "(I)C" } : Jvm.MethodName) method_2_code (2 : Nat) (Option.some Jvm.ClassFile.FieldType.char), Jvm.Cond.code ({ cls := "java/lang/String", name := "<init>", desc := "([C)V" } : Jvm.MethodName) jdk_42_method_3_code (2 : Nat) (Option.none : Option Jvm.ClassFile.FieldType), Jvm.Cond.code ({ cls := "java/lang/String", name := "<init>", desc := "([CIILjava/lang/Void;)V" } : Jvm.MethodName) jdk_42_method_149_code (6 : Nat) (Option.none : Option Jvm.ClassFile.FieldType), Jvm.Cond.code ({ cls := "java/lang/Object", name := "<init>", desc := "()V" } : Jvm.MethodName) object_method_1_code (1 : Nat) (Option.none : Option Jvm.ClassFile.FieldType), Jvm.Cond.code ({ cls := "java/lang/StringUTF16", name := "compress", desc := "([CII)[B" } : Jvm.MethodName) jdk_52_method_16_code (6 : Nat) (Option.some (Jvm.ClassFile.FieldType.array Jvm.ClassFile.FieldType.byte)), Jvm.Cond.code ({ cls := "java/lang/StringUTF16", name := "compress", desc := "([CI[BII)I" } : Jvm.MethodName) jdk_52_method_21_code (7 : Nat) (Option.some Jvm.ClassFile.FieldType.int), Jvm.Cond.code ({ cls := "java/lang/StringUTF16", name := "coderFromArrayLen", desc := "([BI)B" } : Jvm.MethodName) jdk_52_method_15_code (2 : Nat) (Option.some Jvm.ClassFile.FieldType.byte), Jvm.Cond.code ({ cls := "com/example/watchful_junction/watchfuljunction/importer/Network$Phase", name := "<init>", desc := "(ILjava/lang/String;)V" } : Jvm.MethodName) prog_18_method_1_code (3 : Nat) (Option.none : Option Jvm.ClassFile.FieldType), Jvm.Cond.code ({ cls := "com/example/watchful_junction/watchfuljunction/importer/Network$Phase", name := "green", desc := "(I)Z" } : Jvm.MethodName) prog_18_method_3_code (3 : Nat) (Option.some Jvm.ClassFile.FieldType.boolean), Jvm.Cond.code ({ cls := "java/lang/String", name := "charAt", desc := "(I)C" } : Jvm.MethodName) jdk_42_method_56_code (2 : Nat) (Option.some Jvm.ClassFile.FieldType.char), Jvm.Cond.code ({ cls := "java/lang/String", name := "isLatin1", desc := "()Z" } : Jvm.MethodName) jdk_42_method_154_code (1 : Nat) (Option.some Jvm.ClassFile.FieldType.boolean), Jvm.Cond.code ({ cls := "java/lang/StringLatin1", name := "charAt", desc := "([BI)C" } : Jvm.MethodName) jdk_43_method_2_code (2 : Nat) (Option.some Jvm.ClassFile.FieldType.char), Jvm.Cond.code ({ cls := "java/lang/String", name := "checkIndex", desc := "(II)V" } : Jvm.MethodName) jdk_42_method_155_code (2 : Nat) (Option.none : Option Jvm.ClassFile.FieldType), Jvm.Cond.code ({ cls := "jdk/internal/util/Preconditions", name := "checkIndex", desc := "(IILjava/util/function/BiFunction;)I" } : Jvm.MethodName) jdk_41_method_11_code (3 : Nat) (Option.some Jvm.ClassFile.FieldType.int), Jvm.Cond.code ({ cls := "com/example/watchful_junction/watchfuljunction/importer/PhaseGreenPinLaw", name := "isGreen", desc := "(C)Z" } : Jvm.MethodName) method_3_code (1 : Nat) (Option.some Jvm.ClassFile.FieldType.boolean), Jvm.Cond.code ({ cls := "java/lang/StringUTF16", name := "toBytes", desc := "([CII)[B" } : Jvm.MethodName) jdk_52_method_14_code (5 : Nat) (Option.some (Jvm.ClassFile.FieldType.array Jvm.ClassFile.FieldType.byte)), Jvm.Cond.code ({ cls := "java/lang/StringUTF16", name := "newBytesFor", desc := "(I)[B" } : Jvm.MethodName) jdk_52_method_2_code (1 : Nat) (Option.some (Jvm.ClassFile.FieldType.array Jvm.ClassFile.FieldType.byte)), Jvm.Cond.code ({ cls := "java/lang/StringUTF16", name := "newBytesLength", desc := "(I)I" } : Jvm.MethodName) jdk_52_method_3_code (1 : Nat) (Option.some Jvm.ClassFile.FieldType.int), Jvm.Cond.code ({ cls := "java/lang/StringUTF16", name := "putChar", desc := "([BII)V" } : Jvm.MethodName) jdk_52_method_4_code (3 : Nat) (Option.none : Option Jvm.ClassFile.FieldType), Jvm.Cond.code ({ cls := "java/lang/StringUTF16", name := "getChar", desc := "([BI)C" } : Jvm.MethodName) jdk_52_method_5_code (2 : Nat) (Option.some Jvm.ClassFile.FieldType.char), Jvm.Cond.code ({ cls := "java/lang/StringUTF16", name := "charAt", desc := "([BI)C" } : Jvm.MethodName) jdk_52_method_83_code (2 : Nat) (Option.some Jvm.ClassFile.FieldType.char), Jvm.Cond.code ({ cls := "java/lang/StringUTF16", name := "checkIndex", desc := "(I[B)V" } : Jvm.MethodName) jdk_52_method_91_code (2 : Nat) (Option.none : Option Jvm.ClassFile.FieldType), Jvm.Cond.code ({ cls := "java/lang/StringUTF16", name := "length", desc := "([B)I" } : Jvm.MethodName) jdk_52_method_6_code (1 : Nat) (Option.some Jvm.ClassFile.FieldType.int)]
set_option maxRecDepth 65536 in
theorem codes_eq : words1.filter isCode = codes1 := rfl
theorem w_codes : ∀ c ∈ words1.filter isCode, c.before args0 about1 = true := by
  rw [codes_eq]
  intro c hc
  simp only [codes1, List.mem_cons, List.not_mem_nil, or_false] at hc
  rcases hc with rfl | rfl | rfl | rfl | rfl | rfl | rfl | rfl | rfl | rfl | rfl | rfl | rfl | rfl | rfl | rfl | rfl | rfl | rfl | rfl | rfl | rfl | rfl | rfl
  · exact w_c0
  · exact w_c1
  · exact w_c2
  · exact w_c3
  · exact w_c4
  · exact w_c5
  · exact w_c6
  · exact w_c7
  · exact w_c8
  · exact w_c9
  · exact w_c10
  · exact w_c11
  · exact w_c12
  · exact w_c13
  · exact w_c14
  · exact w_c15
  · exact w_c16
  · exact w_c17
  · exact w_c18
  · exact w_c19
  · exact w_c20
  · exact w_c21
  · exact w_c22
  · exact w_c23
set_option maxRecDepth 65536 in
theorem w_t1 : (words1.take 24).all (fun c => isCode c || c.before args0 about1) = true := by decide +kernel
set_option maxRecDepth 65536 in
theorem w_t2 : ((words1.drop 24).take 24).all (fun c => isCode c || c.before args0 about1) = true := by decide +kernel
set_option maxRecDepth 65536 in
theorem w_t3 : (((words1.drop 24).drop 24).take 24).all (fun c => isCode c || c.before args0 about1) = true := by decide +kernel
set_option maxRecDepth 65536 in
theorem w_t4 : ((((words1.drop 24).drop 24).drop 24).take 24).all (fun c => isCode c || c.before args0 about1) = true := by decide +kernel
set_option maxRecDepth 65536 in
theorem w_t5 : ((((words1.drop 24).drop 24).drop 24).drop 24).all (fun c => isCode c || c.before args0 about1) = true := by decide +kernel
theorem w_tables : (allAtoms (Jvm.Cond.code x code maxLocals ret :: tables_1)).before args0 about1 = true := by
  rw [allAtoms_all]
  show words1.all (fun c => c.before args0 about1) = true
  refine all_split ?_ w_codes
  rw [← List.take_append_drop 24 words1, List.all_append, w_t1, ← List.take_append_drop 24 (words1.drop 24), List.all_append, w_t2, ← List.take_append_drop 24 ((words1.drop 24).drop 24), List.all_append, w_t3, ← List.take_append_drop 24 (((words1.drop 24).drop 24).drop 24), List.all_append, w_t4, w_t5]
  rfl
set_option maxRecDepth 65536 in
theorem w_rest : rest_1_c.before args0 about1 = true := by decide +kernel
set_option maxRecDepth 65536 in
theorem w_case : (Jvm.Cond.and given_1 narrow_1).before args0 about1 = true := by decide +kernel
theorem w_applies : (headSpec (Jvm.Cond.code x code maxLocals ret :: tables_1) room_1).applies x e0.platform about1 = true :=
  (Spec.applies_iff w_frames).mpr ⟨w_running, w_runnable, w_alone, w_named, w_hears, w_ripe, w_room, w_tables⟩
theorem atStart : AtStart classFile x code maxLocals ret World_1 tables_1 room_1 Calls_1 rest_1 Pre_1 launch0 p0 e0 about1 theMethod args0 below0 :=
  ⟨lists_1, trivial, launch0.admits_env _ _ _, launch0.least_env, fairChoices_fair.cas, fairChoices_fair.clock, w_frames, w_args, w_heap, w_applies, trivial, w_rest, w_case⟩
end start1
theorem witness_1 : WitnessClaimed_1 := ⟨start1.p0, start1.e0, start1.about1, start1.theMethod, start1.args0, start1.below0, start1.atStart⟩
end Jvm.Pilot.@@N@@
