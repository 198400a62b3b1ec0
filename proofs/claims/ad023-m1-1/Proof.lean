import JvmDerived
import JvmDerived.Pilot.@@N@@Statement
import JvmDerived.Pilot.@@N@@Code
set_option linter.unusedVariables false
set_option linter.unusedSimpArgs false
namespace Jvm.RoadKit
open Sem ClassFile Op Lib Jvm.Stand Jvm.Free Jvm.LawKit
section New
variable {p : Program} {l : Launch} {e : Env} {R : Room} {s : State} {m : MethodId} {args : Array Value} {below : List Frame} {meth : Method} {c : Code} {T : State} {locs : List Loc} {cells slots : Nat}
theorem retI (X : Stand p l e R s m args below meth c T locs cells slots) (hx : p.tables.exec = Jvm.exec) {pc : Nat} {Ls : Array Slot} {z : Int32} {rest : List Value} (hret : meth.sig.returnType = some .int) (hd : decode c.code pc = .ok (.ireturn, 1)) {fs : List Frame}
    (hl : ∀ (f : JFrame) (acts : List Action), f.method = m → f.locked = none → f.entered = [] → (doReturn e (T.setTop f) acts (some (.int z))).1 = T.setFrames fs) : Steps p.tables e below (T.setTop (mkF m pc Ls (.int z :: rest))) (T.setFrames fs) :=
  retOut X hx hret rfl (Or.inl ⟨rfl, Or.inl rfl, z, rfl⟩) hd hl
end New
end Jvm.RoadKit
namespace Jvm.Pilot.@@N@@
open Jvm Jvm.ClassFile Sem Op Lib Jvm.Free Jvm.Stand Jvm.LawKit Jvm.RoadKit Bundle Jvm.Pilot.@@N@@.Jvm.D
section Own
variable {Z : State} {h h' : Heap} {a : Addr} {C n d : String} {v : Value} {ws : List Addr}
theorem ow {a0 : Array Value} (hw : ∀ d ∈ tables_1, d.before a0 Z = true) {d : Jvm.Cond} (i : Nat) (h : tables_1[i]? = some d) : d.before a0 Z = true := hw _ (List.mem_of_getElem? h)
abbrev oS (p : Program) (e : Env) (below : List Frame) (T : State) (m : MethodId) (pc : Nat) (Ls : Array Slot) (st : List Value) (t : State) : Prop := Steps p.tables e below (T.setTop (mkF m pc Ls st)) t
theorem own_hide {p : Program} {l : Launch} {e : Env} {R : Room} {s : State} {m : MethodId} {args : Array Value} {below : List Frame} {meth : Method} {c : Code} {T : State} {locs : List Loc} {cells slots k : Nat} (X : Stand p l e R s m args below meth c T locs cells slots) (N : Fr k locs) : ∃ L, Stand p l e R s m args below meth c T L cells slots ∧ Fr k L := ⟨_, X, N⟩
abbrev oM (l : Launch) (y : MethodName) (code : ByteArray) (mx : Nat) (rt : Option FieldType) (ws : List Jvm.Cond) (R : Room) (A : Array Value) (Z : State) (h0 : Heap) (Q : Option Value → Heap → List Loc → Prop) : Prop :=
  MetFree l y (head1 (Jvm.Cond.code y code mx rt :: ws) R) (fun a U => a = A ∧ Z.Warmed39 U.vm ∧ U.heap = h0) (fun _ _ _ _ _ => True) (fun _ U o U' => ∃ v L, o = .returned v ∧ Q v U'.heap L ∧ FrameEnd U o U' L R.cells R.slots)
abbrev oMW (l : Launch) (y : MethodName) (code : ByteArray) (mx : Nat) (rt : Option FieldType) (ws : List Jvm.Cond) (R : Room) (A : Array Value) (Z : State) (h0 : Heap) (Q : Option Value → Heap → List Loc → Prop) : Prop :=
  MetFree l y (head1 (Jvm.Cond.code y code mx rt :: ws) R) (fun a U => a = A ∧ Z.Warmed39 U.vm ∧ U.heap = h0) (fun _ _ _ _ _ => True) (fun _ U o U' => ∃ v L, o = .returned v ∧ Q v U'.heap L ∧ ReturnedEndW U o U' L R.cells R.slots)
theorem own_refold {p : Program} {l : Launch} {e : Env} {R : Room} {s : State} {m : MethodId} {args : Array Value} {below : List Frame} {meth : Method} {c : Code} {T : State} {locs : List Loc} {cells slots : Nat} {vm1 vm2 : Vm} (X : Stand p l e R ((s.setVm vm1).setVm vm2) m args below meth c T locs cells slots) : Stand p l e R (s.setVm vm2) m args below meth c T locs cells slots := X
def own_Plain (h : Heap) (a : Addr) : Prop := ∀ cell : Cell, h[a]? = some cell → cell.vm.isStatics = false
theorem own_plain_E (F : Exa Z h a C) : own_Plain h a := fun cell hc => by
  obtain ⟨c1, _, h1, -, -, h4, -⟩ := F
  cases hc.symm.trans h1; exact h4
theorem own_plain_F (F : Fld Z h a C n d v) : own_Plain h a := fun cell hc => by
  obtain ⟨c1, _, _, _, _, h1, -, -, -, h4, -⟩ := F
  cases hc.symm.trans h1; exact h4
theorem own_plain_V {k : ClassId} {ty : FieldType} {z : Int32} {vs : List Value} {dv : Value} (F : Arv Z h a k ty z vs dv) : own_Plain h a := fun cell hc => by
  obtain ⟨c1, A, -⟩ := F
  cases hc.symm.trans A.1; exact A.plain
theorem own_sta_keep (F : Sta Z h C n d v) (K : Keep h h' ws) (q : ∀ x ∈ ws, own_Plain h x) : Sta Z h' C n d v := by
  obtain ⟨cf, i, k, f, st, cell, h1, h2, h3, h4, h5, h6, h7⟩ := F
  exact ⟨cf, i, k, f, st, cell, h1, h2, h3, h4, K.2.1 _ _ h5 (fun hm => by rw [q _ hm _ h5] at h6; cases h6), h6, h7⟩
theorem own_ne_EV {a0 : Array Value} {j : Nat} {b : Addr} {k : ClassId} {ty : FieldType} {z : Int32} {vs : List Value} {dv : Value} (F : Exa Z h a C) (wi : (Jvm.Cond.instantiable C j).before a0 Z = true) (G : Arv Z h b k ty z vs dv) : a ≠ b := by
  obtain ⟨c, A, -⟩ := G
  exact ne_arr F wi A
theorem own_mvM {s : State} {a0 args : Array Value} {own host : String} {y : MethodName} {index : Nat} (hZ : Z.Warmed39 s.vm) (w : (Jvm.Cond.methodLinkNest own index y host).before a0 Z = true) : (Jvm.Cond.methodLinkNest own index y host).before args s = true := (Cond.methodLinkNest_wide hZ w :)
theorem own_arr_keep {c : Cell} {ty : FieldType} (F : Arr Z h a c ty) (K : Keep h h' ws) (q : a ∉ ws) : Arr Z h' a c ty := ⟨K.2.1 _ _ F.1 q, F.2⟩
theorem own_ins_keep {b : Bool} (F : Ins Z h a C b) (K : Keep h h' ws) : Ins Z h' a C b := by
  obtain ⟨cell, cT, h1, h2, h3⟩ := F
  obtain ⟨c', e1, e2, e3, -⟩ := K.2.2 _ _ h1
  exact ⟨c', cT, e1, h2, by rw [e2, e3]; exact h3⟩
end Own
abbrev yN0 : MethodName := ⟨"java/lang/StringUTF16", "compress", "([CI[BII)I"⟩
abbrev yN1 : MethodName := ⟨"java/lang/StringUTF16", "compress", "([CII)[B"⟩
abbrev yN2 : MethodName := ⟨"java/lang/StringUTF16", "coderFromArrayLen", "([BI)B"⟩
abbrev yN3 : MethodName := ⟨"java/lang/String", "<init>", "([CIILjava/lang/Void;)V"⟩
abbrev yN4 : MethodName := ⟨"java/lang/String", "<init>", "([C)V"⟩
abbrev yN5 : MethodName := ⟨"com/example/pergamena/pergamena/build/QuantityHasRangePinLaw", "end", "(II)Ljava/lang/String;"⟩
abbrev yN6 : MethodName := ⟨"com/example/pergamena/pergamena/build/QuantityHasRangePinLaw", "comparator", "(I)Lcom/example/pergamena/pergamena/build/LabResults$Comparator;"⟩
abbrev yN7 : MethodName := ⟨"java/lang/Record", "<init>", "()V"⟩
abbrev yN8 : MethodName := ⟨"com/example/pergamena/pergamena/build/LabResults$Quantity", "<init>", "(Lcom/example/pergamena/pergamena/build/LabResults$Comparator;Ljava/lang/String;Ljava/lang/String;Ljava/lang/String;Ljava/lang/String;)V"⟩
abbrev yN9 : MethodName := ⟨"com/example/pergamena/pergamena/build/LabResults$Quantity", "hasRange", "()Z"⟩
theorem own_mod (x y : Int32) (k : Int) (hy : y.toInt = k) (hk : 0 < k) : 0 ≤ ((x &&& (2147483647 : Int32)) % y).toInt ∧ ((x &&& (2147483647 : Int32)) % y).toInt < k := by
  have h1 := c_mask x (2147483647 : Int32) 31 (by decide) (by decide)
  have h2 : 0 ≤ (x &&& (2147483647 : Int32)).toInt := by rw [h1]; omega
  have h3 := (c_irem (x &&& (2147483647 : Int32)) y k hy).1 h2
  rw [h3]
  exact ⟨Int.emod_nonneg _ (by omega), Int.emod_lt_of_pos _ hk⟩
theorem own_mask (x m : Int32) (k : Nat) (hk : k ≤ 31) (hm : m.toBitVec.toNat = 2 ^ k - 1) : 0 ≤ (x &&& m).toInt ∧ (x &&& m).toInt < (2 ^ k : Nat) := by
  rw [c_mask x m k hk hm]
  exact ⟨Int.emod_nonneg _ (by have := Nat.two_pow_pos k; omega), Int.emod_lt_of_pos _ (by have := Nat.two_pow_pos k; omega)⟩
theorem own_i2c2 (x : Int32) : nar .char (x.toUInt32.toUInt16.toUInt32.toInt32) = x.toUInt32.toUInt16.toUInt32.toInt32 := by simp only [nar, UInt32.toUInt32_toInt32, UInt16.toUInt16_toUInt32]
theorem own_bb {x : Int32} : nar .byte (x.toInt8.toInt32) = x.toInt8.toInt32 := by simp [nar]
theorem own_narc {c : Int32} (h : 0 ≤ c.toInt ∧ c.toInt ≤ 65535) : nar .char c = c := by
  apply Int32.toInt_inj.mp
  have q := c_i2c c
  show (c.toUInt32.toUInt16.toUInt32.toInt32).toInt = c.toInt
  omega
theorem own_fitc {c : Int32} (h : 0 ≤ c.toInt ∧ c.toInt ≤ 65535) : fits .char (.int c) = true := by
  rw [← own_narc h]; exact fits_nar_char c
theorem own_c255 (x : Int32) : 0 ≤ ((x &&& (255 : Int32)).toUInt32.toUInt16.toUInt32.toInt32).toInt ∧ ((x &&& (255 : Int32)).toUInt32.toUInt16.toUInt32.toInt32).toInt ≤ 65535 := by
  have h := c_i2c (x &&& (255 : Int32))
  omega
theorem own_l255 (x : Int32) : ¬ ((255 : Int32) < ((x &&& (255 : Int32)).toUInt32.toUInt16.toUInt32.toInt32)) := by
  rw [i2c_mask, Int32.lt_iff_toInt_lt, c_mask x (255 : Int32) 8 (by decide) (by decide)]
  have a1 : ((255 : Int32)).toInt = 255 := by decide
  omega
theorem own_strW {Z : State} {a0 : Array Value} (hw : ∀ d ∈ tables_1, d.before a0 Z = true) : ∀ a ∈ Bundle.stringAtoms, a.before a0 Z = true := fun d hd => hw d ((by decide +kernel : ∀ d ∈ Bundle.stringAtoms, d ∈ tables_1) d hd)
theorem own_in5 {y : Int32} (h0 : 0 ≤ y.toInt) (h1 : y.toInt < 5) : y = (0 : Int32) ∨ y = (1 : Int32) ∨ y = (2 : Int32) ∨ y = (3 : Int32) ∨ y = (4 : Int32) := by
  have h : y.toInt = 0 ∨ y.toInt = 1 ∨ y.toInt = 2 ∨ y.toInt = 3 ∨ y.toInt = 4 := by omega
  rcases h with h | h | h | h | h
  · exact Or.inl (Int32.toInt_inj.mp (h.trans (by decide)))
  · exact Or.inr (Or.inl (Int32.toInt_inj.mp (h.trans (by decide))))
  · exact Or.inr (Or.inr (Or.inl (Int32.toInt_inj.mp (h.trans (by decide)))))
  · exact Or.inr (Or.inr (Or.inr (Or.inl (Int32.toInt_inj.mp (h.trans (by decide))))))
  · exact Or.inr (Or.inr (Or.inr (Or.inr (Int32.toInt_inj.mp (h.trans (by decide))))))
theorem d5_0 : decode jdk_52_method_21_code 0 = .ok (.iconst 0, 1) := by decide +kernel
theorem d5_1 : decode jdk_52_method_21_code 1 = .ok (.istore 5, 2) := by decide +kernel
theorem d5_3 : decode jdk_52_method_21_code 3 = .ok (.iload 5, 2) := by decide +kernel
theorem d5_5 : decode jdk_52_method_21_code 5 = .ok (.iload 4, 2) := by decide +kernel
theorem d5_7 : decode jdk_52_method_21_code 7 = .ok (.if_icmp .ge 37, 3) := by decide +kernel
theorem d5_10 : decode jdk_52_method_21_code 10 = .ok (.aload_n 0, 1) := by decide +kernel
theorem d5_11 : decode jdk_52_method_21_code 11 = .ok (.iload_n 1, 1) := by decide +kernel
theorem d5_12 : decode jdk_52_method_21_code 12 = .ok (.caload, 1) := by decide +kernel
theorem d5_13 : decode jdk_52_method_21_code 13 = .ok (.istore 6, 2) := by decide +kernel
theorem d5_15 : decode jdk_52_method_21_code 15 = .ok (.iload 6, 2) := by decide +kernel
theorem d5_17 : decode jdk_52_method_21_code 17 = .ok (.sipush 255, 3) := by decide +kernel
theorem d5_20 : decode jdk_52_method_21_code 20 = .ok (.if_icmp .le 6, 3) := by decide +kernel
theorem d5_26 : decode jdk_52_method_21_code 26 = .ok (.aload_n 2, 1) := by decide +kernel
theorem d5_27 : decode jdk_52_method_21_code 27 = .ok (.iload_n 3, 1) := by decide +kernel
theorem d5_28 : decode jdk_52_method_21_code 28 = .ok (.iload 6, 2) := by decide +kernel
theorem d5_30 : decode jdk_52_method_21_code 30 = .ok (.i2b, 1) := by decide +kernel
theorem d5_31 : decode jdk_52_method_21_code 31 = .ok (.bastore, 1) := by decide +kernel
theorem d5_32 : decode jdk_52_method_21_code 32 = .ok (.iinc 1 1, 3) := by decide +kernel
theorem d5_35 : decode jdk_52_method_21_code 35 = .ok (.iinc 3 1, 3) := by decide +kernel
theorem d5_38 : decode jdk_52_method_21_code 38 = .ok (.iinc 5 1, 3) := by decide +kernel
theorem d5_41 : decode jdk_52_method_21_code 41 = .ok (.goto (-38), 3) := by decide +kernel
theorem d5_44 : decode jdk_52_method_21_code 44 = .ok (.iload 4, 2) := by decide +kernel
theorem d5_46 : decode jdk_52_method_21_code 46 = .ok (.ireturn, 1) := by decide +kernel
theorem pn_0 : plainName "java/lang/StringUTF16" = true := by first | (simp [plainName, overriddenIn]; done) | decide +kernel
theorem ef_cmp5 (m : MethodId) (pR1 : Addr) (pR2 : Addr) : entryFrame m #[(.ref pR1), (.int 0), (.ref pR2), (.int 0), (.int 1)] 7 = mkF m 0 #[.val (.ref pR1), .val (.int 0), .val (.ref pR2), .val (.int 0), .val (.int 1), .unset, .unset] [] := by first | (simp [entryFrame, mkF, argsToLocals, Value.category]; done) | rfl
def Qcmp5 (Z : State) (pR1 : Addr) (pR2 : Addr) (pI801 : Int32) (pK3 : ClassId) (pK6 : ClassId) (h0 : Heap) (n0 : Nat) (v : Option Value) (h : Heap) (L : List Loc) : Prop := v = some (.int 1) ∧ Fr n0 L ∧ Keep h0 h [pR2] ∧ Arv Z h pR2 pK6 .byte (1 : Int32) [(.int (pI801.toInt8.toInt32))] (.int (0 : Int32))
set_option maxRecDepth 65536 in
set_option maxHeartbeats 40000000 in
theorem cmp5 (l : Launch) (Z : State) (a0 : Array Value) (hw : ∀ d ∈ tables_1, d.before a0 Z = true) (ws : List Jvm.Cond) (pR1 : Addr) (pR2 : Addr) (pI801 : Int32) (pK3 : ClassId) (pK6 : ClassId) (h0 : Heap) (n0 : Nat) (Z0 : n0 ≤ h0.size) (V_pR1 : Arv Z h0 pR1 pK3 .char (1 : Int32) [(.int pI801)] (.int (0 : Int32))) (g_pR2 : n0 ≤ pR2) (V_pR2 : Arv Z h0 pR2 pK6 .byte (1 : Int32) [(.int 0)] (.int (0 : Int32))) (hc20 : ¬ ((255 : Int32) < pI801)) :
    oM l yN0 jdk_52_method_21_code 7 (some .int) ws ({ frames := 0, cells := 0, slots := 0, locals := 0 } : Room) #[(.ref pR1), (.int 0), (.ref pR2), (.int 0), (.int 1)] Z h0 (Qcmp5 Z pR1 pR2 pI801 pK3 pK6 h0 n0) := by
  refine MetFree.of_bodySF (plainFor_of_name pn_0) hisR ?_
  intro p e s m args below meth c s₁ Bd hml0 hP hK
  obtain ⟨rfl, hZ, hh⟩ := hP
  have hx := Bd.exec
  have hby := Bd.bytes
  have hml : c.maxLocals = 7 := hml0
  have hown : s.vm.findClass "java/lang/StringUTF16" = some m.cls := findClass_of_methodNamed Bd.named
  have hnm := (name_of_methodNamed Bd.named Bd.method).1
  have X0 : Stand p l e ({ frames := 0, cells := 0, slots := 0, locals := 0 } : Room) s m #[(.ref pR1), (.int 0), (.ref pR2), (.int 0), (.int 1)] below meth c s₁ [] 0 0 := Stand.of_body Bd
  have e0 : s₁.heap = h0 := by rw [← hh, Bd.state]; rfl
  have N0 := Fr.nil n0
  obtain ⟨clq4, Arq4, Akq4, Asq4, Anq4, Ahq4, Agq4⟩ := id V_pR1
  have hin5 : ¬ ((0 : Int32) < 0 ∨ clq4.slots.size ≤ ((0 : Int32)).toNatClampNeg) := inb_of Asq4 ⟨by decide, by decide⟩
  obtain ⟨clq7, Arq7, Akq7, Asq7, Anq7, Ahq7, Agq7⟩ := id V_pR2
  have hin8 : ¬ ((0 : Int32) < 0 ∨ clq7.slots.size ≤ ((0 : Int32)).toNatClampNeg) := inb_of Asq7 ⟨by decide, by decide⟩
  obtain ⟨T9, h9, X9, e9, W9, st9⟩ := stB X0 hx hZ e0 Arq7 (j := (0 : Int32)) hin8 (g := (mkF m 31 #[.val (.ref pR1), .val (.int 0), .val (.ref pR2), .val (.int 0), .val (.int 1), .val (.int 0), .val (.int pI801)] [(.int (pI801.toInt8.toInt32)), (.int 0), (.ref pR2)])) rfl rfl (hb hby d5_31)
  rw [own_bb] at W9
  have K10 : Keep h0 h9 [pR2] := (Keep.refl h0 [pR2]).wr W9 (Or.inl (List.mem_of_getElem? (i := 0) rfl))
  have Z11 : n0 ≤ h9.size := (Nat.le_trans Z0 (Keep.of_wr W9).1)
  have N9 := Fr.snoc X9 N0 g_pR2
  obtain ⟨Lh9, X9, N9⟩ := own_hide X9 N9
  have V9 : Arv Z h9 pR2 pK6 .byte (1 : Int32) [(.int (pI801.toInt8.toInt32))] (.int (0 : Int32)) := Arv.set Arq7 Akq7 Asq7 Anq7 Ahq7 Agq7 (by first | rfl | exact fits_nar_byte _) W9 0 rfl (Nat.le_of_ble_eq_true rfl)
  obtain ⟨fs, hr, hrun, hended, hW, hsame⟩ := X9.leave (v := some (.int 1)) (fun h => by rw [Bd.returns] at h; cases h)
  refine ⟨_, _, castTop (ef_cmp5 m pR1 pR2) ?_, hrun, hended, _, _, rfl, ?_, ⟨_, rfl⟩, hW, hsame.mono (by decide) (by decide)⟩
  · show oS p e below s₁ m 0 #[.val (.ref pR1), .val (.int 0), .val (.ref pR2), .val (.int 0), .val (.int 1), .unset, .unset] [] _
    refine XS.iconst X0.here hx rfl (hb hby d5_0) ?_
    refine XS.istore X0.here hx rfl (hb hby d5_1) rfl (l' := #[.val (.ref pR1), .val (.int 0), .val (.ref pR2), .val (.int 0), .val (.int 1), .val (.int 0), .unset]) rfl ?_
    refine XS.iload X0.here hx rfl (hb hby d5_3) rfl ?_
    refine XS.iload X0.here hx rfl (hb hby d5_5) rfl ?_
    show oS p e below s₁ m 7 #[.val (.ref pR1), .val (.int 0), .val (.ref pR2), .val (.int 0), .val (.int 1), .val (.int 0), .unset] [(.int 1), (.int 0)] _
    refine XS.icmpNo X0.here hx rfl (hb hby d5_7) rfl (tlt (by decide : (0 : Int32) < (1 : Int32))).2.1 ?_
    refine XS.aloadN X0.here hx rfl (hb hby d5_10) rfl rfl ?_
    refine XS.iloadN X0.here hx rfl (hb hby d5_11) rfl ?_
    refine X0.caload hx (j := (0 : Int32)) (v := (.int pI801)) (by rw [e0]; exact Arq4.1) (State.isArrayOf_alike hZ.alike Arq4.2.1) Arq4.2.2 hin5 (Has.at Ahq4 hin5 rfl) (g := (mkF m 12 #[.val (.ref pR1), .val (.int 0), .val (.ref pR2), .val (.int 0), .val (.int 1), .val (.int 0), .unset] [(.int 0), (.ref pR1)])) rfl rfl (hb hby d5_12) _ ?_
    show oS p e below s₁ m 13 #[.val (.ref pR1), .val (.int 0), .val (.ref pR2), .val (.int 0), .val (.int 1), .val (.int 0), .unset] [(.int pI801)] _
    refine XS.istore X0.here hx rfl (hb hby d5_13) rfl (l' := #[.val (.ref pR1), .val (.int 0), .val (.ref pR2), .val (.int 0), .val (.int 1), .val (.int 0), .val (.int pI801)]) rfl ?_
    refine XS.iload X0.here hx rfl (hb hby d5_15) rfl ?_
    refine XS.sipush X0.here hx rfl (hb hby d5_17) ?_
    refine XS.icmpYes X0.here hx rfl (pc0 := 20) (pc' := 26) rfl (hb hby d5_20) rfl (flt hc20).2.2.2 (by decide) (by decide) ?_
    show oS p e below s₁ m 26 #[.val (.ref pR1), .val (.int 0), .val (.ref pR2), .val (.int 0), .val (.int 1), .val (.int 0), .val (.int pI801)] [] _
    refine XS.aloadN X0.here hx rfl (hb hby d5_26) rfl rfl ?_
    refine XS.iloadN X0.here hx rfl (hb hby d5_27) rfl ?_
    refine XS.iload X0.here hx rfl (hb hby d5_28) rfl ?_
    refine XS.i2b X0.here hx rfl (hb hby d5_30) rfl ?_
    show oS p e below s₁ m 31 #[.val (.ref pR1), .val (.int 0), .val (.ref pR2), .val (.int 0), .val (.int 1), .val (.int 0), .val (.int pI801)] [(.int (pI801.toInt8.toInt32)), (.int 0), (.ref pR2)] _
    refine st9 _ ?_
    refine XS.iinc X9.here hx rfl (hb hby d5_32) rfl (l' := #[.val (.ref pR1), .val (.int 1), .val (.ref pR2), .val (.int 0), .val (.int 1), .val (.int 0), .val (.int pI801)]) rfl ?_
    refine XS.iinc X9.here hx rfl (hb hby d5_35) rfl (l' := #[.val (.ref pR1), .val (.int 1), .val (.ref pR2), .val (.int 1), .val (.int 1), .val (.int 0), .val (.int pI801)]) rfl ?_
    refine XS.iinc X9.here hx rfl (hb hby d5_38) rfl (l' := #[.val (.ref pR1), .val (.int 1), .val (.ref pR2), .val (.int 1), .val (.int 1), .val (.int 1), .val (.int pI801)]) rfl ?_
    show oS p e below T9 m 41 #[.val (.ref pR1), .val (.int 1), .val (.ref pR2), .val (.int 1), .val (.int 1), .val (.int 1), .val (.int pI801)] [] _
    refine XS.goto X9.here hx rfl (pc0 := 41) (pc' := 3) rfl (hb hby d5_41) (by decide) (by decide) ?_
    refine XS.iload X9.here hx rfl (hb hby d5_3) rfl ?_
    refine XS.iload X9.here hx rfl (hb hby d5_5) rfl ?_
    refine XS.icmpYes X9.here hx rfl (pc0 := 7) (pc' := 44) rfl (hb hby d5_7) rfl (flt (by decide : ¬ ((1 : Int32) < (1 : Int32)))).2.1 (by decide) (by decide) ?_
    show oS p e below T9 m 44 #[.val (.ref pR1), .val (.int 1), .val (.ref pR2), .val (.int 1), .val (.int 1), .val (.int 1), .val (.int pI801)] [] _
    refine XS.iload X9.here hx rfl (hb hby d5_44) rfl ?_
    exact retI X9 hx Bd.returns (hb hby d5_46) hr
  · show Qcmp5 Z pR1 pR2 pI801 pK3 pK6 h0 n0 _ T9.heap _
    rw [e9]
    exact ⟨rfl, N9, K10, V9⟩
theorem d4_0 : decode jdk_52_method_16_code 0 = .ok (.iload_n 2, 1) := by decide +kernel
theorem d4_1 : decode jdk_52_method_16_code 1 = .ok (.newarray .byte, 2) := by decide +kernel
theorem d4_3 : decode jdk_52_method_16_code 3 = .ok (.astore_n 3, 1) := by decide +kernel
theorem d4_4 : decode jdk_52_method_16_code 4 = .ok (.aload_n 0, 1) := by decide +kernel
theorem d4_5 : decode jdk_52_method_16_code 5 = .ok (.iload_n 1, 1) := by decide +kernel
theorem d4_6 : decode jdk_52_method_16_code 6 = .ok (.aload_n 3, 1) := by decide +kernel
theorem d4_7 : decode jdk_52_method_16_code 7 = .ok (.iconst 0, 1) := by decide +kernel
theorem d4_8 : decode jdk_52_method_16_code 8 = .ok (.iload_n 2, 1) := by decide +kernel
theorem d4_9 : decode jdk_52_method_16_code 9 = .ok (.invokestatic 115, 3) := by decide +kernel
theorem pd_0 : parseMethodDescriptor "([CI[BII)I" = some ⟨[(.array .char), .int, (.array .byte), .int, .int], some .int⟩ := by decide +kernel
theorem d4_12 : decode jdk_52_method_16_code 12 = .ok (.istore 4, 2) := by decide +kernel
theorem d4_14 : decode jdk_52_method_16_code 14 = .ok (.iload 4, 2) := by decide +kernel
theorem d4_16 : decode jdk_52_method_16_code 16 = .ok (.iload_n 2, 1) := by decide +kernel
theorem d4_17 : decode jdk_52_method_16_code 17 = .ok (.if_icmp .eq 40, 3) := by decide +kernel
theorem d4_57 : decode jdk_52_method_16_code 57 = .ok (.aload_n 3, 1) := by decide +kernel
theorem d4_58 : decode jdk_52_method_16_code 58 = .ok (.areturn, 1) := by decide +kernel
theorem ef_cmp3 (m : MethodId) (pR1 : Addr) : entryFrame m #[(.ref pR1), (.int 0), (.int 1)] 6 = mkF m 0 #[.val (.ref pR1), .val (.int 0), .val (.int 1), .unset, .unset, .unset] [] := by first | (simp [entryFrame, mkF, argsToLocals, Value.category]; done) | rfl
def Qcmp3 (Z : State) (pR1 : Addr) (pI801 : Int32) (pK5 : ClassId) (h0 : Heap) (n0 : Nat) (v : Option Value) (h : Heap) (L : List Loc) : Prop := ∃ bR2 : Addr, ∃ k2 : ClassId, v = some (.ref bR2) ∧ Fr n0 L ∧ Keep h0 h [] ∧ h0.size ≤ bR2 ∧ Arv Z h bR2 k2 .byte (1 : Int32) [(.int (pI801.toInt8.toInt32))] (.int (0 : Int32))
set_option maxRecDepth 65536 in
set_option maxHeartbeats 40000000 in
theorem cmp3 (l : Launch) (Z : State) (a0 : Array Value) (hw : ∀ d ∈ tables_1, d.before a0 Z = true) (ws : List Jvm.Cond) (pR1 : Addr) (pI801 : Int32) (pK5 : ClassId) (h0 : Heap) (n0 : Nat) (Z0 : n0 ≤ h0.size) (V_pR1 : Arv Z h0 pR1 pK5 .char (1 : Int32) [(.int pI801)] (.int (0 : Int32))) (hc9 : ¬ ((255 : Int32) < pI801)) :
    oM l yN1 jdk_52_method_16_code 6 (some (.array .byte)) ws ({ frames := 1, cells := 1, slots := 1, locals := 18 } : Room) #[(.ref pR1), (.int 0), (.int 1)] Z h0 (Qcmp3 Z pR1 pI801 pK5 h0 n0) := by
  refine MetFree.of_bodySF (plainFor_of_name pn_0) hisR ?_
  intro p e s m args below meth c s₁ Bd hml0 hP hK
  obtain ⟨rfl, hZ, hh⟩ := hP
  have hx := Bd.exec
  have hby := Bd.bytes
  have hml : c.maxLocals = 6 := hml0
  have hown : s.vm.findClass "java/lang/StringUTF16" = some m.cls := findClass_of_methodNamed Bd.named
  have hnm := (name_of_methodNamed Bd.named Bd.method).1
  have X0 : Stand p l e ({ frames := 1, cells := 1, slots := 1, locals := 18 } : Room) s m #[(.ref pR1), (.int 0), (.int 1)] below meth c s₁ [] 0 0 := Stand.of_body Bd
  have e0 : s₁.heap = h0 := by rw [← hh, Bd.state]; rfl
  have N0 := Fr.nil n0
  obtain ⟨T2, h2, k2, X2, e2, E2, A2, st2⟩ := newP X0 hx hZ (ow hw 20 rfl) e0 (g := (mkF m 1 #[.val (.ref pR1), .val (.int 0), .val (.int 1), .unset, .unset, .unset] [(.int 1)])) rfl (hb hby d4_1) rfl (by decide) (cap := 1) (by decide) (by decide) (by decide) (by decide)
  obtain ⟨bR2, g2⟩ : ∃ z, z = h0.size := ⟨_, rfl⟩
  rw [← g2] at A2 st2
  have K3 : Keep h0 h2 [] := (Keep.refl h0 []).ext E2
  have Z4 : n0 ≤ h2.size := (Nat.le_trans Z0 E2.1)
  have V2 : Arv Z h2 bR2 k2 .byte (1 : Int32) [(.int 0)] (.int (0 : Int32)) := (Arv.new A2 (by decide)).pad (pad_rep [] (.int (0 : Int32)) 1)
  have c6 : Arv Z h2 pR1 pK5 .char (1 : Int32) [(.int pI801)] (.int (0 : Int32)) := V_pR1.ext E2
  have g7 : n0 ≤ bR2 := Nat.le_trans Z0 (Nat.le_of_eq g2.symm)
  obtain ⟨_, _, ⟨T8, L8, k8, n8⟩, -, X8, ⟨Lc8, hQ8, l8, y8, z8⟩, st8⟩ := Jvm.LawKit.callS X2 hx (y := yN0) hown (mvT hZ (ow hw 21 rfl)) (mvT hZ (ow hw 22 rfl)) (mvT hZ (ow hw 18 rfl)) (mvT hZ (ow hw 23 rfl)) (by decide) (backOf (W := 0) (cmp5 l Z a0 hw [] pR1 bR2 pI801 pK5 k2 h2 n0 Z4 c6 g7 V2 hc9) hZ (ow hw 23 rfl) (ow hw 18 rfl) (by decide) (by decide)) (g := (mkF m 9 #[.val (.ref pR1), .val (.int 0), .val (.int 1), .val (.ref bR2), .unset, .unset] [(.int 1), (.int 0), (.ref bR2), (.int 0), (.ref pR1)])) rfl (by rw [hml]; rfl) (argsL := [(.ref pR1), (.int 0), (.ref bR2), (.int 0), (.int 1)]) (rest := []) (lenOf pd_0 rfl) rfl (Nat.le_refl _) (hb hby d4_9) (fun _ _ => ⟨rfl, e2, (by decide : 1 + 0 ≤ _), (by decide : 1 + 0 ≤ _)⟩)
  dsimp only [Pt.U, Pt.locs, Pt.cells, Pt.slots] at X8 l8 y8 z8 st8 hQ8
  subst l8 y8 z8
  obtain ⟨rfl, Nq8, Kq8, x8_0⟩ := hQ8
  have N8 := Fr.app N0 Nq8
  obtain ⟨Lh8, X8, N8⟩ := own_hide X8 N8
  have K9 : Keep h0 T8.heap [] := K3.trans Kq8 (allS (Or.inr (Nat.le_of_eq g2.symm)) all0)
  have Z10 : n0 ≤ T8.heap.size := (Nat.le_trans Z4 Kq8.1)
  obtain ⟨fs, hr, hrun, hended, hW, hsame⟩ := X8.leave (v := some (.ref bR2)) (fun h => by rw [Bd.returns] at h; cases h)
  refine ⟨_, _, castTop (ef_cmp3 m pR1) ?_, hrun, hended, _, _, rfl, ?_, ⟨_, rfl⟩, hW, hsame.mono (by decide) (by decide)⟩
  · show oS p e below s₁ m 0 #[.val (.ref pR1), .val (.int 0), .val (.int 1), .unset, .unset, .unset] [] _
    refine XS.iloadN X0.here hx rfl (hb hby d4_0) rfl ?_
    refine st2 _ ?_
    refine XS.astoreN X2.here hx rfl (hb hby d4_3) rfl rfl (l' := #[.val (.ref pR1), .val (.int 0), .val (.int 1), .val (.ref bR2), .unset, .unset]) rfl ?_
    refine XS.aloadN X2.here hx rfl (hb hby d4_4) rfl rfl ?_
    show oS p e below T2 m 5 #[.val (.ref pR1), .val (.int 0), .val (.int 1), .val (.ref bR2), .unset, .unset] [(.ref pR1)] _
    refine XS.iloadN X2.here hx rfl (hb hby d4_5) rfl ?_
    refine XS.aloadN X2.here hx rfl (hb hby d4_6) rfl rfl ?_
    refine XS.iconst X2.here hx rfl (hb hby d4_7) ?_
    refine XS.iloadN X2.here hx rfl (hb hby d4_8) rfl ?_
    show oS p e below T2 m 9 #[.val (.ref pR1), .val (.int 0), .val (.int 1), .val (.ref bR2), .unset, .unset] [(.int 1), (.int 0), (.ref bR2), (.int 0), (.ref pR1)] _
    refine st8 _ ?_
    refine XS.istore X8.here hx rfl (hb hby d4_12) rfl (l' := #[.val (.ref pR1), .val (.int 0), .val (.int 1), .val (.ref bR2), .val (.int 1), .unset]) rfl ?_
    refine XS.iload X8.here hx rfl (hb hby d4_14) rfl ?_
    refine XS.iloadN X8.here hx rfl (hb hby d4_16) rfl ?_
    show oS p e below T8 m 17 #[.val (.ref pR1), .val (.int 0), .val (.int 1), .val (.ref bR2), .val (.int 1), .unset] [(.int 1), (.int 1)] _
    refine XS.icmpYes X8.here hx rfl (pc0 := 17) (pc' := 57) rfl (hb hby d4_17) rfl (teq (by decide : (1 : Int32) = (1 : Int32))).1 (by decide) (by decide) ?_
    refine XS.aloadN X8.here hx rfl (hb hby d4_57) rfl rfl ?_
    exact retOut X8 hx Bd.returns rfl (Or.inr (Or.inr (Or.inr (Or.inr ⟨rfl, rfl, rfl⟩)))) (hb hby d4_58) hr
  · show Qcmp3 Z pR1 pI801 pK5 h0 n0 _ T8.heap _
    exact ⟨bR2, k2, rfl, N8, K9, (Nat.le_of_eq g2.symm), x8_0⟩
theorem d6_0 : decode jdk_52_method_15_code 0 = .ok (.iload_n 1, 1) := by decide +kernel
theorem d6_1 : decode jdk_52_method_15_code 1 = .ok (.aload_n 0, 1) := by decide +kernel
theorem d6_2 : decode jdk_52_method_15_code 2 = .ok (.arraylength, 1) := by decide +kernel
theorem d6_3 : decode jdk_52_method_15_code 3 = .ok (.isub, 1) := by decide +kernel
theorem d6_4 : decode jdk_52_method_15_code 4 = .ok (.bipush 31, 2) := by decide +kernel
theorem d6_6 : decode jdk_52_method_15_code 6 = .ok (.iushr, 1) := by decide +kernel
theorem d6_7 : decode jdk_52_method_15_code 7 = .ok (.i2b, 1) := by decide +kernel
theorem d6_8 : decode jdk_52_method_15_code 8 = .ok (.ireturn, 1) := by decide +kernel
theorem ef_cfa (m : MethodId) (pR1 : Addr) : entryFrame m #[(.ref pR1), (.int 1)] 2 = mkF m 0 #[.val (.ref pR1), .val (.int 1)] [] := by first | (simp [entryFrame, mkF, argsToLocals, Value.category]; done) | rfl
def Qcfa (Z : State) (pR1 : Addr) (pK2 : ClassId) (pI3 : Int32) (h0 : Heap) (n0 : Nat) (v : Option Value) (h : Heap) (L : List Loc) : Prop := v = some (.int 0) ∧ Fr n0 L ∧ h = h0
set_option maxRecDepth 65536 in
set_option maxHeartbeats 40000000 in
theorem cfa (l : Launch) (Z : State) (a0 : Array Value) (hw : ∀ d ∈ tables_1, d.before a0 Z = true) (ws : List Jvm.Cond) (pR1 : Addr) (pK2 : ClassId) (pI3 : Int32) (h0 : Heap) (n0 : Nat) (Z0 : n0 ≤ h0.size) (V_pR1 : Arv Z h0 pR1 pK2 .byte (1 : Int32) [(.int pI3)] (.int (0 : Int32))) :
    oM l yN2 jdk_52_method_15_code 2 (some .byte) ws ({ frames := 0, cells := 0, slots := 0, locals := 0 } : Room) #[(.ref pR1), (.int 1)] Z h0 (Qcfa Z pR1 pK2 pI3 h0 n0) := by
  refine MetFree.of_bodySF (plainFor_of_name pn_0) hisR ?_
  intro p e s m args below meth c s₁ Bd hml0 hP hK
  obtain ⟨rfl, hZ, hh⟩ := hP
  have hx := Bd.exec
  have hby := Bd.bytes
  have hml : c.maxLocals = 2 := hml0
  have hown : s.vm.findClass "java/lang/StringUTF16" = some m.cls := findClass_of_methodNamed Bd.named
  have hnm := (name_of_methodNamed Bd.named Bd.method).1
  have X0 : Stand p l e ({ frames := 0, cells := 0, slots := 0, locals := 0 } : Room) s m #[(.ref pR1), (.int 1)] below meth c s₁ [] 0 0 := Stand.of_body Bd
  have e0 : s₁.heap = h0 := by rw [← hh, Bd.state]; rfl
  have N0 := Fr.nil n0
  obtain ⟨clq4, Arq4, Akq4, Asq4, Anq4, Ahq4, Agq4⟩ := id V_pR1
  obtain ⟨fs, hr, hrun, hended, hW, hsame⟩ := X0.leave (v := some (.int 0)) (fun h => by rw [Bd.returns] at h; cases h)
  refine ⟨_, _, castTop (ef_cfa m pR1) ?_, hrun, hended, _, _, rfl, ?_, ⟨_, rfl⟩, hW, hsame.mono (by decide) (by decide)⟩
  · show oS p e below s₁ m 0 #[.val (.ref pR1), .val (.int 1)] [] _
    refine XS.iloadN X0.here hx rfl (hb hby d6_0) rfl ?_
    refine XS.aloadN X0.here hx rfl (hb hby d6_1) rfl rfl ?_
    refine X0.arraylength hx (by rw [e0]; exact Arq4.1) (State.isArrayOf_alike hZ.alike Arq4.2.1) (g := (mkF m 2 #[.val (.ref pR1), .val (.int 1)] [(.ref pR1), (.int 1)])) rfl rfl (hb hby d6_2) _ ?_
    rw [len_of Asq4 Anq4]
    refine XS.isub X0.here hx rfl (hb hby d6_3) rfl ?_
    show oS p e below s₁ m 4 #[.val (.ref pR1), .val (.int 1)] [(.int 0)] _
    refine XS.bipush X0.here hx rfl (hb hby d6_4) ?_
    refine XS.iushr X0.here hx rfl (hb hby d6_6) rfl ?_
    refine XS.i2b X0.here hx rfl (hb hby d6_7) rfl ?_
    exact retN X0 hx (t := .byte) Bd.returns (by simp) (hb hby d6_8) hr
  · show Qcfa Z pR1 pK2 pI3 h0 n0 _ s₁.heap _
    rw [e0]
    exact ⟨rfl, N0, rfl⟩
theorem d2_0 : decode jdk_42_method_149_code 0 = .ok (.aload_n 0, 1) := by decide +kernel
theorem d2_1 : decode jdk_42_method_149_code 1 = .ok (.invokespecial 1, 3) := by decide +kernel
theorem d2_4 : decode jdk_42_method_149_code 4 = .ok (.iload_n 3, 1) := by decide +kernel
theorem d2_5 : decode jdk_42_method_149_code 5 = .ok (.ifCond .ne 22, 3) := by decide +kernel
theorem d2_27 : decode jdk_42_method_149_code 27 = .ok (.getstatic 38, 3) := by decide +kernel
theorem d2_30 : decode jdk_42_method_149_code 30 = .ok (.ifCond .eq 28, 3) := by decide +kernel
theorem d2_33 : decode jdk_42_method_149_code 33 = .ok (.aload_n 1, 1) := by decide +kernel
theorem d2_34 : decode jdk_42_method_149_code 34 = .ok (.iload_n 2, 1) := by decide +kernel
theorem d2_35 : decode jdk_42_method_149_code 35 = .ok (.iload_n 3, 1) := by decide +kernel
theorem d2_36 : decode jdk_42_method_149_code 36 = .ok (.invokestatic 177, 3) := by decide +kernel
theorem pd_1 : parseMethodDescriptor "([CII)[B" = some ⟨[(.array .char), .int, .int], some (.array .byte)⟩ := by decide +kernel
theorem d2_39 : decode jdk_42_method_149_code 39 = .ok (.astore 5, 2) := by decide +kernel
theorem d2_41 : decode jdk_42_method_149_code 41 = .ok (.aload_n 0, 1) := by decide +kernel
theorem d2_42 : decode jdk_42_method_149_code 42 = .ok (.aload 5, 2) := by decide +kernel
theorem d2_44 : decode jdk_42_method_149_code 44 = .ok (.iload_n 3, 1) := by decide +kernel
theorem d2_45 : decode jdk_42_method_149_code 45 = .ok (.invokestatic 47, 3) := by decide +kernel
theorem pd_2 : parseMethodDescriptor "([BI)B" = some ⟨[(.array .byte), .int], some .byte⟩ := by decide +kernel
theorem d2_48 : decode jdk_42_method_149_code 48 = .ok (.putfield 15, 3) := by decide +kernel
theorem d2_51 : decode jdk_42_method_149_code 51 = .ok (.aload_n 0, 1) := by decide +kernel
theorem d2_52 : decode jdk_42_method_149_code 52 = .ok (.aload 5, 2) := by decide +kernel
theorem d2_54 : decode jdk_42_method_149_code 54 = .ok (.putfield 9, 3) := by decide +kernel
theorem d2_57 : decode jdk_42_method_149_code 57 = .ok (.return_, 1) := by decide +kernel
theorem pn_1 : plainName "java/lang/String" = true := by first | (simp [plainName, overriddenIn]; done) | decide +kernel
theorem ef_si (m : MethodId) (pR1 : Addr) (pR2 : Addr) : entryFrame m #[(.ref pR1), (.ref pR2), (.int 0), (.int 1), .null] 6 = mkF m 0 #[.val (.ref pR1), .val (.ref pR2), .val (.int 0), .val (.int 1), .val .null, .unset] [] := by first | (simp [entryFrame, mkF, argsToLocals, Value.category]; done) | rfl
def Qsi (Z : State) (pR1 : Addr) (pR2 : Addr) (pI4 : Int32) (pI801 : Int32) (pK6 : ClassId) (h0 : Heap) (n0 : Nat) (v : Option Value) (h : Heap) (L : List Loc) : Prop := ∃ bR7_0 : Addr, ∃ kK7_0 : ClassId, v = none ∧ Fr n0 L ∧ Keep h0 h [pR1] ∧ h0.size ≤ bR7_0 ∧ Arv Z h bR7_0 kK7_0 .byte (1 : Int32) [(.int (pI801.toInt8.toInt32))] (.int (0 : Int32)) ∧ Exa Z h pR1 "java/lang/String" ∧ Fld Z h pR1 "java/lang/String" "coder" "B" (.int 0) ∧ Fld Z h pR1 "java/lang/String" "value" "[B" (.ref bR7_0)
set_option maxRecDepth 65536 in
set_option maxHeartbeats 40000000 in
theorem si (l : Launch) (Z : State) (a0 : Array Value) (hw : ∀ d ∈ tables_1, d.before a0 Z = true) (ws : List Jvm.Cond) (pR1 : Addr) (pR2 : Addr) (pI4 : Int32) (pI801 : Int32) (pK6 : ClassId) (h0 : Heap) (n0 : Nat) (Z0 : n0 ≤ h0.size) (S_String_COMPACT_STRINGS : Sta Z h0 "java/lang/String" "COMPACT_STRINGS" "Z" (.int pI4)) (V_pR2 : Arv Z h0 pR2 pK6 .char (1 : Int32) [(.int pI801)] (.int (0 : Int32))) (E_pR1 : Exa Z h0 pR1 "java/lang/String") (F_coder_pR1 : Fld Z h0 pR1 "java/lang/String" "coder" "B" (.int 0)) (g_pR1 : n0 ≤ pR1) (F_value_pR1 : Fld Z h0 pR1 "java/lang/String" "value" "[B" .null) (hc30 : ¬ (pI4 = (0 : Int32))) (hc36 : ¬ ((255 : Int32) < pI801)) :
    oM l yN3 jdk_42_method_149_code 6 none ws ({ frames := 2, cells := 1, slots := 1, locals := 35 } : Room) #[(.ref pR1), (.ref pR2), (.int 0), (.int 1), .null] Z h0 (Qsi Z pR1 pR2 pI4 pI801 pK6 h0 n0) := by
  refine MetFree.of_bodySF (plainFor_of_name pn_1) hisR ?_
  intro p e s m args below meth c s₁ Bd hml0 hP hK
  obtain ⟨rfl, hZ, hh⟩ := hP
  have hx := Bd.exec
  have hby := Bd.bytes
  have hml : c.maxLocals = 6 := hml0
  have hown : s.vm.findClass "java/lang/String" = some m.cls := findClass_of_methodNamed Bd.named
  have hnm := (name_of_methodNamed Bd.named Bd.method).1
  have X0 : Stand p l e ({ frames := 2, cells := 1, slots := 1, locals := 35 } : Room) s m #[(.ref pR1), (.ref pR2), (.int 0), (.int 1), .null] below meth c s₁ [] 0 0 := Stand.of_body Bd
  have e0 : s₁.heap = h0 := by rw [← hh, Bd.state]; rfl
  have N0 := Fr.nil n0
  obtain ⟨T3, X3, e3, st3⟩ := initO X0 hx hZ hown (ow hw 12 rfl) (ow hw 13 rfl) (ow hw 14 rfl) e0 (g := (mkF m 1 #[.val (.ref pR1), .val (.ref pR2), .val (.int 0), .val (.int 1), .val .null, .unset] [(.ref pR1)])) rfl (by rw [hml]; rfl) rfl (hb hby d2_1) (by decide) (W := 0) (Nat.le_refl _) (by decide)
  obtain ⟨T5, X5, e5, st5⟩ := getS2 X3 hx hZ hown (host := "") (Or.inl (ow hw 15 rfl)) Via.refl e3 S_String_COMPACT_STRINGS (g := (mkF m 27 #[.val (.ref pR1), .val (.ref pR2), .val (.int 0), .val (.int 1), .val .null, .unset] [])) rfl (hb hby d2_27)
  obtain ⟨_, _, ⟨T7, L7, k7, n7⟩, -, X7, ⟨Lc7, hQ7, l7, y7, z7⟩, st7⟩ := Jvm.LawKit.callS X5 hx (y := yN1) hown (mvT hZ (ow hw 16 rfl)) (mvT hZ (ow hw 17 rfl)) (mvT hZ (ow hw 18 rfl)) (mvT hZ (ow hw 19 rfl)) (by decide) (backOf (W := 0) (cmp3 l Z a0 hw [] pR2 pI801 pK6 h0 n0 Z0 V_pR2 hc36) hZ (ow hw 19 rfl) (ow hw 18 rfl) (by decide) (by decide)) (g := (mkF m 36 #[.val (.ref pR1), .val (.ref pR2), .val (.int 0), .val (.int 1), .val .null, .unset] [(.int 1), (.int 0), (.ref pR2)])) rfl (by rw [hml]; rfl) (argsL := [(.ref pR2), (.int 0), (.int 1)]) (rest := []) (lenOf pd_1 rfl) rfl (Nat.le_refl _) (hb hby d2_36) (fun _ _ => ⟨rfl, e5, (by decide : 0 + 1 ≤ _), (by decide : 0 + 1 ≤ _)⟩)
  dsimp only [Pt.U, Pt.locs, Pt.cells, Pt.slots] at X7 l7 y7 z7 st7 hQ7
  subst l7 y7 z7
  obtain ⟨bR7_0, kK7_0, rfl, Nq7, Kq7, sz7_0, x7_0⟩ := hQ7
  have N7 := Fr.app N0 Nq7
  obtain ⟨Lh7, X7, N7⟩ := own_hide X7 N7
  have K8 : Keep h0 T7.heap [pR1] := (Keep.refl h0 [pR1]).trans Kq7 all0
  have Z9 : n0 ≤ T7.heap.size := (Nat.le_trans Z0 Kq7.1)
  obtain ⟨_, _, ⟨T10, L10, k10, n10⟩, -, X10, ⟨Lc10, hQ10, l10, y10, z10⟩, st10⟩ := Jvm.LawKit.callS X7 hx (y := yN2) hown (mvT hZ (ow hw 24 rfl)) (mvT hZ (ow hw 25 rfl)) (mvT hZ (ow hw 18 rfl)) (mvT hZ (ow hw 26 rfl)) (by decide) (backOf (W := 1) (cfa l Z a0 hw [] bR7_0 kK7_0 (pI801.toInt8.toInt32) T7.heap n0 Z9 x7_0) hZ (ow hw 26 rfl) (ow hw 18 rfl) (by decide) (by decide)) (g := (mkF m 45 #[.val (.ref pR1), .val (.ref pR2), .val (.int 0), .val (.int 1), .val .null, .val (.ref bR7_0)] [(.int 1), (.ref bR7_0), (.ref pR1)])) rfl (by rw [hml]; rfl) (argsL := [(.ref bR7_0), (.int 1)]) (rest := [(.ref pR1)]) (lenOf pd_2 rfl) rfl (Nat.le_refl _) (hb hby d2_45) (fun _ _ => ⟨rfl, rfl, (by decide : 1 + 0 ≤ _), (by decide : 1 + 0 ≤ _)⟩)
  dsimp only [Pt.U, Pt.locs, Pt.cells, Pt.slots] at X10 l10 y10 z10 st10 hQ10
  subst l10 y10 z10
  obtain ⟨rfl, Nq10, e10⟩ := hQ10
  have N10 := Fr.app N7 Nq10
  have c11 : Fld Z T7.heap pR1 "java/lang/String" "coder" "B" (.int 0) := F_coder_pR1.keep Kq7 nin0
  have c12 : Exa Z T7.heap pR1 "java/lang/String" := E_pR1.keep Kq7
  obtain ⟨T13, h13, X13, e13, W13, st13⟩ := putFN X10 hx hZ hown (ow hw 27 rfl) Via.refl e10 c11 c12 (Or.inr ⟨(ow hw 28 rfl), rfl, hnm⟩) (ow hw 3 rfl) (ty := .byte) (v' := .int (0 : Int32)) (by decide) (by rfl) (by first | rfl | exact fits_nar_byte _) (g := (mkF m 48 #[.val (.ref pR1), .val (.ref pR2), .val (.int 0), .val (.int 1), .val .null, .val (.ref bR7_0)] [(.int 0), (.ref pR1)])) rfl rfl (hb hby d2_48)
  have K14 : Keep h0 h13 [pR1] := K8.wr W13 (Or.inl (List.mem_of_getElem? (i := 0) rfl))
  have Z15 : n0 ≤ h13.size := (Nat.le_trans Z9 (Keep.of_wr W13).1)
  have N13 := Fr.snoc X13 N10 g_pR1
  obtain ⟨Lh13, X13, N13⟩ := own_hide X13 N13
  have F13 : Fld Z h13 pR1 "java/lang/String" "coder" "B" (.int 0) := Fld.same W13 c11
  have c16 : Fld Z T7.heap pR1 "java/lang/String" "value" "[B" .null := F_value_pR1.keep Kq7 nin0
  have c17 : Fld Z h13 pR1 "java/lang/String" "value" "[B" .null := c16.other W13 (Or.inr (slot_ne (Or.inr (ow hw 30 rfl)) (Or.inr (ow hw 28 rfl)) (by decide) (t := (.array .byte)) (t' := .byte) (by decide) (by decide)))
  have c18 : Exa Z h13 pR1 "java/lang/String" := c12.wr W13
  obtain ⟨T19, h19, X19, e19, W19, st19⟩ := putF X13 hx hZ hown (host := "") (Or.inl (ow hw 29 rfl)) Via.refl e13 c17 c18 (Or.inr ⟨(ow hw 30 rfl), rfl, hnm⟩) (ow hw 3 rfl) (ty := (.array .byte)) (by decide) rfl rfl (g := (mkF m 54 #[.val (.ref pR1), .val (.ref pR2), .val (.int 0), .val (.int 1), .val .null, .val (.ref bR7_0)] [(.ref bR7_0), (.ref pR1)])) rfl rfl (hb hby d2_54)
  have K20 : Keep h0 h19 [pR1] := K14.wr W19 (Or.inl (List.mem_of_getElem? (i := 0) rfl))
  have Z21 : n0 ≤ h19.size := (Nat.le_trans Z15 (Keep.of_wr W19).1)
  have N19 := Fr.snoc X19 N13 g_pR1
  obtain ⟨Lh19, X19, N19⟩ := own_hide X19 N19
  have F19 : Fld Z h19 pR1 "java/lang/String" "value" "[B" (.ref bR7_0) := Fld.same W19 c17
  have c22 : Arv Z h13 bR7_0 kK7_0 .byte (1 : Int32) [(.int (pI801.toInt8.toInt32))] (.int (0 : Int32)) := x7_0.other W13 (Ne.symm (Nat.ne_of_lt (Nat.lt_of_lt_of_le E_pR1.lt sz7_0)))
  have c23 : Arv Z h19 bR7_0 kK7_0 .byte (1 : Int32) [(.int (pI801.toInt8.toInt32))] (.int (0 : Int32)) := c22.other W19 (Ne.symm (Nat.ne_of_lt (Nat.lt_of_lt_of_le E_pR1.lt sz7_0)))
  have c24 : Exa Z h19 pR1 "java/lang/String" := c18.wr W19
  have c25 : Fld Z h19 pR1 "java/lang/String" "coder" "B" (.int 0) := F13.other W19 (Or.inr (slot_ne (Or.inr (ow hw 28 rfl)) (Or.inr (ow hw 30 rfl)) (by decide) (t := .byte) (t' := (.array .byte)) (by decide) (by decide)))
  obtain ⟨fs, hr, hrun, hended, hW, hsame⟩ := X19.leave (v := none) (fun _ => rfl)
  refine ⟨_, _, castTop (ef_si m pR1 pR2) ?_, hrun, hended, _, _, rfl, ?_, ⟨_, rfl⟩, hW, hsame.mono (by decide) (by decide)⟩
  · show oS p e below s₁ m 0 #[.val (.ref pR1), .val (.ref pR2), .val (.int 0), .val (.int 1), .val .null, .unset] [] _
    refine XS.aloadN X0.here hx rfl (hb hby d2_0) rfl rfl ?_
    refine st3 _ ?_
    refine XS.iloadN X3.here hx rfl (hb hby d2_4) rfl ?_
    refine XS.ifYes X3.here hx rfl (pc0 := 5) (pc' := 27) rfl (hb hby d2_5) rfl ((if0 _ _).trans (feq (by decide : ¬ ((1 : Int32) = (0 : Int32)))).2) (by decide) (by decide) ?_
    show oS p e below T3 m 27 #[.val (.ref pR1), .val (.ref pR2), .val (.int 0), .val (.int 1), .val .null, .unset] [] _
    refine st5 _ ?_
    refine XS.ifNo X5.here hx rfl (hb hby d2_30) rfl ((if0 _ _).trans (feq hc30).1) ?_
    refine XS.aloadN X5.here hx rfl (hb hby d2_33) rfl rfl ?_
    refine XS.iloadN X5.here hx rfl (hb hby d2_34) rfl ?_
    show oS p e below T5 m 35 #[.val (.ref pR1), .val (.ref pR2), .val (.int 0), .val (.int 1), .val .null, .unset] [(.int 0), (.ref pR2)] _
    refine XS.iloadN X5.here hx rfl (hb hby d2_35) rfl ?_
    refine st7 _ ?_
    refine XS.astore X7.here hx rfl (hb hby d2_39) rfl rfl (l' := #[.val (.ref pR1), .val (.ref pR2), .val (.int 0), .val (.int 1), .val .null, .val (.ref bR7_0)]) rfl ?_
    refine XS.aloadN X7.here hx rfl (hb hby d2_41) rfl rfl ?_
    show oS p e below T7 m 42 #[.val (.ref pR1), .val (.ref pR2), .val (.int 0), .val (.int 1), .val .null, .val (.ref bR7_0)] [(.ref pR1)] _
    refine XS.aload X7.here hx rfl (hb hby d2_42) rfl rfl ?_
    refine XS.iloadN X7.here hx rfl (hb hby d2_44) rfl ?_
    refine st10 _ ?_
    refine st13 _ ?_
    show oS p e below T13 m 51 #[.val (.ref pR1), .val (.ref pR2), .val (.int 0), .val (.int 1), .val .null, .val (.ref bR7_0)] [] _
    refine XS.aloadN X13.here hx rfl (hb hby d2_51) rfl rfl ?_
    refine XS.aload X13.here hx rfl (hb hby d2_52) rfl rfl ?_
    refine st19 _ ?_
    exact X19.returnOut hx Bd.returns (hb hby d2_57) hr
  · show Qsi Z pR1 pR2 pI4 pI801 pK6 h0 n0 _ T19.heap _
    rw [e19]
    exact ⟨bR7_0, kK7_0, rfl, N19, K20, sz7_0, c23, c24, c25, F19⟩
theorem d1_0 : decode jdk_42_method_3_code 0 = .ok (.aload_n 0, 1) := by decide +kernel
theorem d1_1 : decode jdk_42_method_3_code 1 = .ok (.aload_n 1, 1) := by decide +kernel
theorem d1_2 : decode jdk_42_method_3_code 2 = .ok (.iconst 0, 1) := by decide +kernel
theorem d1_3 : decode jdk_42_method_3_code 3 = .ok (.aload_n 1, 1) := by decide +kernel
theorem d1_4 : decode jdk_42_method_3_code 4 = .ok (.arraylength, 1) := by decide +kernel
theorem d1_5 : decode jdk_42_method_3_code 5 = .ok (.aconst_null, 1) := by decide +kernel
theorem d1_6 : decode jdk_42_method_3_code 6 = .ok (.invokespecial 27, 3) := by decide +kernel
theorem pd_3 : parseMethodDescriptor "([CIILjava/lang/Void;)V" = some ⟨[(.array .char), .int, .int, (.object "java/lang/Void")], none⟩ := by decide +kernel
theorem d1_9 : decode jdk_42_method_3_code 9 = .ok (.return_, 1) := by decide +kernel
theorem ef_str (m : MethodId) (pR1 : Addr) (pR2 : Addr) : entryFrame m #[(.ref pR1), (.ref pR2)] 2 = mkF m 0 #[.val (.ref pR1), .val (.ref pR2)] [] := by first | (simp [entryFrame, mkF, argsToLocals, Value.category]; done) | rfl
def Qstr (Z : State) (pR1 : Addr) (pR2 : Addr) (pI801 : Int32) (pK3 : ClassId) (pI5 : Int32) (h0 : Heap) (n0 : Nat) (v : Option Value) (h : Heap) (L : List Loc) : Prop := ∃ bR6_0 : Addr, ∃ kK6_0 : ClassId, v = none ∧ Fr n0 L ∧ Keep h0 h [pR1] ∧ h0.size ≤ bR6_0 ∧ Exa Z h pR1 "java/lang/String" ∧ Arv Z h bR6_0 kK6_0 .byte (1 : Int32) [(.int (pI801.toInt8.toInt32))] (.int (0 : Int32)) ∧ Fld Z h pR1 "java/lang/String" "coder" "B" (.int 0) ∧ Fld Z h pR1 "java/lang/String" "value" "[B" (.ref bR6_0)
set_option maxRecDepth 65536 in
set_option maxHeartbeats 40000000 in
theorem str (l : Launch) (Z : State) (a0 : Array Value) (hw : ∀ d ∈ tables_1, d.before a0 Z = true) (ws : List Jvm.Cond) (pR1 : Addr) (pR2 : Addr) (pI801 : Int32) (pK3 : ClassId) (pI5 : Int32) (h0 : Heap) (n0 : Nat) (Z0 : n0 ≤ h0.size) (V_pR2 : Arv Z h0 pR2 pK3 .char (1 : Int32) [(.int pI801)] (.int (0 : Int32))) (S_String_COMPACT_STRINGS : Sta Z h0 "java/lang/String" "COMPACT_STRINGS" "Z" (.int pI5)) (E_pR1 : Exa Z h0 pR1 "java/lang/String") (F_coder_pR1 : Fld Z h0 pR1 "java/lang/String" "coder" "B" (.int 0)) (g_pR1 : n0 ≤ pR1) (F_value_pR1 : Fld Z h0 pR1 "java/lang/String" "value" "[B" .null) (hc6 : ¬ (pI5 = (0 : Int32))) (hc6' : ¬ ((255 : Int32) < pI801)) :
    oM l yN4 jdk_42_method_3_code 2 none ws ({ frames := 3, cells := 1, slots := 1, locals := 52 } : Room) #[(.ref pR1), (.ref pR2)] Z h0 (Qstr Z pR1 pR2 pI801 pK3 pI5 h0 n0) := by
  refine MetFree.of_bodySF (plainFor_of_name pn_1) hisR ?_
  intro p e s m args below meth c s₁ Bd hml0 hP hK
  obtain ⟨rfl, hZ, hh⟩ := hP
  have hx := Bd.exec
  have hby := Bd.bytes
  have hml : c.maxLocals = 2 := hml0
  have hown : s.vm.findClass "java/lang/String" = some m.cls := findClass_of_methodNamed Bd.named
  have hnm := (name_of_methodNamed Bd.named Bd.method).1
  have X0 : Stand p l e ({ frames := 3, cells := 1, slots := 1, locals := 52 } : Room) s m #[(.ref pR1), (.ref pR2)] below meth c s₁ [] 0 0 := Stand.of_body Bd
  have e0 : s₁.heap = h0 := by rw [← hh, Bd.state]; rfl
  have N0 := Fr.nil n0
  obtain ⟨clq4, Arq4, Akq4, Asq4, Anq4, Ahq4, Agq4⟩ := id V_pR2
  obtain ⟨_, _, ⟨T6, L6, k6, n6⟩, -, X6, ⟨Lc6, hQ6, l6, y6, z6⟩, st6⟩ := X0.specialBack hx (y := yN3) rfl hown (mvT hZ (ow hw 8 rfl)) (mvT hZ (ow hw 9 rfl)) (mvT hZ (ow hw 11 rfl)) (by decide) (backOf (W := 0) (si l Z a0 hw [] pR1 pR2 pI5 pI801 pK3 h0 n0 Z0 S_String_COMPACT_STRINGS V_pR2 E_pR1 F_coder_pR1 g_pR1 F_value_pR1 hc6 hc6') hZ (ow hw 11 rfl) (ow hw 4 rfl) (by decide) (by decide)) (g := (mkF m 6 #[.val (.ref pR1), .val (.ref pR2)] [.null, (.int 1), (.int 0), (.ref pR2), (.ref pR1)])) rfl (by rw [hml]; rfl) (Steps.refl _) (a := pR1) (argsL := [(.ref pR2), (.int 0), (.int 1), .null]) (rest := []) (lenOf pd_3 rfl) rfl (Nat.le_refl _) (hb hby d1_6) (fun _ _ => ⟨rfl, e0, (by decide : 0 + 1 ≤ _), (by decide : 0 + 1 ≤ _)⟩)
  dsimp only [Pt.U, Pt.locs, Pt.cells, Pt.slots] at X6 l6 y6 z6 st6 hQ6
  subst l6 y6 z6
  obtain ⟨bR6_0, kK6_0, rfl, Nq6, Kq6, sz6_0, x6_0, x6_1, x6_2, x6_3⟩ := hQ6
  have N6 := Fr.app N0 Nq6
  obtain ⟨Lh6, X6, N6⟩ := own_hide X6 N6
  have K7 : Keep h0 T6.heap [pR1] := (Keep.refl h0 [pR1]).trans Kq6 (allS (Or.inl (List.mem_of_getElem? (i := 0) rfl)) all0)
  have Z8 : n0 ≤ T6.heap.size := (Nat.le_trans Z0 Kq6.1)
  obtain ⟨fs, hr, hrun, hended, hW, hsame⟩ := X6.leave (v := none) (fun _ => rfl)
  refine ⟨_, _, castTop (ef_str m pR1 pR2) ?_, hrun, hended, _, _, rfl, ?_, ⟨_, rfl⟩, hW, hsame.mono (by decide) (by decide)⟩
  · show oS p e below s₁ m 0 #[.val (.ref pR1), .val (.ref pR2)] [] _
    refine XS.aloadN X0.here hx rfl (hb hby d1_0) rfl rfl ?_
    refine XS.aloadN X0.here hx rfl (hb hby d1_1) rfl rfl ?_
    refine XS.iconst X0.here hx rfl (hb hby d1_2) ?_
    refine XS.aloadN X0.here hx rfl (hb hby d1_3) rfl rfl ?_
    show oS p e below s₁ m 4 #[.val (.ref pR1), .val (.ref pR2)] [(.ref pR2), (.int 0), (.ref pR2), (.ref pR1)] _
    refine X0.arraylength hx (by rw [e0]; exact Arq4.1) (State.isArrayOf_alike hZ.alike Arq4.2.1) (g := (mkF m 4 #[.val (.ref pR1), .val (.ref pR2)] [(.ref pR2), (.int 0), (.ref pR2), (.ref pR1)])) rfl rfl (hb hby d1_4) _ ?_
    rw [len_of Asq4 Anq4]
    refine XS.aconstNull X0.here hx rfl (hb hby d1_5) ?_
    refine st6.trans ?_
    exact X6.returnOut hx Bd.returns (hb hby d1_9) hr
  · show Qstr Z pR1 pR2 pI801 pK3 pI5 h0 n0 _ T6.heap _
    exact ⟨bR6_0, kK6_0, rfl, N6, K7, sz6_0, x6_1, x6_0, x6_2, x6_3⟩
theorem d7_0 : decode method_3_code 0 = .ok (.iload_n 0, 1) := by decide +kernel
theorem d7_1 : decode method_3_code 1 = .ok (.ifCond .ne 5, 3) := by decide +kernel
theorem d7_4 : decode method_3_code 4 = .ok (.aconst_null, 1) := by decide +kernel
theorem d7_5 : decode method_3_code 5 = .ok (.areturn, 1) := by decide +kernel
theorem pn_2 : plainName "com/example/pergamena/pergamena/build/QuantityHasRangePinLaw" = true := by first | (simp [plainName, overriddenIn]; done) | decide +kernel
theorem ef_endN (m : MethodId) (pI1 : Int32) (pI2 : Int32) : entryFrame m #[(.int pI1), (.int pI2)] 3 = mkF m 0 #[.val (.int pI1), .val (.int pI2), .unset] [] := by first | (simp [entryFrame, mkF, argsToLocals, Value.category]; done) | rfl
def QendN (Z : State) (pI1 : Int32) (pI2 : Int32) (h0 : Heap) (n0 : Nat) (v : Option Value) (h : Heap) (L : List Loc) : Prop := v = some .null ∧ Fr n0 L ∧ h = h0
set_option maxRecDepth 65536 in
set_option maxHeartbeats 40000000 in
theorem endN (l : Launch) (Z : State) (a0 : Array Value) (hw : ∀ d ∈ tables_1, d.before a0 Z = true) (ws : List Jvm.Cond) (pI1 : Int32) (pI2 : Int32) (h0 : Heap) (n0 : Nat) (Z0 : n0 ≤ h0.size) (hc1 : pI1 = (0 : Int32)) :
    oM l yN5 method_3_code 3 (some (.object "java/lang/String")) ws ({ frames := 0, cells := 0, slots := 0, locals := 0 } : Room) #[(.int pI1), (.int pI2)] Z h0 (QendN Z pI1 pI2 h0 n0) := by
  refine MetFree.of_bodySF (plainFor_of_name pn_2) hisR ?_
  intro p e s m args below meth c s₁ Bd hml0 hP hK
  obtain ⟨rfl, hZ, hh⟩ := hP
  have hx := Bd.exec
  have hby := Bd.bytes
  have hml : c.maxLocals = 3 := hml0
  have hown : s.vm.findClass "com/example/pergamena/pergamena/build/QuantityHasRangePinLaw" = some m.cls := findClass_of_methodNamed Bd.named
  have hnm := (name_of_methodNamed Bd.named Bd.method).1
  have X0 : Stand p l e ({ frames := 0, cells := 0, slots := 0, locals := 0 } : Room) s m #[(.int pI1), (.int pI2)] below meth c s₁ [] 0 0 := Stand.of_body Bd
  have e0 : s₁.heap = h0 := by rw [← hh, Bd.state]; rfl
  have N0 := Fr.nil n0
  obtain ⟨fs, hr, hrun, hended, hW, hsame⟩ := X0.leave (v := some .null) (fun h => by rw [Bd.returns] at h; cases h)
  refine ⟨_, _, castTop (ef_endN m pI1 pI2) ?_, hrun, hended, _, _, rfl, ?_, ⟨_, rfl⟩, hW, hsame.mono (by decide) (by decide)⟩
  · show oS p e below s₁ m 0 #[.val (.int pI1), .val (.int pI2), .unset] [] _
    refine XS.iloadN X0.here hx rfl (hb hby d7_0) rfl ?_
    refine XS.ifNo X0.here hx rfl (hb hby d7_1) rfl ((if0 _ _).trans (teq hc1).2) ?_
    refine XS.aconstNull X0.here hx rfl (hb hby d7_4) ?_
    exact retOut X0 hx Bd.returns rfl (Or.inr (Or.inr (Or.inr (Or.inr ⟨rfl, rfl, rfl⟩)))) (hb hby d7_5) hr
  · show QendN Z pI1 pI2 h0 n0 _ s₁.heap _
    rw [e0]
    exact ⟨rfl, N0, rfl⟩
theorem d7_6 : decode method_3_code 6 = .ok (.iload_n 0, 1) := by decide +kernel
theorem d7_7 : decode method_3_code 7 = .ok (.iconst 1, 1) := by decide +kernel
theorem d7_8 : decode method_3_code 8 = .ok (.if_icmp .ne 6, 3) := by decide +kernel
theorem d7_11 : decode method_3_code 11 = .ok (.ldc 22, 2) := by decide +kernel
theorem d7_13 : decode method_3_code 13 = .ok (.areturn, 1) := by decide +kernel
theorem ef_endL (m : MethodId) (pI1 : Int32) (pI2 : Int32) : entryFrame m #[(.int pI1), (.int pI2)] 3 = mkF m 0 #[.val (.int pI1), .val (.int pI2), .unset] [] := by first | (simp [entryFrame, mkF, argsToLocals, Value.category]; done) | rfl
def Qref (Z : State)  (h0 : Heap) (n0 : Nat) (v : Option Value) (h : Heap) (L : List Loc) : Prop := ∃ b : Addr, v = some (.ref b) ∧ Fr n0 L ∧ Keep h0 h []
set_option maxRecDepth 65536 in
set_option maxHeartbeats 40000000 in
theorem endL (l : Launch) (Z : State) (a0 : Array Value) (hw : ∀ d ∈ tables_1, d.before a0 Z = true) (ws : List Jvm.Cond) (pI1 : Int32) (pI2 : Int32) (h0 : Heap) (n0 : Nat) (Z0 : n0 ≤ h0.size) (hc1 : ¬ (pI1 = (0 : Int32))) (hc8 : pI1 = (1 : Int32)) :
    oMW l yN5 method_3_code 3 (some (.object "java/lang/String")) ws ({ frames := 5, cells := 3, slots := 6, locals := 110 } : Room) #[(.int pI1), (.int pI2)] Z h0 (Qref Z  h0 n0) := by
  refine MetFree.of_bodySF (plainFor_of_name pn_2) hisR ?_
  intro p e s m args below meth c s₁ Bd hml0 hP hK
  obtain ⟨rfl, hZ, hh⟩ := hP
  have hx := Bd.exec
  have hby := Bd.bytes
  have hml : c.maxLocals = 3 := hml0
  have hown : s.vm.findClass "com/example/pergamena/pergamena/build/QuantityHasRangePinLaw" = some m.cls := findClass_of_methodNamed Bd.named
  have hnm := (name_of_methodNamed Bd.named Bd.method).1
  have X0 : Stand p l e ({ frames := 5, cells := 3, slots := 6, locals := 110 } : Room) s m #[(.int pI1), (.int pI2)] below meth c s₁ [] 0 0 := Stand.of_body Bd
  have e0 : s₁.heap = h0 := by rw [← hh, Bd.state]; rfl
  have N0 := Fr.nil n0
  have X0 : Stand p l e ({ frames := 5, cells := 3, slots := 6, locals := 110 } : Room) (s.setVm s.vm) m #[(.int pI1), (.int pI2)] below meth c s₁ [] 0 0 := X0
  have hS0 : s.Since s.vm 0 := (State.WarmedH.refl s).since 0
  have hk0 : 0 ≤ h0.size := Nat.zero_le _
  have hZ : Z.Warmed39 (s.setVm s.vm).vm := hZ
  have hown : (s.setVm s.vm).vm.findClass "com/example/pergamena/pergamena/build/QuantityHasRangePinLaw" = some m.cls := hown
  obtain ⟨bR3, T3, h3, k13, X3, e3, E3, hS3, hk3, hZ3, ho3, st3⟩ := ldcS X0 hx hZ hown (ow hw 68 rfl) (own_strW hw) e0 hS0 hk0 (g := (mkF m 11 #[.val (.int pI1), .val (.int pI2), .unset] [])) rfl (hb hby d7_11) (n := 0) (by decide) (by decide) (by decide) (by decide)
  have K4 : Keep h0 h3 [] := (Keep.refl h0 []).ext E3
  have Z5 : n0 ≤ h3.size := (Nat.le_trans Z0 E3.1)
  obtain ⟨fs, hr, hrun, hended, hE⟩ := X3.leaveW hS3 (by rw [e3]; exact hk3) (v := some (.ref bR3)) (fun h => by rw [Bd.returns] at h; cases h)
  refine ⟨_, _, castTop (ef_endL m pI1 pI2) ?_, hrun, hended, _, _, rfl, ?_, hE.1, hE.2.1, hE.2.2.1, hE.2.2.2.mono (by decide) (by decide)⟩
  · show oS p e below s₁ m 0 #[.val (.int pI1), .val (.int pI2), .unset] [] _
    refine XS.iloadN X0.here hx rfl (hb hby d7_0) rfl ?_
    refine XS.ifYes X0.here hx rfl (pc0 := 1) (pc' := 6) rfl (hb hby d7_1) rfl ((if0 _ _).trans (feq hc1).2) (by decide) (by decide) ?_
    refine XS.iloadN X0.here hx rfl (hb hby d7_6) rfl ?_
    refine XS.iconst X0.here hx rfl (hb hby d7_7) ?_
    show oS p e below s₁ m 8 #[.val (.int pI1), .val (.int pI2), .unset] [(.int 1), (.int pI1)] _
    refine XS.icmpNo X0.here hx rfl (hb hby d7_8) rfl (teq hc8).2 ?_
    refine st3 _ ?_
    exact retOut X3 hx Bd.returns rfl (Or.inr (Or.inr (Or.inr (Or.inr ⟨rfl, rfl, rfl⟩)))) (hb hby d7_13) hr
  · show Qref Z  h0 n0 _ T3.heap _
    rw [e3]
    exact ⟨bR3, rfl, N0, K4⟩
theorem d7_14 : decode method_3_code 14 = .ok (.iconst 1, 1) := by decide +kernel
theorem d7_15 : decode method_3_code 15 = .ok (.newarray .char, 2) := by decide +kernel
theorem d7_17 : decode method_3_code 17 = .ok (.astore_n 2, 1) := by decide +kernel
theorem d7_18 : decode method_3_code 18 = .ok (.aload_n 2, 1) := by decide +kernel
theorem d7_19 : decode method_3_code 19 = .ok (.iconst 0, 1) := by decide +kernel
theorem d7_20 : decode method_3_code 20 = .ok (.iload_n 1, 1) := by decide +kernel
theorem d7_21 : decode method_3_code 21 = .ok (.sipush 255, 3) := by decide +kernel
theorem d7_24 : decode method_3_code 24 = .ok (.iand, 1) := by decide +kernel
theorem d7_25 : decode method_3_code 25 = .ok (.i2c, 1) := by decide +kernel
theorem d7_26 : decode method_3_code 26 = .ok (.castore, 1) := by decide +kernel
theorem d7_27 : decode method_3_code 27 = .ok (.new 24, 3) := by decide +kernel
theorem d7_30 : decode method_3_code 30 = .ok (.dup, 1) := by decide +kernel
theorem d7_31 : decode method_3_code 31 = .ok (.aload_n 2, 1) := by decide +kernel
theorem d7_32 : decode method_3_code 32 = .ok (.invokespecial 26, 3) := by decide +kernel
theorem pd_4 : parseMethodDescriptor "([C)V" = some ⟨[(.array .char)], none⟩ := by decide +kernel
theorem d7_35 : decode method_3_code 35 = .ok (.areturn, 1) := by decide +kernel
theorem ef_endS (m : MethodId) (pI1 : Int32) (pI2 : Int32) : entryFrame m #[(.int pI1), (.int pI2)] 3 = mkF m 0 #[.val (.int pI1), .val (.int pI2), .unset] [] := by first | (simp [entryFrame, mkF, argsToLocals, Value.category]; done) | rfl
set_option maxRecDepth 65536 in
set_option maxHeartbeats 40000000 in
theorem endS (l : Launch) (Z : State) (a0 : Array Value) (hw : ∀ d ∈ tables_1, d.before a0 Z = true) (ws : List Jvm.Cond) (pI1 : Int32) (pI2 : Int32) (pI18 : Int32) (h0 : Heap) (n0 : Nat) (Z0 : n0 ≤ h0.size) (S_String_COMPACT_STRINGS : Sta Z h0 "java/lang/String" "COMPACT_STRINGS" "Z" (.int pI18)) (hc1 : ¬ (pI1 = (0 : Int32))) (hc8 : ¬ (pI1 = (1 : Int32))) (hc32 : ¬ (pI18 = (0 : Int32))) :
    oMW l yN5 method_3_code 3 (some (.object "java/lang/String")) ws ({ frames := 5, cells := 3, slots := 6, locals := 110 } : Room) #[(.int pI1), (.int pI2)] Z h0 (Qref Z  h0 n0) := by
  refine MetFree.of_bodySF (plainFor_of_name pn_2) hisR ?_
  intro p e s m args below meth c s₁ Bd hml0 hP hK
  obtain ⟨rfl, hZ, hh⟩ := hP
  have hx := Bd.exec
  have hby := Bd.bytes
  have hml : c.maxLocals = 3 := hml0
  have hown : s.vm.findClass "com/example/pergamena/pergamena/build/QuantityHasRangePinLaw" = some m.cls := findClass_of_methodNamed Bd.named
  have hnm := (name_of_methodNamed Bd.named Bd.method).1
  have X0 : Stand p l e ({ frames := 5, cells := 3, slots := 6, locals := 110 } : Room) s m #[(.int pI1), (.int pI2)] below meth c s₁ [] 0 0 := Stand.of_body Bd
  have e0 : s₁.heap = h0 := by rw [← hh, Bd.state]; rfl
  have N0 := Fr.nil n0
  have X0 : Stand p l e ({ frames := 5, cells := 3, slots := 6, locals := 110 } : Room) (s.setVm s.vm) m #[(.int pI1), (.int pI2)] below meth c s₁ [] 0 0 := X0
  have hS0 : s.Since s.vm 0 := (State.WarmedH.refl s).since 0
  have hk0 : 0 ≤ h0.size := Nat.zero_le _
  have hZ : Z.Warmed39 (s.setVm s.vm).vm := hZ
  have hown : (s.setVm s.vm).vm.findClass "com/example/pergamena/pergamena/build/QuantityHasRangePinLaw" = some m.cls := hown
  obtain ⟨T3, h3, k3, X3, e3, E3, A3, st3⟩ := newP X0 hx hZ (ow hw 1 rfl) e0 (g := (mkF m 15 #[.val (.int pI1), .val (.int pI2), .unset] [(.int 1)])) rfl (hb hby d7_15) rfl (by decide) (cap := 1) (by decide) (by decide) (by decide) (by decide)
  obtain ⟨bR3, g3⟩ : ∃ z, z = h0.size := ⟨_, rfl⟩
  rw [← g3] at A3 st3
  have K4 : Keep h0 h3 [] := (Keep.refl h0 []).ext E3
  have Z5 : n0 ≤ h3.size := (Nat.le_trans Z0 E3.1)
  have V3 : Arv Z h3 bR3 k3 .char (1 : Int32) [(.int 0)] (.int (0 : Int32)) := (Arv.new A3 (by decide)).pad (pad_rep [] (.int (0 : Int32)) 1)
  have g6 : n0 ≤ bR3 := Nat.le_trans Z0 (Nat.le_of_eq g3.symm)
  obtain ⟨clq7, Arq7, Akq7, Asq7, Anq7, Ahq7, Agq7⟩ := id V3
  have hin8 : ¬ ((0 : Int32) < 0 ∨ clq7.slots.size ≤ ((0 : Int32)).toNatClampNeg) := inb_of Asq7 ⟨by decide, by decide⟩
  obtain ⟨T9, h9, X9, e9, W9, st9⟩ := stC X3 hx hZ e3 Arq7 (j := (0 : Int32)) hin8 (g := (mkF m 26 #[.val (.int pI1), .val (.int pI2), .val (.ref bR3)] [(.int ((pI2 &&& (255 : Int32)).toUInt32.toUInt16.toUInt32.toInt32)), (.int 0), (.ref bR3)])) rfl rfl (hb hby d7_26)
  rw [own_narc (own_c255 _)] at W9
  have K10 : Keep h0 h9 [] := K4.wr W9 (Or.inr (Nat.le_of_eq g3.symm))
  have Z11 : n0 ≤ h9.size := (Nat.le_trans Z5 (Keep.of_wr W9).1)
  have N9 := Fr.snoc X9 N0 g6
  obtain ⟨Lh9, X9, N9⟩ := own_hide X9 N9
  have V9 : Arv Z h9 bR3 k3 .char (1 : Int32) [(.int ((pI2 &&& (255 : Int32)).toUInt32.toUInt16.toUInt32.toInt32))] (.int (0 : Int32)) := Arv.set Arq7 Akq7 Asq7 Anq7 Ahq7 Agq7 (own_fitc (own_c255 _)) W9 0 rfl (Nat.le_of_ble_eq_true rfl)
  obtain ⟨T12, h12, X12, e12, E12, A12, D12, U12, st12⟩ := newO X9 hx hZ hown (ow hw 2 rfl) (ow hw 3 rfl) (ow hw 4 rfl) e9 (g := (mkF m 27 #[.val (.int pI1), .val (.int pI2), .val (.ref bR3)] [])) rfl (hb hby d7_27) (by decide) (by decide)
  obtain ⟨bR12, g12⟩ : ∃ z, z = h9.size := ⟨_, rfl⟩
  rw [← g12] at A12 D12 U12 st12
  have K13 : Keep h0 h12 [] := K10.ext E12
  have Z14 : n0 ≤ h12.size := (Nat.le_trans Z11 E12.1)
  have F15 : Fld Z h12 bR12 "java/lang/String" "coder" "B" (.int 0) := D12 (Or.inr (ow hw 28 rfl)) (ty := .byte) (by decide)
  have F16 : Fld Z h12 bR12 "java/lang/String" "value" "[B" .null := D12 (Or.inr (ow hw 30 rfl)) (ty := (.array .byte)) (by decide)
  have c17 : Arv Z h12 bR3 k3 .char (1 : Int32) [(.int ((pI2 &&& (255 : Int32)).toUInt32.toUInt16.toUInt32.toInt32))] (.int (0 : Int32)) := V9.ext E12
  have c19 : Sta Z h3 "java/lang/String" "COMPACT_STRINGS" "Z" (.int pI18) := S_String_COMPACT_STRINGS.ext E3
  have c20 : Sta Z h9 "java/lang/String" "COMPACT_STRINGS" "Z" (.int pI18) := c19.wr W9
  have c21 : Sta Z h12 "java/lang/String" "COMPACT_STRINGS" "Z" (.int pI18) := c20.ext E12
  have g22 : n0 ≤ bR12 := Nat.le_trans Z11 (Nat.le_of_eq g12.symm)
  obtain ⟨_, _, ⟨T23, L23, k23, n23⟩, -, X23, ⟨Lc23, hQ23, l23, y23, z23⟩, st23⟩ := X12.specialBack hx (y := yN4) rfl hown (mvT hZ (ow hw 5 rfl)) (mvT hZ (ow hw 6 rfl)) (mvT hZ (ow hw 7 rfl)) (by decide) (backOf (W := 1) (str l Z a0 hw [] bR12 bR3 ((pI2 &&& (255 : Int32)).toUInt32.toUInt16.toUInt32.toInt32) k3 pI18 h12 n0 Z14 c17 c21 A12 F15 g22 F16 hc32 (own_l255 _ : ¬ ((255 : Int32) < ((pI2 &&& (255 : Int32)).toUInt32.toUInt16.toUInt32.toInt32)))) hZ (ow hw 7 rfl) (ow hw 4 rfl) (by decide) (by decide)) (g := (mkF m 32 #[.val (.int pI1), .val (.int pI2), .val (.ref bR3)] [(.ref bR3), (.ref bR12), (.ref bR12)])) rfl (by rw [hml]; rfl) (Steps.refl _) (a := bR12) (argsL := [(.ref bR3)]) (rest := [(.ref bR12)]) (lenOf pd_4 rfl) rfl (Nat.le_refl _) (hb hby d7_32) (fun _ _ => ⟨rfl, e12, (by decide : 2 + 1 ≤ _), (by decide : 5 + 1 ≤ _)⟩)
  dsimp only [Pt.U, Pt.locs, Pt.cells, Pt.slots] at X23 l23 y23 z23 st23 hQ23
  subst l23 y23 z23
  obtain ⟨bR23_0, kK23_0, rfl, Nq23, Kq23, sz23_0, x23_0, x23_1, x23_2, x23_3⟩ := hQ23
  have N23 := Fr.app N9 Nq23
  obtain ⟨Lh23, X23, N23⟩ := own_hide X23 N23
  have K24 : Keep h0 T23.heap [] := K13.trans Kq23 (allS (Or.inr (Nat.le_trans K10.1 (Nat.le_of_eq g12.symm))) all0)
  have Z25 : n0 ≤ T23.heap.size := (Nat.le_trans Z14 Kq23.1)
  obtain ⟨fs, hr, hrun, hended, hE⟩ := X23.leaveW hS0 (Nat.le_trans (Nat.le_trans (Nat.le_trans (Nat.le_trans hk0 E3.1) (Keep.of_wr W9).1) E12.1) Kq23.1) (v := some (.ref bR12)) (fun h => by rw [Bd.returns] at h; cases h)
  refine ⟨_, _, castTop (ef_endS m pI1 pI2) ?_, hrun, hended, _, _, rfl, ?_, hE.1, hE.2.1, hE.2.2.1, hE.2.2.2.mono (by decide) (by decide)⟩
  · show oS p e below s₁ m 0 #[.val (.int pI1), .val (.int pI2), .unset] [] _
    refine XS.iloadN X0.here hx rfl (hb hby d7_0) rfl ?_
    refine XS.ifYes X0.here hx rfl (pc0 := 1) (pc' := 6) rfl (hb hby d7_1) rfl ((if0 _ _).trans (feq hc1).2) (by decide) (by decide) ?_
    refine XS.iloadN X0.here hx rfl (hb hby d7_6) rfl ?_
    refine XS.iconst X0.here hx rfl (hb hby d7_7) ?_
    show oS p e below s₁ m 8 #[.val (.int pI1), .val (.int pI2), .unset] [(.int 1), (.int pI1)] _
    refine XS.icmpYes X0.here hx rfl (pc0 := 8) (pc' := 14) rfl (hb hby d7_8) rfl (feq hc8).2 (by decide) (by decide) ?_
    refine XS.iconst X0.here hx rfl (hb hby d7_14) ?_
    refine st3 _ ?_
    refine XS.astoreN X3.here hx rfl (hb hby d7_17) rfl rfl (l' := #[.val (.int pI1), .val (.int pI2), .val (.ref bR3)]) rfl ?_
    show oS p e below T3 m 18 #[.val (.int pI1), .val (.int pI2), .val (.ref bR3)] [] _
    refine XS.aloadN X3.here hx rfl (hb hby d7_18) rfl rfl ?_
    refine XS.iconst X3.here hx rfl (hb hby d7_19) ?_
    refine XS.iloadN X3.here hx rfl (hb hby d7_20) rfl ?_
    refine XS.sipush X3.here hx rfl (hb hby d7_21) ?_
    show oS p e below T3 m 24 #[.val (.int pI1), .val (.int pI2), .val (.ref bR3)] [(.int 255), (.int pI2), (.int 0), (.ref bR3)] _
    refine XS.iand X3.here hx rfl (hb hby d7_24) rfl ?_
    refine XS.i2c X3.here hx rfl (hb hby d7_25) rfl ?_
    refine st9 _ ?_
    refine st12 _ ?_
    show oS p e below T12 m 30 #[.val (.int pI1), .val (.int pI2), .val (.ref bR3)] [(.ref bR12)] _
    refine XS.dup X12.here hx rfl (hb hby d7_30) rfl rfl ?_
    refine XS.aloadN X12.here hx rfl (hb hby d7_31) rfl rfl ?_
    refine st23.trans ?_
    exact retOut X23 hx Bd.returns rfl (Or.inr (Or.inr (Or.inr (Or.inr ⟨rfl, rfl, rfl⟩)))) (hb hby d7_35) hr
  · show Qref Z  h0 n0 _ T23.heap _
    exact ⟨bR12, rfl, N23, K24⟩
theorem endR (l : Launch) (Z : State) (a0 : Array Value) (hw : ∀ d ∈ tables_1, d.before a0 Z = true) (ws : List Jvm.Cond) (pI1 : Int32) (pI2 : Int32) (pI18 : Int32) (h0 : Heap) (n0 : Nat) (Z0 : n0 ≤ h0.size) (S_String_COMPACT_STRINGS : Sta Z h0 "java/lang/String" "COMPACT_STRINGS" "Z" (.int pI18)) (hc1 : ¬ (pI1 = (0 : Int32))) (hcs : ¬ (pI18 = (0 : Int32))) :
    oMW l yN5 method_3_code 3 (some (.object "java/lang/String")) ws ({ frames := 5, cells := 3, slots := 6, locals := 110 } : Room) #[(.int pI1), (.int pI2)] Z h0 (Qref Z  h0 n0) := by
  by_cases h1 : pI1 = (1 : Int32)
  · exact endL l Z a0 hw ws pI1 pI2 h0 n0 Z0  hc1 h1
  · exact endS l Z a0 hw ws pI1 pI2 pI18 h0 n0 Z0 S_String_COMPACT_STRINGS hc1 h1 hcs
theorem d8_0 : decode method_2_code 0 = .ok (.iload_n 0, 1) := by decide +kernel
theorem d8_1 : decode method_2_code 1 = .ok (.ifCond .ne 5, 3) := by decide +kernel
theorem d8_4 : decode method_2_code 4 = .ok (.aconst_null, 1) := by decide +kernel
theorem d8_5 : decode method_2_code 5 = .ok (.areturn, 1) := by decide +kernel
theorem ef_comN (m : MethodId) (pI1 : Int32) : entryFrame m #[(.int pI1)] 1 = mkF m 0 #[.val (.int pI1)] [] := by first | (simp [entryFrame, mkF, argsToLocals, Value.category]; done) | rfl
def QcomN (Z : State) (pI1 : Int32) (h0 : Heap) (n0 : Nat) (v : Option Value) (h : Heap) (L : List Loc) : Prop := v = some .null ∧ Fr n0 L ∧ h = h0
set_option maxRecDepth 65536 in
set_option maxHeartbeats 40000000 in
theorem comN (l : Launch) (Z : State) (a0 : Array Value) (hw : ∀ d ∈ tables_1, d.before a0 Z = true) (ws : List Jvm.Cond) (pI1 : Int32) (h0 : Heap) (n0 : Nat) (Z0 : n0 ≤ h0.size) (hc1 : pI1 = (0 : Int32)) :
    oM l yN6 method_2_code 1 (some (.object "com/example/pergamena/pergamena/build/LabResults$Comparator")) ws ({ frames := 0, cells := 0, slots := 0, locals := 0 } : Room) #[(.int pI1)] Z h0 (QcomN Z pI1 h0 n0) := by
  refine MetFree.of_bodySF (plainFor_of_name pn_2) hisR ?_
  intro p e s m args below meth c s₁ Bd hml0 hP hK
  obtain ⟨rfl, hZ, hh⟩ := hP
  have hx := Bd.exec
  have hby := Bd.bytes
  have hml : c.maxLocals = 1 := hml0
  have hown : s.vm.findClass "com/example/pergamena/pergamena/build/QuantityHasRangePinLaw" = some m.cls := findClass_of_methodNamed Bd.named
  have hnm := (name_of_methodNamed Bd.named Bd.method).1
  have X0 : Stand p l e ({ frames := 0, cells := 0, slots := 0, locals := 0 } : Room) s m #[(.int pI1)] below meth c s₁ [] 0 0 := Stand.of_body Bd
  have e0 : s₁.heap = h0 := by rw [← hh, Bd.state]; rfl
  have N0 := Fr.nil n0
  obtain ⟨fs, hr, hrun, hended, hW, hsame⟩ := X0.leave (v := some .null) (fun h => by rw [Bd.returns] at h; cases h)
  refine ⟨_, _, castTop (ef_comN m pI1) ?_, hrun, hended, _, _, rfl, ?_, ⟨_, rfl⟩, hW, hsame.mono (by decide) (by decide)⟩
  · show oS p e below s₁ m 0 #[.val (.int pI1)] [] _
    refine XS.iloadN X0.here hx rfl (hb hby d8_0) rfl ?_
    refine XS.ifNo X0.here hx rfl (hb hby d8_1) rfl ((if0 _ _).trans (teq hc1).2) ?_
    refine XS.aconstNull X0.here hx rfl (hb hby d8_4) ?_
    exact retOut X0 hx Bd.returns rfl (Or.inr (Or.inr (Or.inr (Or.inr ⟨rfl, rfl, rfl⟩)))) (hb hby d8_5) hr
  · show QcomN Z pI1 h0 n0 _ s₁.heap _
    rw [e0]
    exact ⟨rfl, N0, rfl⟩
theorem d8_6 : decode method_2_code 6 = .ok (.iload_n 0, 1) := by decide +kernel
theorem d8_7 : decode method_2_code 7 = .ok (.iconst 1, 1) := by decide +kernel
theorem d8_8 : decode method_2_code 8 = .ok (.if_icmp .ne 7, 3) := by decide +kernel
theorem d8_11 : decode method_2_code 11 = .ok (.getstatic 7, 3) := by decide +kernel
theorem d8_14 : decode method_2_code 14 = .ok (.areturn, 1) := by decide +kernel
theorem ef_com1 (m : MethodId) (pI1 : Int32) : entryFrame m #[(.int pI1)] 1 = mkF m 0 #[.val (.int pI1)] [] := by first | (simp [entryFrame, mkF, argsToLocals, Value.category]; done) | rfl
set_option maxRecDepth 65536 in
set_option maxHeartbeats 40000000 in
theorem com1 (l : Launch) (Z : State) (a0 : Array Value) (hw : ∀ d ∈ tables_1, d.before a0 Z = true) (ws : List Jvm.Cond) (pI1 : Int32) (pR950 : Addr) (h0 : Heap) (n0 : Nat) (Z0 : n0 ≤ h0.size) (S_LabResults_Comparator_LESS : Sta Z h0 "com/example/pergamena/pergamena/build/LabResults$Comparator" "LESS" "Lcom/example/pergamena/pergamena/build/LabResults$Comparator;" (.ref pR950)) (hc1 : ¬ (pI1 = (0 : Int32))) (hc8 : pI1 = (1 : Int32)) :
    oM l yN6 method_2_code 1 (some (.object "com/example/pergamena/pergamena/build/LabResults$Comparator")) ws ({ frames := 0, cells := 0, slots := 0, locals := 0 } : Room) #[(.int pI1)] Z h0 (Qref Z  h0 n0) := by
  refine MetFree.of_bodySF (plainFor_of_name pn_2) hisR ?_
  intro p e s m args below meth c s₁ Bd hml0 hP hK
  obtain ⟨rfl, hZ, hh⟩ := hP
  have hx := Bd.exec
  have hby := Bd.bytes
  have hml : c.maxLocals = 1 := hml0
  have hown : s.vm.findClass "com/example/pergamena/pergamena/build/QuantityHasRangePinLaw" = some m.cls := findClass_of_methodNamed Bd.named
  have hnm := (name_of_methodNamed Bd.named Bd.method).1
  have X0 : Stand p l e ({ frames := 0, cells := 0, slots := 0, locals := 0 } : Room) s m #[(.int pI1)] below meth c s₁ [] 0 0 := Stand.of_body Bd
  have e0 : s₁.heap = h0 := by rw [← hh, Bd.state]; rfl
  have N0 := Fr.nil n0
  obtain ⟨T2, X2, e2, st2⟩ := getS2 X0 hx hZ hown (host := "") (Or.inl (ow hw 73 rfl)) Via.refl e0 S_LabResults_Comparator_LESS (g := (mkF m 11 #[.val (.int pI1)] [])) rfl (hb hby d8_11)
  obtain ⟨fs, hr, hrun, hended, hW, hsame⟩ := X2.leave (v := some (.ref pR950)) (fun h => by rw [Bd.returns] at h; cases h)
  refine ⟨_, _, castTop (ef_com1 m pI1) ?_, hrun, hended, _, _, rfl, ?_, ⟨_, rfl⟩, hW, hsame.mono (by decide) (by decide)⟩
  · show oS p e below s₁ m 0 #[.val (.int pI1)] [] _
    refine XS.iloadN X0.here hx rfl (hb hby d8_0) rfl ?_
    refine XS.ifYes X0.here hx rfl (pc0 := 1) (pc' := 6) rfl (hb hby d8_1) rfl ((if0 _ _).trans (feq hc1).2) (by decide) (by decide) ?_
    refine XS.iloadN X0.here hx rfl (hb hby d8_6) rfl ?_
    refine XS.iconst X0.here hx rfl (hb hby d8_7) ?_
    show oS p e below s₁ m 8 #[.val (.int pI1)] [(.int 1), (.int pI1)] _
    refine XS.icmpNo X0.here hx rfl (hb hby d8_8) rfl (teq hc8).2 ?_
    refine st2 _ ?_
    exact retOut X2 hx Bd.returns rfl (Or.inr (Or.inr (Or.inr (Or.inr ⟨rfl, rfl, rfl⟩)))) (hb hby d8_14) hr
  · show Qref Z  h0 n0 _ T2.heap _
    rw [e2]
    exact ⟨pR950, rfl, N0, Keep.refl h0 []⟩
theorem d8_15 : decode method_2_code 15 = .ok (.iload_n 0, 1) := by decide +kernel
theorem d8_16 : decode method_2_code 16 = .ok (.iconst 2, 1) := by decide +kernel
theorem d8_17 : decode method_2_code 17 = .ok (.if_icmp .ne 7, 3) := by decide +kernel
theorem d8_20 : decode method_2_code 20 = .ok (.getstatic 13, 3) := by decide +kernel
theorem d8_23 : decode method_2_code 23 = .ok (.areturn, 1) := by decide +kernel
theorem ef_com2 (m : MethodId) (pI1 : Int32) : entryFrame m #[(.int pI1)] 1 = mkF m 0 #[.val (.int pI1)] [] := by first | (simp [entryFrame, mkF, argsToLocals, Value.category]; done) | rfl
set_option maxRecDepth 65536 in
set_option maxHeartbeats 40000000 in
theorem com2 (l : Launch) (Z : State) (a0 : Array Value) (hw : ∀ d ∈ tables_1, d.before a0 Z = true) (ws : List Jvm.Cond) (pI1 : Int32) (pR951 : Addr) (h0 : Heap) (n0 : Nat) (Z0 : n0 ≤ h0.size) (S_LabResults_Comparator_AT_MOST : Sta Z h0 "com/example/pergamena/pergamena/build/LabResults$Comparator" "AT_MOST" "Lcom/example/pergamena/pergamena/build/LabResults$Comparator;" (.ref pR951)) (hc1 : ¬ (pI1 = (0 : Int32))) (hc8 : ¬ (pI1 = (1 : Int32))) (hc17 : pI1 = (2 : Int32)) :
    oM l yN6 method_2_code 1 (some (.object "com/example/pergamena/pergamena/build/LabResults$Comparator")) ws ({ frames := 0, cells := 0, slots := 0, locals := 0 } : Room) #[(.int pI1)] Z h0 (Qref Z  h0 n0) := by
  refine MetFree.of_bodySF (plainFor_of_name pn_2) hisR ?_
  intro p e s m args below meth c s₁ Bd hml0 hP hK
  obtain ⟨rfl, hZ, hh⟩ := hP
  have hx := Bd.exec
  have hby := Bd.bytes
  have hml : c.maxLocals = 1 := hml0
  have hown : s.vm.findClass "com/example/pergamena/pergamena/build/QuantityHasRangePinLaw" = some m.cls := findClass_of_methodNamed Bd.named
  have hnm := (name_of_methodNamed Bd.named Bd.method).1
  have X0 : Stand p l e ({ frames := 0, cells := 0, slots := 0, locals := 0 } : Room) s m #[(.int pI1)] below meth c s₁ [] 0 0 := Stand.of_body Bd
  have e0 : s₁.heap = h0 := by rw [← hh, Bd.state]; rfl
  have N0 := Fr.nil n0
  obtain ⟨T2, X2, e2, st2⟩ := getS2 X0 hx hZ hown (host := "") (Or.inl (ow hw 65 rfl)) Via.refl e0 S_LabResults_Comparator_AT_MOST (g := (mkF m 20 #[.val (.int pI1)] [])) rfl (hb hby d8_20)
  obtain ⟨fs, hr, hrun, hended, hW, hsame⟩ := X2.leave (v := some (.ref pR951)) (fun h => by rw [Bd.returns] at h; cases h)
  refine ⟨_, _, castTop (ef_com2 m pI1) ?_, hrun, hended, _, _, rfl, ?_, ⟨_, rfl⟩, hW, hsame.mono (by decide) (by decide)⟩
  · show oS p e below s₁ m 0 #[.val (.int pI1)] [] _
    refine XS.iloadN X0.here hx rfl (hb hby d8_0) rfl ?_
    refine XS.ifYes X0.here hx rfl (pc0 := 1) (pc' := 6) rfl (hb hby d8_1) rfl ((if0 _ _).trans (feq hc1).2) (by decide) (by decide) ?_
    refine XS.iloadN X0.here hx rfl (hb hby d8_6) rfl ?_
    refine XS.iconst X0.here hx rfl (hb hby d8_7) ?_
    show oS p e below s₁ m 8 #[.val (.int pI1)] [(.int 1), (.int pI1)] _
    refine XS.icmpYes X0.here hx rfl (pc0 := 8) (pc' := 15) rfl (hb hby d8_8) rfl (feq hc8).2 (by decide) (by decide) ?_
    refine XS.iloadN X0.here hx rfl (hb hby d8_15) rfl ?_
    refine XS.iconst X0.here hx rfl (hb hby d8_16) ?_
    refine XS.icmpNo X0.here hx rfl (hb hby d8_17) rfl (teq hc17).2 ?_
    show oS p e below s₁ m 20 #[.val (.int pI1)] [] _
    refine st2 _ ?_
    exact retOut X2 hx Bd.returns rfl (Or.inr (Or.inr (Or.inr (Or.inr ⟨rfl, rfl, rfl⟩)))) (hb hby d8_23) hr
  · show Qref Z  h0 n0 _ T2.heap _
    rw [e2]
    exact ⟨pR951, rfl, N0, Keep.refl h0 []⟩
theorem d8_24 : decode method_2_code 24 = .ok (.iload_n 0, 1) := by decide +kernel
theorem d8_25 : decode method_2_code 25 = .ok (.iconst 3, 1) := by decide +kernel
theorem d8_26 : decode method_2_code 26 = .ok (.if_icmp .ne 7, 3) := by decide +kernel
theorem d8_29 : decode method_2_code 29 = .ok (.getstatic 16, 3) := by decide +kernel
theorem d8_32 : decode method_2_code 32 = .ok (.areturn, 1) := by decide +kernel
theorem ef_com3 (m : MethodId) (pI1 : Int32) : entryFrame m #[(.int pI1)] 1 = mkF m 0 #[.val (.int pI1)] [] := by first | (simp [entryFrame, mkF, argsToLocals, Value.category]; done) | rfl
set_option maxRecDepth 65536 in
set_option maxHeartbeats 40000000 in
theorem com3 (l : Launch) (Z : State) (a0 : Array Value) (hw : ∀ d ∈ tables_1, d.before a0 Z = true) (ws : List Jvm.Cond) (pI1 : Int32) (pR952 : Addr) (h0 : Heap) (n0 : Nat) (Z0 : n0 ≤ h0.size) (S_LabResults_Comparator_GREATER : Sta Z h0 "com/example/pergamena/pergamena/build/LabResults$Comparator" "GREATER" "Lcom/example/pergamena/pergamena/build/LabResults$Comparator;" (.ref pR952)) (hc1 : ¬ (pI1 = (0 : Int32))) (hc8 : ¬ (pI1 = (1 : Int32))) (hc17 : ¬ (pI1 = (2 : Int32))) (hc26 : pI1 = (3 : Int32)) :
    oM l yN6 method_2_code 1 (some (.object "com/example/pergamena/pergamena/build/LabResults$Comparator")) ws ({ frames := 0, cells := 0, slots := 0, locals := 0 } : Room) #[(.int pI1)] Z h0 (Qref Z  h0 n0) := by
  refine MetFree.of_bodySF (plainFor_of_name pn_2) hisR ?_
  intro p e s m args below meth c s₁ Bd hml0 hP hK
  obtain ⟨rfl, hZ, hh⟩ := hP
  have hx := Bd.exec
  have hby := Bd.bytes
  have hml : c.maxLocals = 1 := hml0
  have hown : s.vm.findClass "com/example/pergamena/pergamena/build/QuantityHasRangePinLaw" = some m.cls := findClass_of_methodNamed Bd.named
  have hnm := (name_of_methodNamed Bd.named Bd.method).1
  have X0 : Stand p l e ({ frames := 0, cells := 0, slots := 0, locals := 0 } : Room) s m #[(.int pI1)] below meth c s₁ [] 0 0 := Stand.of_body Bd
  have e0 : s₁.heap = h0 := by rw [← hh, Bd.state]; rfl
  have N0 := Fr.nil n0
  obtain ⟨T2, X2, e2, st2⟩ := getS2 X0 hx hZ hown (host := "") (Or.inl (ow hw 75 rfl)) Via.refl e0 S_LabResults_Comparator_GREATER (g := (mkF m 29 #[.val (.int pI1)] [])) rfl (hb hby d8_29)
  obtain ⟨fs, hr, hrun, hended, hW, hsame⟩ := X2.leave (v := some (.ref pR952)) (fun h => by rw [Bd.returns] at h; cases h)
  refine ⟨_, _, castTop (ef_com3 m pI1) ?_, hrun, hended, _, _, rfl, ?_, ⟨_, rfl⟩, hW, hsame.mono (by decide) (by decide)⟩
  · show oS p e below s₁ m 0 #[.val (.int pI1)] [] _
    refine XS.iloadN X0.here hx rfl (hb hby d8_0) rfl ?_
    refine XS.ifYes X0.here hx rfl (pc0 := 1) (pc' := 6) rfl (hb hby d8_1) rfl ((if0 _ _).trans (feq hc1).2) (by decide) (by decide) ?_
    refine XS.iloadN X0.here hx rfl (hb hby d8_6) rfl ?_
    refine XS.iconst X0.here hx rfl (hb hby d8_7) ?_
    show oS p e below s₁ m 8 #[.val (.int pI1)] [(.int 1), (.int pI1)] _
    refine XS.icmpYes X0.here hx rfl (pc0 := 8) (pc' := 15) rfl (hb hby d8_8) rfl (feq hc8).2 (by decide) (by decide) ?_
    refine XS.iloadN X0.here hx rfl (hb hby d8_15) rfl ?_
    refine XS.iconst X0.here hx rfl (hb hby d8_16) ?_
    refine XS.icmpYes X0.here hx rfl (pc0 := 17) (pc' := 24) rfl (hb hby d8_17) rfl (feq hc17).2 (by decide) (by decide) ?_
    show oS p e below s₁ m 24 #[.val (.int pI1)] [] _
    refine XS.iloadN X0.here hx rfl (hb hby d8_24) rfl ?_
    refine XS.iconst X0.here hx rfl (hb hby d8_25) ?_
    refine XS.icmpNo X0.here hx rfl (hb hby d8_26) rfl (teq hc26).2 ?_
    refine st2 _ ?_
    show oS p e below T2 m 32 #[.val (.int pI1)] [(.ref pR952)] _
    exact retOut X2 hx Bd.returns rfl (Or.inr (Or.inr (Or.inr (Or.inr ⟨rfl, rfl, rfl⟩)))) (hb hby d8_32) hr
  · show Qref Z  h0 n0 _ T2.heap _
    rw [e2]
    exact ⟨pR952, rfl, N0, Keep.refl h0 []⟩
theorem d8_33 : decode method_2_code 33 = .ok (.getstatic 19, 3) := by decide +kernel
theorem d8_36 : decode method_2_code 36 = .ok (.areturn, 1) := by decide +kernel
theorem ef_com4 (m : MethodId) (pI1 : Int32) : entryFrame m #[(.int pI1)] 1 = mkF m 0 #[.val (.int pI1)] [] := by first | (simp [entryFrame, mkF, argsToLocals, Value.category]; done) | rfl
set_option maxRecDepth 65536 in
set_option maxHeartbeats 40000000 in
theorem com4 (l : Launch) (Z : State) (a0 : Array Value) (hw : ∀ d ∈ tables_1, d.before a0 Z = true) (ws : List Jvm.Cond) (pI1 : Int32) (pR953 : Addr) (h0 : Heap) (n0 : Nat) (Z0 : n0 ≤ h0.size) (S_LabResults_Comparator_AT_LEAST : Sta Z h0 "com/example/pergamena/pergamena/build/LabResults$Comparator" "AT_LEAST" "Lcom/example/pergamena/pergamena/build/LabResults$Comparator;" (.ref pR953)) (hc1 : ¬ (pI1 = (0 : Int32))) (hc8 : ¬ (pI1 = (1 : Int32))) (hc17 : ¬ (pI1 = (2 : Int32))) (hc26 : ¬ (pI1 = (3 : Int32))) :
    oM l yN6 method_2_code 1 (some (.object "com/example/pergamena/pergamena/build/LabResults$Comparator")) ws ({ frames := 0, cells := 0, slots := 0, locals := 0 } : Room) #[(.int pI1)] Z h0 (Qref Z  h0 n0) := by
  refine MetFree.of_bodySF (plainFor_of_name pn_2) hisR ?_
  intro p e s m args below meth c s₁ Bd hml0 hP hK
  obtain ⟨rfl, hZ, hh⟩ := hP
  have hx := Bd.exec
  have hby := Bd.bytes
  have hml : c.maxLocals = 1 := hml0
  have hown : s.vm.findClass "com/example/pergamena/pergamena/build/QuantityHasRangePinLaw" = some m.cls := findClass_of_methodNamed Bd.named
  have hnm := (name_of_methodNamed Bd.named Bd.method).1
  have X0 : Stand p l e ({ frames := 0, cells := 0, slots := 0, locals := 0 } : Room) s m #[(.int pI1)] below meth c s₁ [] 0 0 := Stand.of_body Bd
  have e0 : s₁.heap = h0 := by rw [← hh, Bd.state]; rfl
  have N0 := Fr.nil n0
  obtain ⟨T2, X2, e2, st2⟩ := getS2 X0 hx hZ hown (host := "") (Or.inl (ow hw 71 rfl)) Via.refl e0 S_LabResults_Comparator_AT_LEAST (g := (mkF m 33 #[.val (.int pI1)] [])) rfl (hb hby d8_33)
  obtain ⟨fs, hr, hrun, hended, hW, hsame⟩ := X2.leave (v := some (.ref pR953)) (fun h => by rw [Bd.returns] at h; cases h)
  refine ⟨_, _, castTop (ef_com4 m pI1) ?_, hrun, hended, _, _, rfl, ?_, ⟨_, rfl⟩, hW, hsame.mono (by decide) (by decide)⟩
  · show oS p e below s₁ m 0 #[.val (.int pI1)] [] _
    refine XS.iloadN X0.here hx rfl (hb hby d8_0) rfl ?_
    refine XS.ifYes X0.here hx rfl (pc0 := 1) (pc' := 6) rfl (hb hby d8_1) rfl ((if0 _ _).trans (feq hc1).2) (by decide) (by decide) ?_
    refine XS.iloadN X0.here hx rfl (hb hby d8_6) rfl ?_
    refine XS.iconst X0.here hx rfl (hb hby d8_7) ?_
    show oS p e below s₁ m 8 #[.val (.int pI1)] [(.int 1), (.int pI1)] _
    refine XS.icmpYes X0.here hx rfl (pc0 := 8) (pc' := 15) rfl (hb hby d8_8) rfl (feq hc8).2 (by decide) (by decide) ?_
    refine XS.iloadN X0.here hx rfl (hb hby d8_15) rfl ?_
    refine XS.iconst X0.here hx rfl (hb hby d8_16) ?_
    refine XS.icmpYes X0.here hx rfl (pc0 := 17) (pc' := 24) rfl (hb hby d8_17) rfl (feq hc17).2 (by decide) (by decide) ?_
    show oS p e below s₁ m 24 #[.val (.int pI1)] [] _
    refine XS.iloadN X0.here hx rfl (hb hby d8_24) rfl ?_
    refine XS.iconst X0.here hx rfl (hb hby d8_25) ?_
    refine XS.icmpYes X0.here hx rfl (pc0 := 26) (pc' := 33) rfl (hb hby d8_26) rfl (feq hc26).2 (by decide) (by decide) ?_
    refine st2 _ ?_
    show oS p e below T2 m 36 #[.val (.int pI1)] [(.ref pR953)] _
    exact retOut X2 hx Bd.returns rfl (Or.inr (Or.inr (Or.inr (Or.inr ⟨rfl, rfl, rfl⟩)))) (hb hby d8_36) hr
  · show Qref Z  h0 n0 _ T2.heap _
    rw [e2]
    exact ⟨pR953, rfl, N0, Keep.refl h0 []⟩
theorem comR (l : Launch) (Z : State) (a0 : Array Value) (hw : ∀ d ∈ tables_1, d.before a0 Z = true) (ws : List Jvm.Cond) (pI1 : Int32) (pR950 : Addr) (pR951 : Addr) (pR952 : Addr) (pR953 : Addr) (h0 : Heap) (n0 : Nat) (Z0 : n0 ≤ h0.size) (S_LabResults_Comparator_LESS : Sta Z h0 "com/example/pergamena/pergamena/build/LabResults$Comparator" "LESS" "Lcom/example/pergamena/pergamena/build/LabResults$Comparator;" (.ref pR950)) (S_LabResults_Comparator_AT_MOST : Sta Z h0 "com/example/pergamena/pergamena/build/LabResults$Comparator" "AT_MOST" "Lcom/example/pergamena/pergamena/build/LabResults$Comparator;" (.ref pR951)) (S_LabResults_Comparator_GREATER : Sta Z h0 "com/example/pergamena/pergamena/build/LabResults$Comparator" "GREATER" "Lcom/example/pergamena/pergamena/build/LabResults$Comparator;" (.ref pR952)) (S_LabResults_Comparator_AT_LEAST : Sta Z h0 "com/example/pergamena/pergamena/build/LabResults$Comparator" "AT_LEAST" "Lcom/example/pergamena/pergamena/build/LabResults$Comparator;" (.ref pR953)) (hc1 : ¬ (pI1 = (0 : Int32))) :
    oM l yN6 method_2_code 1 (some (.object "com/example/pergamena/pergamena/build/LabResults$Comparator")) ws ({ frames := 0, cells := 0, slots := 0, locals := 0 } : Room) #[(.int pI1)] Z h0 (Qref Z  h0 n0) := by
  by_cases h1 : pI1 = (1 : Int32)
  · exact com1 l Z a0 hw ws pI1 pR950 h0 n0 Z0 S_LabResults_Comparator_LESS hc1 h1
  · skip
    by_cases h2 : pI1 = (2 : Int32)
    · exact com2 l Z a0 hw ws pI1 pR951 h0 n0 Z0 S_LabResults_Comparator_AT_MOST hc1 h1 h2
    · skip
      by_cases h3 : pI1 = (3 : Int32)
      · exact com3 l Z a0 hw ws pI1 pR952 h0 n0 Z0 S_LabResults_Comparator_GREATER hc1 h1 h2 h3
      · skip
        exact com4 l Z a0 hw ws pI1 pR953 h0 n0 Z0 S_LabResults_Comparator_AT_LEAST hc1 h1 h2 h3
theorem d10_0 : decode jdk_30_method_1_code 0 = .ok (.aload_n 0, 1) := by decide +kernel
theorem d10_1 : decode jdk_30_method_1_code 1 = .ok (.invokespecial 1, 3) := by decide +kernel
theorem d10_4 : decode jdk_30_method_1_code 4 = .ok (.return_, 1) := by decide +kernel
theorem pn_3 : plainName "java/lang/Record" = true := by first | (simp [plainName, overriddenIn]; done) | decide +kernel
theorem ef_recI (m : MethodId) (pR1 : Addr) : entryFrame m #[(.ref pR1)] 1 = mkF m 0 #[.val (.ref pR1)] [] := by first | (simp [entryFrame, mkF, argsToLocals, Value.category]; done) | rfl
def QrecI (Z : State) (pR1 : Addr) (h0 : Heap) (n0 : Nat) (v : Option Value) (h : Heap) (L : List Loc) : Prop := v = none ∧ Fr n0 L ∧ h = h0
set_option maxRecDepth 65536 in
set_option maxHeartbeats 40000000 in
theorem recI (l : Launch) (Z : State) (a0 : Array Value) (hw : ∀ d ∈ tables_1, d.before a0 Z = true) (ws : List Jvm.Cond) (pR1 : Addr) (h0 : Heap) (n0 : Nat) (Z0 : n0 ≤ h0.size) :
    oM l yN7 jdk_30_method_1_code 1 none ws ({ frames := 1, cells := 0, slots := 0, locals := 12 } : Room) #[(.ref pR1)] Z h0 (QrecI Z pR1 h0 n0) := by
  refine MetFree.of_bodySF (plainFor_of_name pn_3) hisR ?_
  intro p e s m args below meth c s₁ Bd hml0 hP hK
  obtain ⟨rfl, hZ, hh⟩ := hP
  have hx := Bd.exec
  have hby := Bd.bytes
  have hml : c.maxLocals = 1 := hml0
  have hown : s.vm.findClass "java/lang/Record" = some m.cls := findClass_of_methodNamed Bd.named
  have hnm := (name_of_methodNamed Bd.named Bd.method).1
  have X0 : Stand p l e ({ frames := 1, cells := 0, slots := 0, locals := 12 } : Room) s m #[(.ref pR1)] below meth c s₁ [] 0 0 := Stand.of_body Bd
  have e0 : s₁.heap = h0 := by rw [← hh, Bd.state]; rfl
  have N0 := Fr.nil n0
  obtain ⟨T2, X2, e2, st2⟩ := initO X0 hx hZ hown (ow hw 49 rfl) (ow hw 13 rfl) (ow hw 14 rfl) e0 (g := (mkF m 1 #[.val (.ref pR1)] [(.ref pR1)])) rfl (by rw [hml]; rfl) rfl (hb hby d10_1) (by decide) (W := 0) (Nat.le_refl _) (by decide)
  obtain ⟨fs, hr, hrun, hended, hW, hsame⟩ := X2.leave (v := none) (fun _ => rfl)
  refine ⟨_, _, castTop (ef_recI m pR1) ?_, hrun, hended, _, _, rfl, ?_, ⟨_, rfl⟩, hW, hsame.mono (by decide) (by decide)⟩
  · show oS p e below s₁ m 0 #[.val (.ref pR1)] [] _
    refine XS.aloadN X0.here hx rfl (hb hby d10_0) rfl rfl ?_
    refine st2 _ ?_
    exact X2.returnOut hx Bd.returns (hb hby d10_4) hr
  · show QrecI Z pR1 h0 n0 _ T2.heap _
    rw [e2]
    exact ⟨rfl, N0, rfl⟩
theorem d9_0 : decode prog_18_method_1_code 0 = .ok (.aload_n 0, 1) := by decide +kernel
theorem d9_1 : decode prog_18_method_1_code 1 = .ok (.invokespecial 1, 3) := by decide +kernel
theorem pd_5 : parseMethodDescriptor "()V" = some ⟨[], none⟩ := by decide +kernel
theorem d9_4 : decode prog_18_method_1_code 4 = .ok (.aload_n 0, 1) := by decide +kernel
theorem d9_5 : decode prog_18_method_1_code 5 = .ok (.aload_n 1, 1) := by decide +kernel
theorem d9_6 : decode prog_18_method_1_code 6 = .ok (.putfield 7, 3) := by decide +kernel
theorem d9_9 : decode prog_18_method_1_code 9 = .ok (.aload_n 0, 1) := by decide +kernel
theorem d9_10 : decode prog_18_method_1_code 10 = .ok (.aload_n 2, 1) := by decide +kernel
theorem d9_11 : decode prog_18_method_1_code 11 = .ok (.putfield 13, 3) := by decide +kernel
theorem d9_14 : decode prog_18_method_1_code 14 = .ok (.aload_n 0, 1) := by decide +kernel
theorem d9_15 : decode prog_18_method_1_code 15 = .ok (.aload_n 3, 1) := by decide +kernel
theorem d9_16 : decode prog_18_method_1_code 16 = .ok (.putfield 17, 3) := by decide +kernel
theorem d9_19 : decode prog_18_method_1_code 19 = .ok (.aload_n 0, 1) := by decide +kernel
theorem d9_20 : decode prog_18_method_1_code 20 = .ok (.aload 4, 2) := by decide +kernel
theorem d9_22 : decode prog_18_method_1_code 22 = .ok (.putfield 20, 3) := by decide +kernel
theorem d9_25 : decode prog_18_method_1_code 25 = .ok (.aload_n 0, 1) := by decide +kernel
theorem d9_26 : decode prog_18_method_1_code 26 = .ok (.aload 5, 2) := by decide +kernel
theorem d9_28 : decode prog_18_method_1_code 28 = .ok (.putfield 23, 3) := by decide +kernel
theorem d9_31 : decode prog_18_method_1_code 31 = .ok (.return_, 1) := by decide +kernel
theorem pn_4 : plainName "com/example/pergamena/pergamena/build/LabResults$Quantity" = true := by first | (simp [plainName, overriddenIn]; done) | decide +kernel
theorem ef_qNNN (m : MethodId) (pR1 : Addr) (pR2 : Addr) (pR3 : Addr) : entryFrame m #[(.ref pR1), .null, (.ref pR2), (.ref pR3), .null, .null] 6 = mkF m 0 #[.val (.ref pR1), .val .null, .val (.ref pR2), .val (.ref pR3), .val .null, .val .null] [] := by first | (simp [entryFrame, mkF, argsToLocals, Value.category]; done) | rfl
def QqNNN (Z : State) (pR1 : Addr) (pR2 : Addr) (pR3 : Addr) (h0 : Heap) (n0 : Nat) (v : Option Value) (h : Heap) (L : List Loc) : Prop := v = none ∧ Fr n0 L ∧ Keep h0 h [pR1] ∧ Exa Z h pR1 "com/example/pergamena/pergamena/build/LabResults$Quantity" ∧ Fld Z h pR1 "com/example/pergamena/pergamena/build/LabResults$Quantity" "comparator" "Lcom/example/pergamena/pergamena/build/LabResults$Comparator;" .null ∧ Fld Z h pR1 "com/example/pergamena/pergamena/build/LabResults$Quantity" "number" "Ljava/lang/String;" (.ref pR2) ∧ Fld Z h pR1 "com/example/pergamena/pergamena/build/LabResults$Quantity" "unit" "Ljava/lang/String;" (.ref pR3) ∧ Fld Z h pR1 "com/example/pergamena/pergamena/build/LabResults$Quantity" "low" "Ljava/lang/String;" .null ∧ Fld Z h pR1 "com/example/pergamena/pergamena/build/LabResults$Quantity" "high" "Ljava/lang/String;" .null
set_option maxRecDepth 65536 in
set_option maxHeartbeats 40000000 in
theorem qNNN (l : Launch) (Z : State) (a0 : Array Value) (hw : ∀ d ∈ tables_1, d.before a0 Z = true) (ws : List Jvm.Cond) (pR1 : Addr) (pR2 : Addr) (pR3 : Addr) (h0 : Heap) (n0 : Nat) (Z0 : n0 ≤ h0.size) (E_pR1 : Exa Z h0 pR1 "com/example/pergamena/pergamena/build/LabResults$Quantity") (F_comparator_pR1 : Fld Z h0 pR1 "com/example/pergamena/pergamena/build/LabResults$Quantity" "comparator" "Lcom/example/pergamena/pergamena/build/LabResults$Comparator;" .null) (g_pR1 : n0 ≤ pR1) (F_number_pR1 : Fld Z h0 pR1 "com/example/pergamena/pergamena/build/LabResults$Quantity" "number" "Ljava/lang/String;" .null) (F_unit_pR1 : Fld Z h0 pR1 "com/example/pergamena/pergamena/build/LabResults$Quantity" "unit" "Ljava/lang/String;" .null) (F_low_pR1 : Fld Z h0 pR1 "com/example/pergamena/pergamena/build/LabResults$Quantity" "low" "Ljava/lang/String;" .null) (F_high_pR1 : Fld Z h0 pR1 "com/example/pergamena/pergamena/build/LabResults$Quantity" "high" "Ljava/lang/String;" .null) :
    oM l yN8 prog_18_method_1_code 6 none ws ({ frames := 2, cells := 0, slots := 0, locals := 24 } : Room) #[(.ref pR1), .null, (.ref pR2), (.ref pR3), .null, .null] Z h0 (QqNNN Z pR1 pR2 pR3 h0 n0) := by
  refine MetFree.of_bodySF (plainFor_of_name pn_4) hisR ?_
  intro p e s m args below meth c s₁ Bd hml0 hP hK
  obtain ⟨rfl, hZ, hh⟩ := hP
  have hx := Bd.exec
  have hby := Bd.bytes
  have hml : c.maxLocals = 6 := hml0
  have hown : s.vm.findClass "com/example/pergamena/pergamena/build/LabResults$Quantity" = some m.cls := findClass_of_methodNamed Bd.named
  have hnm := (name_of_methodNamed Bd.named Bd.method).1
  have X0 : Stand p l e ({ frames := 2, cells := 0, slots := 0, locals := 24 } : Room) s m #[(.ref pR1), .null, (.ref pR2), (.ref pR3), .null, .null] below meth c s₁ [] 0 0 := Stand.of_body Bd
  have e0 : s₁.heap = h0 := by rw [← hh, Bd.state]; rfl
  have N0 := Fr.nil n0
  obtain ⟨_, _, ⟨T4, L4, k4, n4⟩, -, X4, ⟨Lc4, hQ4, l4, y4, z4⟩, st4⟩ := X0.specialBack hx (y := yN7) rfl hown (mvT hZ (ow hw 44 rfl)) (mvT hZ (ow hw 45 rfl)) (mvT hZ (ow hw 48 rfl)) (by decide) (backOf (W := 0) (recI l Z a0 hw [] pR1 h0 n0 Z0 ) hZ (ow hw 48 rfl) (ow hw 47 rfl) (by decide) (by decide)) (g := (mkF m 1 #[.val (.ref pR1), .val .null, .val (.ref pR2), .val (.ref pR3), .val .null, .val .null] [(.ref pR1)])) rfl (by rw [hml]; rfl) (Steps.refl _) (a := pR1) (argsL := []) (rest := []) (lenOf pd_5 rfl) rfl (Nat.le_refl _) (hb hby d9_1) (fun _ _ => ⟨rfl, e0, (by decide : 0 + 0 ≤ _), (by decide : 0 + 0 ≤ _)⟩)
  dsimp only [Pt.U, Pt.locs, Pt.cells, Pt.slots] at X4 l4 y4 z4 st4 hQ4
  subst l4 y4 z4
  obtain ⟨rfl, Nq4, e4⟩ := hQ4
  have N4 := Fr.app N0 Nq4
  obtain ⟨T5, h5, X5, e5, W5, st5⟩ := putF X4 hx hZ hown (host := "") (Or.inl (ow hw 50 rfl)) Via.refl e4 F_comparator_pR1 E_pR1 (Or.inr ⟨(ow hw 51 rfl), rfl, hnm⟩) (ow hw 36 rfl) (ty := (.object "com/example/pergamena/pergamena/build/LabResults$Comparator")) (by decide) rfl rfl (g := (mkF m 6 #[.val (.ref pR1), .val .null, .val (.ref pR2), .val (.ref pR3), .val .null, .val .null] [.null, (.ref pR1)])) rfl rfl (hb hby d9_6)
  have K6 : Keep h0 h5 [pR1] := (Keep.refl h0 [pR1]).wr W5 (Or.inl (List.mem_of_getElem? (i := 0) rfl))
  have Z7 : n0 ≤ h5.size := (Nat.le_trans Z0 (Keep.of_wr W5).1)
  have N5 := Fr.snoc X5 N4 g_pR1
  obtain ⟨Lh5, X5, N5⟩ := own_hide X5 N5
  have F5 : Fld Z h5 pR1 "com/example/pergamena/pergamena/build/LabResults$Quantity" "comparator" "Lcom/example/pergamena/pergamena/build/LabResults$Comparator;" .null := Fld.same W5 F_comparator_pR1
  have c8 : Fld Z h5 pR1 "com/example/pergamena/pergamena/build/LabResults$Quantity" "number" "Ljava/lang/String;" .null := F_number_pR1.other W5 (Or.inr (slot_ne (Or.inr (ow hw 53 rfl)) (Or.inr (ow hw 51 rfl)) (by decide) (t := (.object "java/lang/String")) (t' := (.object "com/example/pergamena/pergamena/build/LabResults$Comparator")) (by decide) (by decide)))
  have c9 : Exa Z h5 pR1 "com/example/pergamena/pergamena/build/LabResults$Quantity" := E_pR1.wr W5
  obtain ⟨T10, h10, X10, e10, W10, st10⟩ := putF X5 hx hZ hown (host := "") (Or.inl (ow hw 52 rfl)) Via.refl e5 c8 c9 (Or.inr ⟨(ow hw 53 rfl), rfl, hnm⟩) (ow hw 36 rfl) (ty := (.object "java/lang/String")) (by decide) rfl rfl (g := (mkF m 11 #[.val (.ref pR1), .val .null, .val (.ref pR2), .val (.ref pR3), .val .null, .val .null] [(.ref pR2), (.ref pR1)])) rfl rfl (hb hby d9_11)
  have K11 : Keep h0 h10 [pR1] := K6.wr W10 (Or.inl (List.mem_of_getElem? (i := 0) rfl))
  have Z12 : n0 ≤ h10.size := (Nat.le_trans Z7 (Keep.of_wr W10).1)
  have N10 := Fr.snoc X10 N5 g_pR1
  obtain ⟨Lh10, X10, N10⟩ := own_hide X10 N10
  have F10 : Fld Z h10 pR1 "com/example/pergamena/pergamena/build/LabResults$Quantity" "number" "Ljava/lang/String;" (.ref pR2) := Fld.same W10 c8
  have c13 : Fld Z h5 pR1 "com/example/pergamena/pergamena/build/LabResults$Quantity" "unit" "Ljava/lang/String;" .null := F_unit_pR1.other W5 (Or.inr (slot_ne (Or.inr (ow hw 55 rfl)) (Or.inr (ow hw 51 rfl)) (by decide) (t := (.object "java/lang/String")) (t' := (.object "com/example/pergamena/pergamena/build/LabResults$Comparator")) (by decide) (by decide)))
  have c14 : Fld Z h10 pR1 "com/example/pergamena/pergamena/build/LabResults$Quantity" "unit" "Ljava/lang/String;" .null := c13.other W10 (Or.inr (slot_ne (Or.inr (ow hw 55 rfl)) (Or.inr (ow hw 53 rfl)) (by decide) (t := (.object "java/lang/String")) (t' := (.object "java/lang/String")) (by decide) (by decide)))
  have c15 : Exa Z h10 pR1 "com/example/pergamena/pergamena/build/LabResults$Quantity" := c9.wr W10
  obtain ⟨T16, h16, X16, e16, W16, st16⟩ := putF X10 hx hZ hown (host := "") (Or.inl (ow hw 54 rfl)) Via.refl e10 c14 c15 (Or.inr ⟨(ow hw 55 rfl), rfl, hnm⟩) (ow hw 36 rfl) (ty := (.object "java/lang/String")) (by decide) rfl rfl (g := (mkF m 16 #[.val (.ref pR1), .val .null, .val (.ref pR2), .val (.ref pR3), .val .null, .val .null] [(.ref pR3), (.ref pR1)])) rfl rfl (hb hby d9_16)
  have K17 : Keep h0 h16 [pR1] := K11.wr W16 (Or.inl (List.mem_of_getElem? (i := 0) rfl))
  have Z18 : n0 ≤ h16.size := (Nat.le_trans Z12 (Keep.of_wr W16).1)
  have N16 := Fr.snoc X16 N10 g_pR1
  obtain ⟨Lh16, X16, N16⟩ := own_hide X16 N16
  have F16 : Fld Z h16 pR1 "com/example/pergamena/pergamena/build/LabResults$Quantity" "unit" "Ljava/lang/String;" (.ref pR3) := Fld.same W16 c14
  have c19 : Fld Z h5 pR1 "com/example/pergamena/pergamena/build/LabResults$Quantity" "low" "Ljava/lang/String;" .null := F_low_pR1.other W5 (Or.inr (slot_ne (Or.inr (ow hw 57 rfl)) (Or.inr (ow hw 51 rfl)) (by decide) (t := (.object "java/lang/String")) (t' := (.object "com/example/pergamena/pergamena/build/LabResults$Comparator")) (by decide) (by decide)))
  have c20 : Fld Z h10 pR1 "com/example/pergamena/pergamena/build/LabResults$Quantity" "low" "Ljava/lang/String;" .null := c19.other W10 (Or.inr (slot_ne (Or.inr (ow hw 57 rfl)) (Or.inr (ow hw 53 rfl)) (by decide) (t := (.object "java/lang/String")) (t' := (.object "java/lang/String")) (by decide) (by decide)))
  have c21 : Fld Z h16 pR1 "com/example/pergamena/pergamena/build/LabResults$Quantity" "low" "Ljava/lang/String;" .null := c20.other W16 (Or.inr (slot_ne (Or.inr (ow hw 57 rfl)) (Or.inr (ow hw 55 rfl)) (by decide) (t := (.object "java/lang/String")) (t' := (.object "java/lang/String")) (by decide) (by decide)))
  have c22 : Exa Z h16 pR1 "com/example/pergamena/pergamena/build/LabResults$Quantity" := c15.wr W16
  obtain ⟨T23, h23, X23, e23, W23, st23⟩ := putF X16 hx hZ hown (host := "") (Or.inl (ow hw 56 rfl)) Via.refl e16 c21 c22 (Or.inr ⟨(ow hw 57 rfl), rfl, hnm⟩) (ow hw 36 rfl) (ty := (.object "java/lang/String")) (by decide) rfl rfl (g := (mkF m 22 #[.val (.ref pR1), .val .null, .val (.ref pR2), .val (.ref pR3), .val .null, .val .null] [.null, (.ref pR1)])) rfl rfl (hb hby d9_22)
  have K24 : Keep h0 h23 [pR1] := K17.wr W23 (Or.inl (List.mem_of_getElem? (i := 0) rfl))
  have Z25 : n0 ≤ h23.size := (Nat.le_trans Z18 (Keep.of_wr W23).1)
  have N23 := Fr.snoc X23 N16 g_pR1
  obtain ⟨Lh23, X23, N23⟩ := own_hide X23 N23
  have F23 : Fld Z h23 pR1 "com/example/pergamena/pergamena/build/LabResults$Quantity" "low" "Ljava/lang/String;" .null := Fld.same W23 c21
  have c26 : Fld Z h5 pR1 "com/example/pergamena/pergamena/build/LabResults$Quantity" "high" "Ljava/lang/String;" .null := F_high_pR1.other W5 (Or.inr (slot_ne (Or.inr (ow hw 59 rfl)) (Or.inr (ow hw 51 rfl)) (by decide) (t := (.object "java/lang/String")) (t' := (.object "com/example/pergamena/pergamena/build/LabResults$Comparator")) (by decide) (by decide)))
  have c27 : Fld Z h10 pR1 "com/example/pergamena/pergamena/build/LabResults$Quantity" "high" "Ljava/lang/String;" .null := c26.other W10 (Or.inr (slot_ne (Or.inr (ow hw 59 rfl)) (Or.inr (ow hw 53 rfl)) (by decide) (t := (.object "java/lang/String")) (t' := (.object "java/lang/String")) (by decide) (by decide)))
  have c28 : Fld Z h16 pR1 "com/example/pergamena/pergamena/build/LabResults$Quantity" "high" "Ljava/lang/String;" .null := c27.other W16 (Or.inr (slot_ne (Or.inr (ow hw 59 rfl)) (Or.inr (ow hw 55 rfl)) (by decide) (t := (.object "java/lang/String")) (t' := (.object "java/lang/String")) (by decide) (by decide)))
  have c29 : Fld Z h23 pR1 "com/example/pergamena/pergamena/build/LabResults$Quantity" "high" "Ljava/lang/String;" .null := c28.other W23 (Or.inr (slot_ne (Or.inr (ow hw 59 rfl)) (Or.inr (ow hw 57 rfl)) (by decide) (t := (.object "java/lang/String")) (t' := (.object "java/lang/String")) (by decide) (by decide)))
  have c30 : Exa Z h23 pR1 "com/example/pergamena/pergamena/build/LabResults$Quantity" := c22.wr W23
  obtain ⟨T31, h31, X31, e31, W31, st31⟩ := putF X23 hx hZ hown (host := "") (Or.inl (ow hw 58 rfl)) Via.refl e23 c29 c30 (Or.inr ⟨(ow hw 59 rfl), rfl, hnm⟩) (ow hw 36 rfl) (ty := (.object "java/lang/String")) (by decide) rfl rfl (g := (mkF m 28 #[.val (.ref pR1), .val .null, .val (.ref pR2), .val (.ref pR3), .val .null, .val .null] [.null, (.ref pR1)])) rfl rfl (hb hby d9_28)
  have K32 : Keep h0 h31 [pR1] := K24.wr W31 (Or.inl (List.mem_of_getElem? (i := 0) rfl))
  have Z33 : n0 ≤ h31.size := (Nat.le_trans Z25 (Keep.of_wr W31).1)
  have N31 := Fr.snoc X31 N23 g_pR1
  obtain ⟨Lh31, X31, N31⟩ := own_hide X31 N31
  have F31 : Fld Z h31 pR1 "com/example/pergamena/pergamena/build/LabResults$Quantity" "high" "Ljava/lang/String;" .null := Fld.same W31 c29
  have c34 : Exa Z h31 pR1 "com/example/pergamena/pergamena/build/LabResults$Quantity" := c30.wr W31
  have c35 : Fld Z h10 pR1 "com/example/pergamena/pergamena/build/LabResults$Quantity" "comparator" "Lcom/example/pergamena/pergamena/build/LabResults$Comparator;" .null := F5.other W10 (Or.inr (slot_ne (Or.inr (ow hw 51 rfl)) (Or.inr (ow hw 53 rfl)) (by decide) (t := (.object "com/example/pergamena/pergamena/build/LabResults$Comparator")) (t' := (.object "java/lang/String")) (by decide) (by decide)))
  have c36 : Fld Z h16 pR1 "com/example/pergamena/pergamena/build/LabResults$Quantity" "comparator" "Lcom/example/pergamena/pergamena/build/LabResults$Comparator;" .null := c35.other W16 (Or.inr (slot_ne (Or.inr (ow hw 51 rfl)) (Or.inr (ow hw 55 rfl)) (by decide) (t := (.object "com/example/pergamena/pergamena/build/LabResults$Comparator")) (t' := (.object "java/lang/String")) (by decide) (by decide)))
  have c37 : Fld Z h23 pR1 "com/example/pergamena/pergamena/build/LabResults$Quantity" "comparator" "Lcom/example/pergamena/pergamena/build/LabResults$Comparator;" .null := c36.other W23 (Or.inr (slot_ne (Or.inr (ow hw 51 rfl)) (Or.inr (ow hw 57 rfl)) (by decide) (t := (.object "com/example/pergamena/pergamena/build/LabResults$Comparator")) (t' := (.object "java/lang/String")) (by decide) (by decide)))
  have c38 : Fld Z h31 pR1 "com/example/pergamena/pergamena/build/LabResults$Quantity" "comparator" "Lcom/example/pergamena/pergamena/build/LabResults$Comparator;" .null := c37.other W31 (Or.inr (slot_ne (Or.inr (ow hw 51 rfl)) (Or.inr (ow hw 59 rfl)) (by decide) (t := (.object "com/example/pergamena/pergamena/build/LabResults$Comparator")) (t' := (.object "java/lang/String")) (by decide) (by decide)))
  have c39 : Fld Z h16 pR1 "com/example/pergamena/pergamena/build/LabResults$Quantity" "number" "Ljava/lang/String;" (.ref pR2) := F10.other W16 (Or.inr (slot_ne (Or.inr (ow hw 53 rfl)) (Or.inr (ow hw 55 rfl)) (by decide) (t := (.object "java/lang/String")) (t' := (.object "java/lang/String")) (by decide) (by decide)))
  have c40 : Fld Z h23 pR1 "com/example/pergamena/pergamena/build/LabResults$Quantity" "number" "Ljava/lang/String;" (.ref pR2) := c39.other W23 (Or.inr (slot_ne (Or.inr (ow hw 53 rfl)) (Or.inr (ow hw 57 rfl)) (by decide) (t := (.object "java/lang/String")) (t' := (.object "java/lang/String")) (by decide) (by decide)))
  have c41 : Fld Z h31 pR1 "com/example/pergamena/pergamena/build/LabResults$Quantity" "number" "Ljava/lang/String;" (.ref pR2) := c40.other W31 (Or.inr (slot_ne (Or.inr (ow hw 53 rfl)) (Or.inr (ow hw 59 rfl)) (by decide) (t := (.object "java/lang/String")) (t' := (.object "java/lang/String")) (by decide) (by decide)))
  have c42 : Fld Z h23 pR1 "com/example/pergamena/pergamena/build/LabResults$Quantity" "unit" "Ljava/lang/String;" (.ref pR3) := F16.other W23 (Or.inr (slot_ne (Or.inr (ow hw 55 rfl)) (Or.inr (ow hw 57 rfl)) (by decide) (t := (.object "java/lang/String")) (t' := (.object "java/lang/String")) (by decide) (by decide)))
  have c43 : Fld Z h31 pR1 "com/example/pergamena/pergamena/build/LabResults$Quantity" "unit" "Ljava/lang/String;" (.ref pR3) := c42.other W31 (Or.inr (slot_ne (Or.inr (ow hw 55 rfl)) (Or.inr (ow hw 59 rfl)) (by decide) (t := (.object "java/lang/String")) (t' := (.object "java/lang/String")) (by decide) (by decide)))
  have c44 : Fld Z h31 pR1 "com/example/pergamena/pergamena/build/LabResults$Quantity" "low" "Ljava/lang/String;" .null := F23.other W31 (Or.inr (slot_ne (Or.inr (ow hw 57 rfl)) (Or.inr (ow hw 59 rfl)) (by decide) (t := (.object "java/lang/String")) (t' := (.object "java/lang/String")) (by decide) (by decide)))
  obtain ⟨fs, hr, hrun, hended, hW, hsame⟩ := X31.leave (v := none) (fun _ => rfl)
  refine ⟨_, _, castTop (ef_qNNN m pR1 pR2 pR3) ?_, hrun, hended, _, _, rfl, ?_, ⟨_, rfl⟩, hW, hsame.mono (by decide) (by decide)⟩
  · show oS p e below s₁ m 0 #[.val (.ref pR1), .val .null, .val (.ref pR2), .val (.ref pR3), .val .null, .val .null] [] _
    refine XS.aloadN X0.here hx rfl (hb hby d9_0) rfl rfl ?_
    refine st4.trans ?_
    refine XS.aloadN X4.here hx rfl (hb hby d9_4) rfl rfl ?_
    refine XS.aloadN X4.here hx rfl (hb hby d9_5) rfl rfl ?_
    show oS p e below T4 m 6 #[.val (.ref pR1), .val .null, .val (.ref pR2), .val (.ref pR3), .val .null, .val .null] [.null, (.ref pR1)] _
    refine st5 _ ?_
    refine XS.aloadN X5.here hx rfl (hb hby d9_9) rfl rfl ?_
    refine XS.aloadN X5.here hx rfl (hb hby d9_10) rfl rfl ?_
    refine st10 _ ?_
    show oS p e below T10 m 14 #[.val (.ref pR1), .val .null, .val (.ref pR2), .val (.ref pR3), .val .null, .val .null] [] _
    refine XS.aloadN X10.here hx rfl (hb hby d9_14) rfl rfl ?_
    refine XS.aloadN X10.here hx rfl (hb hby d9_15) rfl rfl ?_
    refine st16 _ ?_
    refine XS.aloadN X16.here hx rfl (hb hby d9_19) rfl rfl ?_
    show oS p e below T16 m 20 #[.val (.ref pR1), .val .null, .val (.ref pR2), .val (.ref pR3), .val .null, .val .null] [(.ref pR1)] _
    refine XS.aload X16.here hx rfl (hb hby d9_20) rfl rfl ?_
    refine st23 _ ?_
    refine XS.aloadN X23.here hx rfl (hb hby d9_25) rfl rfl ?_
    refine XS.aload X23.here hx rfl (hb hby d9_26) rfl rfl ?_
    show oS p e below T23 m 28 #[.val (.ref pR1), .val .null, .val (.ref pR2), .val (.ref pR3), .val .null, .val .null] [.null, (.ref pR1)] _
    refine st31 _ ?_
    exact X31.returnOut hx Bd.returns (hb hby d9_31) hr
  · show QqNNN Z pR1 pR2 pR3 h0 n0 _ T31.heap _
    rw [e31]
    exact ⟨rfl, N31, K32, c34, c38, c41, c43, c44, F31⟩
theorem ef_qNNR (m : MethodId) (pR1 : Addr) (pR2 : Addr) (pR3 : Addr) (pR4 : Addr) : entryFrame m #[(.ref pR1), .null, (.ref pR2), (.ref pR3), .null, (.ref pR4)] 6 = mkF m 0 #[.val (.ref pR1), .val .null, .val (.ref pR2), .val (.ref pR3), .val .null, .val (.ref pR4)] [] := by first | (simp [entryFrame, mkF, argsToLocals, Value.category]; done) | rfl
def QqNNR (Z : State) (pR1 : Addr) (pR2 : Addr) (pR3 : Addr) (pR4 : Addr) (h0 : Heap) (n0 : Nat) (v : Option Value) (h : Heap) (L : List Loc) : Prop := v = none ∧ Fr n0 L ∧ Keep h0 h [pR1] ∧ Exa Z h pR1 "com/example/pergamena/pergamena/build/LabResults$Quantity" ∧ Fld Z h pR1 "com/example/pergamena/pergamena/build/LabResults$Quantity" "comparator" "Lcom/example/pergamena/pergamena/build/LabResults$Comparator;" .null ∧ Fld Z h pR1 "com/example/pergamena/pergamena/build/LabResults$Quantity" "number" "Ljava/lang/String;" (.ref pR2) ∧ Fld Z h pR1 "com/example/pergamena/pergamena/build/LabResults$Quantity" "unit" "Ljava/lang/String;" (.ref pR3) ∧ Fld Z h pR1 "com/example/pergamena/pergamena/build/LabResults$Quantity" "low" "Ljava/lang/String;" .null ∧ Fld Z h pR1 "com/example/pergamena/pergamena/build/LabResults$Quantity" "high" "Ljava/lang/String;" (.ref pR4)
set_option maxRecDepth 65536 in
set_option maxHeartbeats 40000000 in
theorem qNNR (l : Launch) (Z : State) (a0 : Array Value) (hw : ∀ d ∈ tables_1, d.before a0 Z = true) (ws : List Jvm.Cond) (pR1 : Addr) (pR2 : Addr) (pR3 : Addr) (pR4 : Addr) (h0 : Heap) (n0 : Nat) (Z0 : n0 ≤ h0.size) (E_pR1 : Exa Z h0 pR1 "com/example/pergamena/pergamena/build/LabResults$Quantity") (F_comparator_pR1 : Fld Z h0 pR1 "com/example/pergamena/pergamena/build/LabResults$Quantity" "comparator" "Lcom/example/pergamena/pergamena/build/LabResults$Comparator;" .null) (g_pR1 : n0 ≤ pR1) (F_number_pR1 : Fld Z h0 pR1 "com/example/pergamena/pergamena/build/LabResults$Quantity" "number" "Ljava/lang/String;" .null) (F_unit_pR1 : Fld Z h0 pR1 "com/example/pergamena/pergamena/build/LabResults$Quantity" "unit" "Ljava/lang/String;" .null) (F_low_pR1 : Fld Z h0 pR1 "com/example/pergamena/pergamena/build/LabResults$Quantity" "low" "Ljava/lang/String;" .null) (F_high_pR1 : Fld Z h0 pR1 "com/example/pergamena/pergamena/build/LabResults$Quantity" "high" "Ljava/lang/String;" .null) :
    oM l yN8 prog_18_method_1_code 6 none ws ({ frames := 2, cells := 0, slots := 0, locals := 24 } : Room) #[(.ref pR1), .null, (.ref pR2), (.ref pR3), .null, (.ref pR4)] Z h0 (QqNNR Z pR1 pR2 pR3 pR4 h0 n0) := by
  refine MetFree.of_bodySF (plainFor_of_name pn_4) hisR ?_
  intro p e s m args below meth c s₁ Bd hml0 hP hK
  obtain ⟨rfl, hZ, hh⟩ := hP
  have hx := Bd.exec
  have hby := Bd.bytes
  have hml : c.maxLocals = 6 := hml0
  have hown : s.vm.findClass "com/example/pergamena/pergamena/build/LabResults$Quantity" = some m.cls := findClass_of_methodNamed Bd.named
  have hnm := (name_of_methodNamed Bd.named Bd.method).1
  have X0 : Stand p l e ({ frames := 2, cells := 0, slots := 0, locals := 24 } : Room) s m #[(.ref pR1), .null, (.ref pR2), (.ref pR3), .null, (.ref pR4)] below meth c s₁ [] 0 0 := Stand.of_body Bd
  have e0 : s₁.heap = h0 := by rw [← hh, Bd.state]; rfl
  have N0 := Fr.nil n0
  obtain ⟨_, _, ⟨T5, L5, k5, n5⟩, -, X5, ⟨Lc5, hQ5, l5, y5, z5⟩, st5⟩ := X0.specialBack hx (y := yN7) rfl hown (mvT hZ (ow hw 44 rfl)) (mvT hZ (ow hw 45 rfl)) (mvT hZ (ow hw 48 rfl)) (by decide) (backOf (W := 0) (recI l Z a0 hw [] pR1 h0 n0 Z0 ) hZ (ow hw 48 rfl) (ow hw 47 rfl) (by decide) (by decide)) (g := (mkF m 1 #[.val (.ref pR1), .val .null, .val (.ref pR2), .val (.ref pR3), .val .null, .val (.ref pR4)] [(.ref pR1)])) rfl (by rw [hml]; rfl) (Steps.refl _) (a := pR1) (argsL := []) (rest := []) (lenOf pd_5 rfl) rfl (Nat.le_refl _) (hb hby d9_1) (fun _ _ => ⟨rfl, e0, (by decide : 0 + 0 ≤ _), (by decide : 0 + 0 ≤ _)⟩)
  dsimp only [Pt.U, Pt.locs, Pt.cells, Pt.slots] at X5 l5 y5 z5 st5 hQ5
  subst l5 y5 z5
  obtain ⟨rfl, Nq5, e5⟩ := hQ5
  have N5 := Fr.app N0 Nq5
  obtain ⟨T6, h6, X6, e6, W6, st6⟩ := putF X5 hx hZ hown (host := "") (Or.inl (ow hw 50 rfl)) Via.refl e5 F_comparator_pR1 E_pR1 (Or.inr ⟨(ow hw 51 rfl), rfl, hnm⟩) (ow hw 36 rfl) (ty := (.object "com/example/pergamena/pergamena/build/LabResults$Comparator")) (by decide) rfl rfl (g := (mkF m 6 #[.val (.ref pR1), .val .null, .val (.ref pR2), .val (.ref pR3), .val .null, .val (.ref pR4)] [.null, (.ref pR1)])) rfl rfl (hb hby d9_6)
  have K7 : Keep h0 h6 [pR1] := (Keep.refl h0 [pR1]).wr W6 (Or.inl (List.mem_of_getElem? (i := 0) rfl))
  have Z8 : n0 ≤ h6.size := (Nat.le_trans Z0 (Keep.of_wr W6).1)
  have N6 := Fr.snoc X6 N5 g_pR1
  obtain ⟨Lh6, X6, N6⟩ := own_hide X6 N6
  have F6 : Fld Z h6 pR1 "com/example/pergamena/pergamena/build/LabResults$Quantity" "comparator" "Lcom/example/pergamena/pergamena/build/LabResults$Comparator;" .null := Fld.same W6 F_comparator_pR1
  have c9 : Fld Z h6 pR1 "com/example/pergamena/pergamena/build/LabResults$Quantity" "number" "Ljava/lang/String;" .null := F_number_pR1.other W6 (Or.inr (slot_ne (Or.inr (ow hw 53 rfl)) (Or.inr (ow hw 51 rfl)) (by decide) (t := (.object "java/lang/String")) (t' := (.object "com/example/pergamena/pergamena/build/LabResults$Comparator")) (by decide) (by decide)))
  have c10 : Exa Z h6 pR1 "com/example/pergamena/pergamena/build/LabResults$Quantity" := E_pR1.wr W6
  obtain ⟨T11, h11, X11, e11, W11, st11⟩ := putF X6 hx hZ hown (host := "") (Or.inl (ow hw 52 rfl)) Via.refl e6 c9 c10 (Or.inr ⟨(ow hw 53 rfl), rfl, hnm⟩) (ow hw 36 rfl) (ty := (.object "java/lang/String")) (by decide) rfl rfl (g := (mkF m 11 #[.val (.ref pR1), .val .null, .val (.ref pR2), .val (.ref pR3), .val .null, .val (.ref pR4)] [(.ref pR2), (.ref pR1)])) rfl rfl (hb hby d9_11)
  have K12 : Keep h0 h11 [pR1] := K7.wr W11 (Or.inl (List.mem_of_getElem? (i := 0) rfl))
  have Z13 : n0 ≤ h11.size := (Nat.le_trans Z8 (Keep.of_wr W11).1)
  have N11 := Fr.snoc X11 N6 g_pR1
  obtain ⟨Lh11, X11, N11⟩ := own_hide X11 N11
  have F11 : Fld Z h11 pR1 "com/example/pergamena/pergamena/build/LabResults$Quantity" "number" "Ljava/lang/String;" (.ref pR2) := Fld.same W11 c9
  have c14 : Fld Z h6 pR1 "com/example/pergamena/pergamena/build/LabResults$Quantity" "unit" "Ljava/lang/String;" .null := F_unit_pR1.other W6 (Or.inr (slot_ne (Or.inr (ow hw 55 rfl)) (Or.inr (ow hw 51 rfl)) (by decide) (t := (.object "java/lang/String")) (t' := (.object "com/example/pergamena/pergamena/build/LabResults$Comparator")) (by decide) (by decide)))
  have c15 : Fld Z h11 pR1 "com/example/pergamena/pergamena/build/LabResults$Quantity" "unit" "Ljava/lang/String;" .null := c14.other W11 (Or.inr (slot_ne (Or.inr (ow hw 55 rfl)) (Or.inr (ow hw 53 rfl)) (by decide) (t := (.object "java/lang/String")) (t' := (.object "java/lang/String")) (by decide) (by decide)))
  have c16 : Exa Z h11 pR1 "com/example/pergamena/pergamena/build/LabResults$Quantity" := c10.wr W11
  obtain ⟨T17, h17, X17, e17, W17, st17⟩ := putF X11 hx hZ hown (host := "") (Or.inl (ow hw 54 rfl)) Via.refl e11 c15 c16 (Or.inr ⟨(ow hw 55 rfl), rfl, hnm⟩) (ow hw 36 rfl) (ty := (.object "java/lang/String")) (by decide) rfl rfl (g := (mkF m 16 #[.val (.ref pR1), .val .null, .val (.ref pR2), .val (.ref pR3), .val .null, .val (.ref pR4)] [(.ref pR3), (.ref pR1)])) rfl rfl (hb hby d9_16)
  have K18 : Keep h0 h17 [pR1] := K12.wr W17 (Or.inl (List.mem_of_getElem? (i := 0) rfl))
  have Z19 : n0 ≤ h17.size := (Nat.le_trans Z13 (Keep.of_wr W17).1)
  have N17 := Fr.snoc X17 N11 g_pR1
  obtain ⟨Lh17, X17, N17⟩ := own_hide X17 N17
  have F17 : Fld Z h17 pR1 "com/example/pergamena/pergamena/build/LabResults$Quantity" "unit" "Ljava/lang/String;" (.ref pR3) := Fld.same W17 c15
  have c20 : Fld Z h6 pR1 "com/example/pergamena/pergamena/build/LabResults$Quantity" "low" "Ljava/lang/String;" .null := F_low_pR1.other W6 (Or.inr (slot_ne (Or.inr (ow hw 57 rfl)) (Or.inr (ow hw 51 rfl)) (by decide) (t := (.object "java/lang/String")) (t' := (.object "com/example/pergamena/pergamena/build/LabResults$Comparator")) (by decide) (by decide)))
  have c21 : Fld Z h11 pR1 "com/example/pergamena/pergamena/build/LabResults$Quantity" "low" "Ljava/lang/String;" .null := c20.other W11 (Or.inr (slot_ne (Or.inr (ow hw 57 rfl)) (Or.inr (ow hw 53 rfl)) (by decide) (t := (.object "java/lang/String")) (t' := (.object "java/lang/String")) (by decide) (by decide)))
  have c22 : Fld Z h17 pR1 "com/example/pergamena/pergamena/build/LabResults$Quantity" "low" "Ljava/lang/String;" .null := c21.other W17 (Or.inr (slot_ne (Or.inr (ow hw 57 rfl)) (Or.inr (ow hw 55 rfl)) (by decide) (t := (.object "java/lang/String")) (t' := (.object "java/lang/String")) (by decide) (by decide)))
  have c23 : Exa Z h17 pR1 "com/example/pergamena/pergamena/build/LabResults$Quantity" := c16.wr W17
  obtain ⟨T24, h24, X24, e24, W24, st24⟩ := putF X17 hx hZ hown (host := "") (Or.inl (ow hw 56 rfl)) Via.refl e17 c22 c23 (Or.inr ⟨(ow hw 57 rfl), rfl, hnm⟩) (ow hw 36 rfl) (ty := (.object "java/lang/String")) (by decide) rfl rfl (g := (mkF m 22 #[.val (.ref pR1), .val .null, .val (.ref pR2), .val (.ref pR3), .val .null, .val (.ref pR4)] [.null, (.ref pR1)])) rfl rfl (hb hby d9_22)
  have K25 : Keep h0 h24 [pR1] := K18.wr W24 (Or.inl (List.mem_of_getElem? (i := 0) rfl))
  have Z26 : n0 ≤ h24.size := (Nat.le_trans Z19 (Keep.of_wr W24).1)
  have N24 := Fr.snoc X24 N17 g_pR1
  obtain ⟨Lh24, X24, N24⟩ := own_hide X24 N24
  have F24 : Fld Z h24 pR1 "com/example/pergamena/pergamena/build/LabResults$Quantity" "low" "Ljava/lang/String;" .null := Fld.same W24 c22
  have c27 : Fld Z h6 pR1 "com/example/pergamena/pergamena/build/LabResults$Quantity" "high" "Ljava/lang/String;" .null := F_high_pR1.other W6 (Or.inr (slot_ne (Or.inr (ow hw 59 rfl)) (Or.inr (ow hw 51 rfl)) (by decide) (t := (.object "java/lang/String")) (t' := (.object "com/example/pergamena/pergamena/build/LabResults$Comparator")) (by decide) (by decide)))
  have c28 : Fld Z h11 pR1 "com/example/pergamena/pergamena/build/LabResults$Quantity" "high" "Ljava/lang/String;" .null := c27.other W11 (Or.inr (slot_ne (Or.inr (ow hw 59 rfl)) (Or.inr (ow hw 53 rfl)) (by decide) (t := (.object "java/lang/String")) (t' := (.object "java/lang/String")) (by decide) (by decide)))
  have c29 : Fld Z h17 pR1 "com/example/pergamena/pergamena/build/LabResults$Quantity" "high" "Ljava/lang/String;" .null := c28.other W17 (Or.inr (slot_ne (Or.inr (ow hw 59 rfl)) (Or.inr (ow hw 55 rfl)) (by decide) (t := (.object "java/lang/String")) (t' := (.object "java/lang/String")) (by decide) (by decide)))
  have c30 : Fld Z h24 pR1 "com/example/pergamena/pergamena/build/LabResults$Quantity" "high" "Ljava/lang/String;" .null := c29.other W24 (Or.inr (slot_ne (Or.inr (ow hw 59 rfl)) (Or.inr (ow hw 57 rfl)) (by decide) (t := (.object "java/lang/String")) (t' := (.object "java/lang/String")) (by decide) (by decide)))
  have c31 : Exa Z h24 pR1 "com/example/pergamena/pergamena/build/LabResults$Quantity" := c23.wr W24
  obtain ⟨T32, h32, X32, e32, W32, st32⟩ := putF X24 hx hZ hown (host := "") (Or.inl (ow hw 58 rfl)) Via.refl e24 c30 c31 (Or.inr ⟨(ow hw 59 rfl), rfl, hnm⟩) (ow hw 36 rfl) (ty := (.object "java/lang/String")) (by decide) rfl rfl (g := (mkF m 28 #[.val (.ref pR1), .val .null, .val (.ref pR2), .val (.ref pR3), .val .null, .val (.ref pR4)] [(.ref pR4), (.ref pR1)])) rfl rfl (hb hby d9_28)
  have K33 : Keep h0 h32 [pR1] := K25.wr W32 (Or.inl (List.mem_of_getElem? (i := 0) rfl))
  have Z34 : n0 ≤ h32.size := (Nat.le_trans Z26 (Keep.of_wr W32).1)
  have N32 := Fr.snoc X32 N24 g_pR1
  obtain ⟨Lh32, X32, N32⟩ := own_hide X32 N32
  have F32 : Fld Z h32 pR1 "com/example/pergamena/pergamena/build/LabResults$Quantity" "high" "Ljava/lang/String;" (.ref pR4) := Fld.same W32 c30
  have c35 : Exa Z h32 pR1 "com/example/pergamena/pergamena/build/LabResults$Quantity" := c31.wr W32
  have c36 : Fld Z h11 pR1 "com/example/pergamena/pergamena/build/LabResults$Quantity" "comparator" "Lcom/example/pergamena/pergamena/build/LabResults$Comparator;" .null := F6.other W11 (Or.inr (slot_ne (Or.inr (ow hw 51 rfl)) (Or.inr (ow hw 53 rfl)) (by decide) (t := (.object "com/example/pergamena/pergamena/build/LabResults$Comparator")) (t' := (.object "java/lang/String")) (by decide) (by decide)))
  have c37 : Fld Z h17 pR1 "com/example/pergamena/pergamena/build/LabResults$Quantity" "comparator" "Lcom/example/pergamena/pergamena/build/LabResults$Comparator;" .null := c36.other W17 (Or.inr (slot_ne (Or.inr (ow hw 51 rfl)) (Or.inr (ow hw 55 rfl)) (by decide) (t := (.object "com/example/pergamena/pergamena/build/LabResults$Comparator")) (t' := (.object "java/lang/String")) (by decide) (by decide)))
  have c38 : Fld Z h24 pR1 "com/example/pergamena/pergamena/build/LabResults$Quantity" "comparator" "Lcom/example/pergamena/pergamena/build/LabResults$Comparator;" .null := c37.other W24 (Or.inr (slot_ne (Or.inr (ow hw 51 rfl)) (Or.inr (ow hw 57 rfl)) (by decide) (t := (.object "com/example/pergamena/pergamena/build/LabResults$Comparator")) (t' := (.object "java/lang/String")) (by decide) (by decide)))
  have c39 : Fld Z h32 pR1 "com/example/pergamena/pergamena/build/LabResults$Quantity" "comparator" "Lcom/example/pergamena/pergamena/build/LabResults$Comparator;" .null := c38.other W32 (Or.inr (slot_ne (Or.inr (ow hw 51 rfl)) (Or.inr (ow hw 59 rfl)) (by decide) (t := (.object "com/example/pergamena/pergamena/build/LabResults$Comparator")) (t' := (.object "java/lang/String")) (by decide) (by decide)))
  have c40 : Fld Z h17 pR1 "com/example/pergamena/pergamena/build/LabResults$Quantity" "number" "Ljava/lang/String;" (.ref pR2) := F11.other W17 (Or.inr (slot_ne (Or.inr (ow hw 53 rfl)) (Or.inr (ow hw 55 rfl)) (by decide) (t := (.object "java/lang/String")) (t' := (.object "java/lang/String")) (by decide) (by decide)))
  have c41 : Fld Z h24 pR1 "com/example/pergamena/pergamena/build/LabResults$Quantity" "number" "Ljava/lang/String;" (.ref pR2) := c40.other W24 (Or.inr (slot_ne (Or.inr (ow hw 53 rfl)) (Or.inr (ow hw 57 rfl)) (by decide) (t := (.object "java/lang/String")) (t' := (.object "java/lang/String")) (by decide) (by decide)))
  have c42 : Fld Z h32 pR1 "com/example/pergamena/pergamena/build/LabResults$Quantity" "number" "Ljava/lang/String;" (.ref pR2) := c41.other W32 (Or.inr (slot_ne (Or.inr (ow hw 53 rfl)) (Or.inr (ow hw 59 rfl)) (by decide) (t := (.object "java/lang/String")) (t' := (.object "java/lang/String")) (by decide) (by decide)))
  have c43 : Fld Z h24 pR1 "com/example/pergamena/pergamena/build/LabResults$Quantity" "unit" "Ljava/lang/String;" (.ref pR3) := F17.other W24 (Or.inr (slot_ne (Or.inr (ow hw 55 rfl)) (Or.inr (ow hw 57 rfl)) (by decide) (t := (.object "java/lang/String")) (t' := (.object "java/lang/String")) (by decide) (by decide)))
  have c44 : Fld Z h32 pR1 "com/example/pergamena/pergamena/build/LabResults$Quantity" "unit" "Ljava/lang/String;" (.ref pR3) := c43.other W32 (Or.inr (slot_ne (Or.inr (ow hw 55 rfl)) (Or.inr (ow hw 59 rfl)) (by decide) (t := (.object "java/lang/String")) (t' := (.object "java/lang/String")) (by decide) (by decide)))
  have c45 : Fld Z h32 pR1 "com/example/pergamena/pergamena/build/LabResults$Quantity" "low" "Ljava/lang/String;" .null := F24.other W32 (Or.inr (slot_ne (Or.inr (ow hw 57 rfl)) (Or.inr (ow hw 59 rfl)) (by decide) (t := (.object "java/lang/String")) (t' := (.object "java/lang/String")) (by decide) (by decide)))
  obtain ⟨fs, hr, hrun, hended, hW, hsame⟩ := X32.leave (v := none) (fun _ => rfl)
  refine ⟨_, _, castTop (ef_qNNR m pR1 pR2 pR3 pR4) ?_, hrun, hended, _, _, rfl, ?_, ⟨_, rfl⟩, hW, hsame.mono (by decide) (by decide)⟩
  · show oS p e below s₁ m 0 #[.val (.ref pR1), .val .null, .val (.ref pR2), .val (.ref pR3), .val .null, .val (.ref pR4)] [] _
    refine XS.aloadN X0.here hx rfl (hb hby d9_0) rfl rfl ?_
    refine st5.trans ?_
    refine XS.aloadN X5.here hx rfl (hb hby d9_4) rfl rfl ?_
    refine XS.aloadN X5.here hx rfl (hb hby d9_5) rfl rfl ?_
    show oS p e below T5 m 6 #[.val (.ref pR1), .val .null, .val (.ref pR2), .val (.ref pR3), .val .null, .val (.ref pR4)] [.null, (.ref pR1)] _
    refine st6 _ ?_
    refine XS.aloadN X6.here hx rfl (hb hby d9_9) rfl rfl ?_
    refine XS.aloadN X6.here hx rfl (hb hby d9_10) rfl rfl ?_
    refine st11 _ ?_
    show oS p e below T11 m 14 #[.val (.ref pR1), .val .null, .val (.ref pR2), .val (.ref pR3), .val .null, .val (.ref pR4)] [] _
    refine XS.aloadN X11.here hx rfl (hb hby d9_14) rfl rfl ?_
    refine XS.aloadN X11.here hx rfl (hb hby d9_15) rfl rfl ?_
    refine st17 _ ?_
    refine XS.aloadN X17.here hx rfl (hb hby d9_19) rfl rfl ?_
    show oS p e below T17 m 20 #[.val (.ref pR1), .val .null, .val (.ref pR2), .val (.ref pR3), .val .null, .val (.ref pR4)] [(.ref pR1)] _
    refine XS.aload X17.here hx rfl (hb hby d9_20) rfl rfl ?_
    refine st24 _ ?_
    refine XS.aloadN X24.here hx rfl (hb hby d9_25) rfl rfl ?_
    refine XS.aload X24.here hx rfl (hb hby d9_26) rfl rfl ?_
    show oS p e below T24 m 28 #[.val (.ref pR1), .val .null, .val (.ref pR2), .val (.ref pR3), .val .null, .val (.ref pR4)] [(.ref pR4), (.ref pR1)] _
    refine st32 _ ?_
    exact X32.returnOut hx Bd.returns (hb hby d9_31) hr
  · show QqNNR Z pR1 pR2 pR3 pR4 h0 n0 _ T32.heap _
    rw [e32]
    exact ⟨rfl, N32, K33, c35, c39, c42, c44, c45, F32⟩
theorem ef_qNRN (m : MethodId) (pR1 : Addr) (pR2 : Addr) (pR3 : Addr) (pR4 : Addr) : entryFrame m #[(.ref pR1), .null, (.ref pR2), (.ref pR3), (.ref pR4), .null] 6 = mkF m 0 #[.val (.ref pR1), .val .null, .val (.ref pR2), .val (.ref pR3), .val (.ref pR4), .val .null] [] := by first | (simp [entryFrame, mkF, argsToLocals, Value.category]; done) | rfl
def QqNRN (Z : State) (pR1 : Addr) (pR2 : Addr) (pR3 : Addr) (pR4 : Addr) (h0 : Heap) (n0 : Nat) (v : Option Value) (h : Heap) (L : List Loc) : Prop := v = none ∧ Fr n0 L ∧ Keep h0 h [pR1] ∧ Exa Z h pR1 "com/example/pergamena/pergamena/build/LabResults$Quantity" ∧ Fld Z h pR1 "com/example/pergamena/pergamena/build/LabResults$Quantity" "comparator" "Lcom/example/pergamena/pergamena/build/LabResults$Comparator;" .null ∧ Fld Z h pR1 "com/example/pergamena/pergamena/build/LabResults$Quantity" "number" "Ljava/lang/String;" (.ref pR2) ∧ Fld Z h pR1 "com/example/pergamena/pergamena/build/LabResults$Quantity" "unit" "Ljava/lang/String;" (.ref pR3) ∧ Fld Z h pR1 "com/example/pergamena/pergamena/build/LabResults$Quantity" "low" "Ljava/lang/String;" (.ref pR4) ∧ Fld Z h pR1 "com/example/pergamena/pergamena/build/LabResults$Quantity" "high" "Ljava/lang/String;" .null
set_option maxRecDepth 65536 in
set_option maxHeartbeats 40000000 in
theorem qNRN (l : Launch) (Z : State) (a0 : Array Value) (hw : ∀ d ∈ tables_1, d.before a0 Z = true) (ws : List Jvm.Cond) (pR1 : Addr) (pR2 : Addr) (pR3 : Addr) (pR4 : Addr) (h0 : Heap) (n0 : Nat) (Z0 : n0 ≤ h0.size) (E_pR1 : Exa Z h0 pR1 "com/example/pergamena/pergamena/build/LabResults$Quantity") (F_comparator_pR1 : Fld Z h0 pR1 "com/example/pergamena/pergamena/build/LabResults$Quantity" "comparator" "Lcom/example/pergamena/pergamena/build/LabResults$Comparator;" .null) (g_pR1 : n0 ≤ pR1) (F_number_pR1 : Fld Z h0 pR1 "com/example/pergamena/pergamena/build/LabResults$Quantity" "number" "Ljava/lang/String;" .null) (F_unit_pR1 : Fld Z h0 pR1 "com/example/pergamena/pergamena/build/LabResults$Quantity" "unit" "Ljava/lang/String;" .null) (F_low_pR1 : Fld Z h0 pR1 "com/example/pergamena/pergamena/build/LabResults$Quantity" "low" "Ljava/lang/String;" .null) (F_high_pR1 : Fld Z h0 pR1 "com/example/pergamena/pergamena/build/LabResults$Quantity" "high" "Ljava/lang/String;" .null) :
    oM l yN8 prog_18_method_1_code 6 none ws ({ frames := 2, cells := 0, slots := 0, locals := 24 } : Room) #[(.ref pR1), .null, (.ref pR2), (.ref pR3), (.ref pR4), .null] Z h0 (QqNRN Z pR1 pR2 pR3 pR4 h0 n0) := by
  refine MetFree.of_bodySF (plainFor_of_name pn_4) hisR ?_
  intro p e s m args below meth c s₁ Bd hml0 hP hK
  obtain ⟨rfl, hZ, hh⟩ := hP
  have hx := Bd.exec
  have hby := Bd.bytes
  have hml : c.maxLocals = 6 := hml0
  have hown : s.vm.findClass "com/example/pergamena/pergamena/build/LabResults$Quantity" = some m.cls := findClass_of_methodNamed Bd.named
  have hnm := (name_of_methodNamed Bd.named Bd.method).1
  have X0 : Stand p l e ({ frames := 2, cells := 0, slots := 0, locals := 24 } : Room) s m #[(.ref pR1), .null, (.ref pR2), (.ref pR3), (.ref pR4), .null] below meth c s₁ [] 0 0 := Stand.of_body Bd
  have e0 : s₁.heap = h0 := by rw [← hh, Bd.state]; rfl
  have N0 := Fr.nil n0
  obtain ⟨_, _, ⟨T5, L5, k5, n5⟩, -, X5, ⟨Lc5, hQ5, l5, y5, z5⟩, st5⟩ := X0.specialBack hx (y := yN7) rfl hown (mvT hZ (ow hw 44 rfl)) (mvT hZ (ow hw 45 rfl)) (mvT hZ (ow hw 48 rfl)) (by decide) (backOf (W := 0) (recI l Z a0 hw [] pR1 h0 n0 Z0 ) hZ (ow hw 48 rfl) (ow hw 47 rfl) (by decide) (by decide)) (g := (mkF m 1 #[.val (.ref pR1), .val .null, .val (.ref pR2), .val (.ref pR3), .val (.ref pR4), .val .null] [(.ref pR1)])) rfl (by rw [hml]; rfl) (Steps.refl _) (a := pR1) (argsL := []) (rest := []) (lenOf pd_5 rfl) rfl (Nat.le_refl _) (hb hby d9_1) (fun _ _ => ⟨rfl, e0, (by decide : 0 + 0 ≤ _), (by decide : 0 + 0 ≤ _)⟩)
  dsimp only [Pt.U, Pt.locs, Pt.cells, Pt.slots] at X5 l5 y5 z5 st5 hQ5
  subst l5 y5 z5
  obtain ⟨rfl, Nq5, e5⟩ := hQ5
  have N5 := Fr.app N0 Nq5
  obtain ⟨T6, h6, X6, e6, W6, st6⟩ := putF X5 hx hZ hown (host := "") (Or.inl (ow hw 50 rfl)) Via.refl e5 F_comparator_pR1 E_pR1 (Or.inr ⟨(ow hw 51 rfl), rfl, hnm⟩) (ow hw 36 rfl) (ty := (.object "com/example/pergamena/pergamena/build/LabResults$Comparator")) (by decide) rfl rfl (g := (mkF m 6 #[.val (.ref pR1), .val .null, .val (.ref pR2), .val (.ref pR3), .val (.ref pR4), .val .null] [.null, (.ref pR1)])) rfl rfl (hb hby d9_6)
  have K7 : Keep h0 h6 [pR1] := (Keep.refl h0 [pR1]).wr W6 (Or.inl (List.mem_of_getElem? (i := 0) rfl))
  have Z8 : n0 ≤ h6.size := (Nat.le_trans Z0 (Keep.of_wr W6).1)
  have N6 := Fr.snoc X6 N5 g_pR1
  obtain ⟨Lh6, X6, N6⟩ := own_hide X6 N6
  have F6 : Fld Z h6 pR1 "com/example/pergamena/pergamena/build/LabResults$Quantity" "comparator" "Lcom/example/pergamena/pergamena/build/LabResults$Comparator;" .null := Fld.same W6 F_comparator_pR1
  have c9 : Fld Z h6 pR1 "com/example/pergamena/pergamena/build/LabResults$Quantity" "number" "Ljava/lang/String;" .null := F_number_pR1.other W6 (Or.inr (slot_ne (Or.inr (ow hw 53 rfl)) (Or.inr (ow hw 51 rfl)) (by decide) (t := (.object "java/lang/String")) (t' := (.object "com/example/pergamena/pergamena/build/LabResults$Comparator")) (by decide) (by decide)))
  have c10 : Exa Z h6 pR1 "com/example/pergamena/pergamena/build/LabResults$Quantity" := E_pR1.wr W6
  obtain ⟨T11, h11, X11, e11, W11, st11⟩ := putF X6 hx hZ hown (host := "") (Or.inl (ow hw 52 rfl)) Via.refl e6 c9 c10 (Or.inr ⟨(ow hw 53 rfl), rfl, hnm⟩) (ow hw 36 rfl) (ty := (.object "java/lang/String")) (by decide) rfl rfl (g := (mkF m 11 #[.val (.ref pR1), .val .null, .val (.ref pR2), .val (.ref pR3), .val (.ref pR4), .val .null] [(.ref pR2), (.ref pR1)])) rfl rfl (hb hby d9_11)
  have K12 : Keep h0 h11 [pR1] := K7.wr W11 (Or.inl (List.mem_of_getElem? (i := 0) rfl))
  have Z13 : n0 ≤ h11.size := (Nat.le_trans Z8 (Keep.of_wr W11).1)
  have N11 := Fr.snoc X11 N6 g_pR1
  obtain ⟨Lh11, X11, N11⟩ := own_hide X11 N11
  have F11 : Fld Z h11 pR1 "com/example/pergamena/pergamena/build/LabResults$Quantity" "number" "Ljava/lang/String;" (.ref pR2) := Fld.same W11 c9
  have c14 : Fld Z h6 pR1 "com/example/pergamena/pergamena/build/LabResults$Quantity" "unit" "Ljava/lang/String;" .null := F_unit_pR1.other W6 (Or.inr (slot_ne (Or.inr (ow hw 55 rfl)) (Or.inr (ow hw 51 rfl)) (by decide) (t := (.object "java/lang/String")) (t' := (.object "com/example/pergamena/pergamena/build/LabResults$Comparator")) (by decide) (by decide)))
  have c15 : Fld Z h11 pR1 "com/example/pergamena/pergamena/build/LabResults$Quantity" "unit" "Ljava/lang/String;" .null := c14.other W11 (Or.inr (slot_ne (Or.inr (ow hw 55 rfl)) (Or.inr (ow hw 53 rfl)) (by decide) (t := (.object "java/lang/String")) (t' := (.object "java/lang/String")) (by decide) (by decide)))
  have c16 : Exa Z h11 pR1 "com/example/pergamena/pergamena/build/LabResults$Quantity" := c10.wr W11
  obtain ⟨T17, h17, X17, e17, W17, st17⟩ := putF X11 hx hZ hown (host := "") (Or.inl (ow hw 54 rfl)) Via.refl e11 c15 c16 (Or.inr ⟨(ow hw 55 rfl), rfl, hnm⟩) (ow hw 36 rfl) (ty := (.object "java/lang/String")) (by decide) rfl rfl (g := (mkF m 16 #[.val (.ref pR1), .val .null, .val (.ref pR2), .val (.ref pR3), .val (.ref pR4), .val .null] [(.ref pR3), (.ref pR1)])) rfl rfl (hb hby d9_16)
  have K18 : Keep h0 h17 [pR1] := K12.wr W17 (Or.inl (List.mem_of_getElem? (i := 0) rfl))
  have Z19 : n0 ≤ h17.size := (Nat.le_trans Z13 (Keep.of_wr W17).1)
  have N17 := Fr.snoc X17 N11 g_pR1
  obtain ⟨Lh17, X17, N17⟩ := own_hide X17 N17
  have F17 : Fld Z h17 pR1 "com/example/pergamena/pergamena/build/LabResults$Quantity" "unit" "Ljava/lang/String;" (.ref pR3) := Fld.same W17 c15
  have c20 : Fld Z h6 pR1 "com/example/pergamena/pergamena/build/LabResults$Quantity" "low" "Ljava/lang/String;" .null := F_low_pR1.other W6 (Or.inr (slot_ne (Or.inr (ow hw 57 rfl)) (Or.inr (ow hw 51 rfl)) (by decide) (t := (.object "java/lang/String")) (t' := (.object "com/example/pergamena/pergamena/build/LabResults$Comparator")) (by decide) (by decide)))
  have c21 : Fld Z h11 pR1 "com/example/pergamena/pergamena/build/LabResults$Quantity" "low" "Ljava/lang/String;" .null := c20.other W11 (Or.inr (slot_ne (Or.inr (ow hw 57 rfl)) (Or.inr (ow hw 53 rfl)) (by decide) (t := (.object "java/lang/String")) (t' := (.object "java/lang/String")) (by decide) (by decide)))
  have c22 : Fld Z h17 pR1 "com/example/pergamena/pergamena/build/LabResults$Quantity" "low" "Ljava/lang/String;" .null := c21.other W17 (Or.inr (slot_ne (Or.inr (ow hw 57 rfl)) (Or.inr (ow hw 55 rfl)) (by decide) (t := (.object "java/lang/String")) (t' := (.object "java/lang/String")) (by decide) (by decide)))
  have c23 : Exa Z h17 pR1 "com/example/pergamena/pergamena/build/LabResults$Quantity" := c16.wr W17
  obtain ⟨T24, h24, X24, e24, W24, st24⟩ := putF X17 hx hZ hown (host := "") (Or.inl (ow hw 56 rfl)) Via.refl e17 c22 c23 (Or.inr ⟨(ow hw 57 rfl), rfl, hnm⟩) (ow hw 36 rfl) (ty := (.object "java/lang/String")) (by decide) rfl rfl (g := (mkF m 22 #[.val (.ref pR1), .val .null, .val (.ref pR2), .val (.ref pR3), .val (.ref pR4), .val .null] [(.ref pR4), (.ref pR1)])) rfl rfl (hb hby d9_22)
  have K25 : Keep h0 h24 [pR1] := K18.wr W24 (Or.inl (List.mem_of_getElem? (i := 0) rfl))
  have Z26 : n0 ≤ h24.size := (Nat.le_trans Z19 (Keep.of_wr W24).1)
  have N24 := Fr.snoc X24 N17 g_pR1
  obtain ⟨Lh24, X24, N24⟩ := own_hide X24 N24
  have F24 : Fld Z h24 pR1 "com/example/pergamena/pergamena/build/LabResults$Quantity" "low" "Ljava/lang/String;" (.ref pR4) := Fld.same W24 c22
  have c27 : Fld Z h6 pR1 "com/example/pergamena/pergamena/build/LabResults$Quantity" "high" "Ljava/lang/String;" .null := F_high_pR1.other W6 (Or.inr (slot_ne (Or.inr (ow hw 59 rfl)) (Or.inr (ow hw 51 rfl)) (by decide) (t := (.object "java/lang/String")) (t' := (.object "com/example/pergamena/pergamena/build/LabResults$Comparator")) (by decide) (by decide)))
  have c28 : Fld Z h11 pR1 "com/example/pergamena/pergamena/build/LabResults$Quantity" "high" "Ljava/lang/String;" .null := c27.other W11 (Or.inr (slot_ne (Or.inr (ow hw 59 rfl)) (Or.inr (ow hw 53 rfl)) (by decide) (t := (.object "java/lang/String")) (t' := (.object "java/lang/String")) (by decide) (by decide)))
  have c29 : Fld Z h17 pR1 "com/example/pergamena/pergamena/build/LabResults$Quantity" "high" "Ljava/lang/String;" .null := c28.other W17 (Or.inr (slot_ne (Or.inr (ow hw 59 rfl)) (Or.inr (ow hw 55 rfl)) (by decide) (t := (.object "java/lang/String")) (t' := (.object "java/lang/String")) (by decide) (by decide)))
  have c30 : Fld Z h24 pR1 "com/example/pergamena/pergamena/build/LabResults$Quantity" "high" "Ljava/lang/String;" .null := c29.other W24 (Or.inr (slot_ne (Or.inr (ow hw 59 rfl)) (Or.inr (ow hw 57 rfl)) (by decide) (t := (.object "java/lang/String")) (t' := (.object "java/lang/String")) (by decide) (by decide)))
  have c31 : Exa Z h24 pR1 "com/example/pergamena/pergamena/build/LabResults$Quantity" := c23.wr W24
  obtain ⟨T32, h32, X32, e32, W32, st32⟩ := putF X24 hx hZ hown (host := "") (Or.inl (ow hw 58 rfl)) Via.refl e24 c30 c31 (Or.inr ⟨(ow hw 59 rfl), rfl, hnm⟩) (ow hw 36 rfl) (ty := (.object "java/lang/String")) (by decide) rfl rfl (g := (mkF m 28 #[.val (.ref pR1), .val .null, .val (.ref pR2), .val (.ref pR3), .val (.ref pR4), .val .null] [.null, (.ref pR1)])) rfl rfl (hb hby d9_28)
  have K33 : Keep h0 h32 [pR1] := K25.wr W32 (Or.inl (List.mem_of_getElem? (i := 0) rfl))
  have Z34 : n0 ≤ h32.size := (Nat.le_trans Z26 (Keep.of_wr W32).1)
  have N32 := Fr.snoc X32 N24 g_pR1
  obtain ⟨Lh32, X32, N32⟩ := own_hide X32 N32
  have F32 : Fld Z h32 pR1 "com/example/pergamena/pergamena/build/LabResults$Quantity" "high" "Ljava/lang/String;" .null := Fld.same W32 c30
  have c35 : Exa Z h32 pR1 "com/example/pergamena/pergamena/build/LabResults$Quantity" := c31.wr W32
  have c36 : Fld Z h11 pR1 "com/example/pergamena/pergamena/build/LabResults$Quantity" "comparator" "Lcom/example/pergamena/pergamena/build/LabResults$Comparator;" .null := F6.other W11 (Or.inr (slot_ne (Or.inr (ow hw 51 rfl)) (Or.inr (ow hw 53 rfl)) (by decide) (t := (.object "com/example/pergamena/pergamena/build/LabResults$Comparator")) (t' := (.object "java/lang/String")) (by decide) (by decide)))
  have c37 : Fld Z h17 pR1 "com/example/pergamena/pergamena/build/LabResults$Quantity" "comparator" "Lcom/example/pergamena/pergamena/build/LabResults$Comparator;" .null := c36.other W17 (Or.inr (slot_ne (Or.inr (ow hw 51 rfl)) (Or.inr (ow hw 55 rfl)) (by decide) (t := (.object "com/example/pergamena/pergamena/build/LabResults$Comparator")) (t' := (.object "java/lang/String")) (by decide) (by decide)))
  have c38 : Fld Z h24 pR1 "com/example/pergamena/pergamena/build/LabResults$Quantity" "comparator" "Lcom/example/pergamena/pergamena/build/LabResults$Comparator;" .null := c37.other W24 (Or.inr (slot_ne (Or.inr (ow hw 51 rfl)) (Or.inr (ow hw 57 rfl)) (by decide) (t := (.object "com/example/pergamena/pergamena/build/LabResults$Comparator")) (t' := (.object "java/lang/String")) (by decide) (by decide)))
  have c39 : Fld Z h32 pR1 "com/example/pergamena/pergamena/build/LabResults$Quantity" "comparator" "Lcom/example/pergamena/pergamena/build/LabResults$Comparator;" .null := c38.other W32 (Or.inr (slot_ne (Or.inr (ow hw 51 rfl)) (Or.inr (ow hw 59 rfl)) (by decide) (t := (.object "com/example/pergamena/pergamena/build/LabResults$Comparator")) (t' := (.object "java/lang/String")) (by decide) (by decide)))
  have c40 : Fld Z h17 pR1 "com/example/pergamena/pergamena/build/LabResults$Quantity" "number" "Ljava/lang/String;" (.ref pR2) := F11.other W17 (Or.inr (slot_ne (Or.inr (ow hw 53 rfl)) (Or.inr (ow hw 55 rfl)) (by decide) (t := (.object "java/lang/String")) (t' := (.object "java/lang/String")) (by decide) (by decide)))
  have c41 : Fld Z h24 pR1 "com/example/pergamena/pergamena/build/LabResults$Quantity" "number" "Ljava/lang/String;" (.ref pR2) := c40.other W24 (Or.inr (slot_ne (Or.inr (ow hw 53 rfl)) (Or.inr (ow hw 57 rfl)) (by decide) (t := (.object "java/lang/String")) (t' := (.object "java/lang/String")) (by decide) (by decide)))
  have c42 : Fld Z h32 pR1 "com/example/pergamena/pergamena/build/LabResults$Quantity" "number" "Ljava/lang/String;" (.ref pR2) := c41.other W32 (Or.inr (slot_ne (Or.inr (ow hw 53 rfl)) (Or.inr (ow hw 59 rfl)) (by decide) (t := (.object "java/lang/String")) (t' := (.object "java/lang/String")) (by decide) (by decide)))
  have c43 : Fld Z h24 pR1 "com/example/pergamena/pergamena/build/LabResults$Quantity" "unit" "Ljava/lang/String;" (.ref pR3) := F17.other W24 (Or.inr (slot_ne (Or.inr (ow hw 55 rfl)) (Or.inr (ow hw 57 rfl)) (by decide) (t := (.object "java/lang/String")) (t' := (.object "java/lang/String")) (by decide) (by decide)))
  have c44 : Fld Z h32 pR1 "com/example/pergamena/pergamena/build/LabResults$Quantity" "unit" "Ljava/lang/String;" (.ref pR3) := c43.other W32 (Or.inr (slot_ne (Or.inr (ow hw 55 rfl)) (Or.inr (ow hw 59 rfl)) (by decide) (t := (.object "java/lang/String")) (t' := (.object "java/lang/String")) (by decide) (by decide)))
  have c45 : Fld Z h32 pR1 "com/example/pergamena/pergamena/build/LabResults$Quantity" "low" "Ljava/lang/String;" (.ref pR4) := F24.other W32 (Or.inr (slot_ne (Or.inr (ow hw 57 rfl)) (Or.inr (ow hw 59 rfl)) (by decide) (t := (.object "java/lang/String")) (t' := (.object "java/lang/String")) (by decide) (by decide)))
  obtain ⟨fs, hr, hrun, hended, hW, hsame⟩ := X32.leave (v := none) (fun _ => rfl)
  refine ⟨_, _, castTop (ef_qNRN m pR1 pR2 pR3 pR4) ?_, hrun, hended, _, _, rfl, ?_, ⟨_, rfl⟩, hW, hsame.mono (by decide) (by decide)⟩
  · show oS p e below s₁ m 0 #[.val (.ref pR1), .val .null, .val (.ref pR2), .val (.ref pR3), .val (.ref pR4), .val .null] [] _
    refine XS.aloadN X0.here hx rfl (hb hby d9_0) rfl rfl ?_
    refine st5.trans ?_
    refine XS.aloadN X5.here hx rfl (hb hby d9_4) rfl rfl ?_
    refine XS.aloadN X5.here hx rfl (hb hby d9_5) rfl rfl ?_
    show oS p e below T5 m 6 #[.val (.ref pR1), .val .null, .val (.ref pR2), .val (.ref pR3), .val (.ref pR4), .val .null] [.null, (.ref pR1)] _
    refine st6 _ ?_
    refine XS.aloadN X6.here hx rfl (hb hby d9_9) rfl rfl ?_
    refine XS.aloadN X6.here hx rfl (hb hby d9_10) rfl rfl ?_
    refine st11 _ ?_
    show oS p e below T11 m 14 #[.val (.ref pR1), .val .null, .val (.ref pR2), .val (.ref pR3), .val (.ref pR4), .val .null] [] _
    refine XS.aloadN X11.here hx rfl (hb hby d9_14) rfl rfl ?_
    refine XS.aloadN X11.here hx rfl (hb hby d9_15) rfl rfl ?_
    refine st17 _ ?_
    refine XS.aloadN X17.here hx rfl (hb hby d9_19) rfl rfl ?_
    show oS p e below T17 m 20 #[.val (.ref pR1), .val .null, .val (.ref pR2), .val (.ref pR3), .val (.ref pR4), .val .null] [(.ref pR1)] _
    refine XS.aload X17.here hx rfl (hb hby d9_20) rfl rfl ?_
    refine st24 _ ?_
    refine XS.aloadN X24.here hx rfl (hb hby d9_25) rfl rfl ?_
    refine XS.aload X24.here hx rfl (hb hby d9_26) rfl rfl ?_
    show oS p e below T24 m 28 #[.val (.ref pR1), .val .null, .val (.ref pR2), .val (.ref pR3), .val (.ref pR4), .val .null] [.null, (.ref pR1)] _
    refine st32 _ ?_
    exact X32.returnOut hx Bd.returns (hb hby d9_31) hr
  · show QqNRN Z pR1 pR2 pR3 pR4 h0 n0 _ T32.heap _
    rw [e32]
    exact ⟨rfl, N32, K33, c35, c39, c42, c44, c45, F32⟩
theorem ef_qNRR (m : MethodId) (pR1 : Addr) (pR2 : Addr) (pR3 : Addr) (pR4 : Addr) (pR5 : Addr) : entryFrame m #[(.ref pR1), .null, (.ref pR2), (.ref pR3), (.ref pR4), (.ref pR5)] 6 = mkF m 0 #[.val (.ref pR1), .val .null, .val (.ref pR2), .val (.ref pR3), .val (.ref pR4), .val (.ref pR5)] [] := by first | (simp [entryFrame, mkF, argsToLocals, Value.category]; done) | rfl
def QqNRR (Z : State) (pR1 : Addr) (pR2 : Addr) (pR3 : Addr) (pR4 : Addr) (pR5 : Addr) (h0 : Heap) (n0 : Nat) (v : Option Value) (h : Heap) (L : List Loc) : Prop := v = none ∧ Fr n0 L ∧ Keep h0 h [pR1] ∧ Exa Z h pR1 "com/example/pergamena/pergamena/build/LabResults$Quantity" ∧ Fld Z h pR1 "com/example/pergamena/pergamena/build/LabResults$Quantity" "comparator" "Lcom/example/pergamena/pergamena/build/LabResults$Comparator;" .null ∧ Fld Z h pR1 "com/example/pergamena/pergamena/build/LabResults$Quantity" "number" "Ljava/lang/String;" (.ref pR2) ∧ Fld Z h pR1 "com/example/pergamena/pergamena/build/LabResults$Quantity" "unit" "Ljava/lang/String;" (.ref pR3) ∧ Fld Z h pR1 "com/example/pergamena/pergamena/build/LabResults$Quantity" "low" "Ljava/lang/String;" (.ref pR4) ∧ Fld Z h pR1 "com/example/pergamena/pergamena/build/LabResults$Quantity" "high" "Ljava/lang/String;" (.ref pR5)
set_option maxRecDepth 65536 in
set_option maxHeartbeats 40000000 in
theorem qNRR (l : Launch) (Z : State) (a0 : Array Value) (hw : ∀ d ∈ tables_1, d.before a0 Z = true) (ws : List Jvm.Cond) (pR1 : Addr) (pR2 : Addr) (pR3 : Addr) (pR4 : Addr) (pR5 : Addr) (h0 : Heap) (n0 : Nat) (Z0 : n0 ≤ h0.size) (E_pR1 : Exa Z h0 pR1 "com/example/pergamena/pergamena/build/LabResults$Quantity") (F_comparator_pR1 : Fld Z h0 pR1 "com/example/pergamena/pergamena/build/LabResults$Quantity" "comparator" "Lcom/example/pergamena/pergamena/build/LabResults$Comparator;" .null) (g_pR1 : n0 ≤ pR1) (F_number_pR1 : Fld Z h0 pR1 "com/example/pergamena/pergamena/build/LabResults$Quantity" "number" "Ljava/lang/String;" .null) (F_unit_pR1 : Fld Z h0 pR1 "com/example/pergamena/pergamena/build/LabResults$Quantity" "unit" "Ljava/lang/String;" .null) (F_low_pR1 : Fld Z h0 pR1 "com/example/pergamena/pergamena/build/LabResults$Quantity" "low" "Ljava/lang/String;" .null) (F_high_pR1 : Fld Z h0 pR1 "com/example/pergamena/pergamena/build/LabResults$Quantity" "high" "Ljava/lang/String;" .null) :
    oM l yN8 prog_18_method_1_code 6 none ws ({ frames := 2, cells := 0, slots := 0, locals := 24 } : Room) #[(.ref pR1), .null, (.ref pR2), (.ref pR3), (.ref pR4), (.ref pR5)] Z h0 (QqNRR Z pR1 pR2 pR3 pR4 pR5 h0 n0) := by
  refine MetFree.of_bodySF (plainFor_of_name pn_4) hisR ?_
  intro p e s m args below meth c s₁ Bd hml0 hP hK
  obtain ⟨rfl, hZ, hh⟩ := hP
  have hx := Bd.exec
  have hby := Bd.bytes
  have hml : c.maxLocals = 6 := hml0
  have hown : s.vm.findClass "com/example/pergamena/pergamena/build/LabResults$Quantity" = some m.cls := findClass_of_methodNamed Bd.named
  have hnm := (name_of_methodNamed Bd.named Bd.method).1
  have X0 : Stand p l e ({ frames := 2, cells := 0, slots := 0, locals := 24 } : Room) s m #[(.ref pR1), .null, (.ref pR2), (.ref pR3), (.ref pR4), (.ref pR5)] below meth c s₁ [] 0 0 := Stand.of_body Bd
  have e0 : s₁.heap = h0 := by rw [← hh, Bd.state]; rfl
  have N0 := Fr.nil n0
  obtain ⟨_, _, ⟨T6, L6, k6, n6⟩, -, X6, ⟨Lc6, hQ6, l6, y6, z6⟩, st6⟩ := X0.specialBack hx (y := yN7) rfl hown (mvT hZ (ow hw 44 rfl)) (mvT hZ (ow hw 45 rfl)) (mvT hZ (ow hw 48 rfl)) (by decide) (backOf (W := 0) (recI l Z a0 hw [] pR1 h0 n0 Z0 ) hZ (ow hw 48 rfl) (ow hw 47 rfl) (by decide) (by decide)) (g := (mkF m 1 #[.val (.ref pR1), .val .null, .val (.ref pR2), .val (.ref pR3), .val (.ref pR4), .val (.ref pR5)] [(.ref pR1)])) rfl (by rw [hml]; rfl) (Steps.refl _) (a := pR1) (argsL := []) (rest := []) (lenOf pd_5 rfl) rfl (Nat.le_refl _) (hb hby d9_1) (fun _ _ => ⟨rfl, e0, (by decide : 0 + 0 ≤ _), (by decide : 0 + 0 ≤ _)⟩)
  dsimp only [Pt.U, Pt.locs, Pt.cells, Pt.slots] at X6 l6 y6 z6 st6 hQ6
  subst l6 y6 z6
  obtain ⟨rfl, Nq6, e6⟩ := hQ6
  have N6 := Fr.app N0 Nq6
  obtain ⟨T7, h7, X7, e7, W7, st7⟩ := putF X6 hx hZ hown (host := "") (Or.inl (ow hw 50 rfl)) Via.refl e6 F_comparator_pR1 E_pR1 (Or.inr ⟨(ow hw 51 rfl), rfl, hnm⟩) (ow hw 36 rfl) (ty := (.object "com/example/pergamena/pergamena/build/LabResults$Comparator")) (by decide) rfl rfl (g := (mkF m 6 #[.val (.ref pR1), .val .null, .val (.ref pR2), .val (.ref pR3), .val (.ref pR4), .val (.ref pR5)] [.null, (.ref pR1)])) rfl rfl (hb hby d9_6)
  have K8 : Keep h0 h7 [pR1] := (Keep.refl h0 [pR1]).wr W7 (Or.inl (List.mem_of_getElem? (i := 0) rfl))
  have Z9 : n0 ≤ h7.size := (Nat.le_trans Z0 (Keep.of_wr W7).1)
  have N7 := Fr.snoc X7 N6 g_pR1
  obtain ⟨Lh7, X7, N7⟩ := own_hide X7 N7
  have F7 : Fld Z h7 pR1 "com/example/pergamena/pergamena/build/LabResults$Quantity" "comparator" "Lcom/example/pergamena/pergamena/build/LabResults$Comparator;" .null := Fld.same W7 F_comparator_pR1
  have c10 : Fld Z h7 pR1 "com/example/pergamena/pergamena/build/LabResults$Quantity" "number" "Ljava/lang/String;" .null := F_number_pR1.other W7 (Or.inr (slot_ne (Or.inr (ow hw 53 rfl)) (Or.inr (ow hw 51 rfl)) (by decide) (t := (.object "java/lang/String")) (t' := (.object "com/example/pergamena/pergamena/build/LabResults$Comparator")) (by decide) (by decide)))
  have c11 : Exa Z h7 pR1 "com/example/pergamena/pergamena/build/LabResults$Quantity" := E_pR1.wr W7
  obtain ⟨T12, h12, X12, e12, W12, st12⟩ := putF X7 hx hZ hown (host := "") (Or.inl (ow hw 52 rfl)) Via.refl e7 c10 c11 (Or.inr ⟨(ow hw 53 rfl), rfl, hnm⟩) (ow hw 36 rfl) (ty := (.object "java/lang/String")) (by decide) rfl rfl (g := (mkF m 11 #[.val (.ref pR1), .val .null, .val (.ref pR2), .val (.ref pR3), .val (.ref pR4), .val (.ref pR5)] [(.ref pR2), (.ref pR1)])) rfl rfl (hb hby d9_11)
  have K13 : Keep h0 h12 [pR1] := K8.wr W12 (Or.inl (List.mem_of_getElem? (i := 0) rfl))
  have Z14 : n0 ≤ h12.size := (Nat.le_trans Z9 (Keep.of_wr W12).1)
  have N12 := Fr.snoc X12 N7 g_pR1
  obtain ⟨Lh12, X12, N12⟩ := own_hide X12 N12
  have F12 : Fld Z h12 pR1 "com/example/pergamena/pergamena/build/LabResults$Quantity" "number" "Ljava/lang/String;" (.ref pR2) := Fld.same W12 c10
  have c15 : Fld Z h7 pR1 "com/example/pergamena/pergamena/build/LabResults$Quantity" "unit" "Ljava/lang/String;" .null := F_unit_pR1.other W7 (Or.inr (slot_ne (Or.inr (ow hw 55 rfl)) (Or.inr (ow hw 51 rfl)) (by decide) (t := (.object "java/lang/String")) (t' := (.object "com/example/pergamena/pergamena/build/LabResults$Comparator")) (by decide) (by decide)))
  have c16 : Fld Z h12 pR1 "com/example/pergamena/pergamena/build/LabResults$Quantity" "unit" "Ljava/lang/String;" .null := c15.other W12 (Or.inr (slot_ne (Or.inr (ow hw 55 rfl)) (Or.inr (ow hw 53 rfl)) (by decide) (t := (.object "java/lang/String")) (t' := (.object "java/lang/String")) (by decide) (by decide)))
  have c17 : Exa Z h12 pR1 "com/example/pergamena/pergamena/build/LabResults$Quantity" := c11.wr W12
  obtain ⟨T18, h18, X18, e18, W18, st18⟩ := putF X12 hx hZ hown (host := "") (Or.inl (ow hw 54 rfl)) Via.refl e12 c16 c17 (Or.inr ⟨(ow hw 55 rfl), rfl, hnm⟩) (ow hw 36 rfl) (ty := (.object "java/lang/String")) (by decide) rfl rfl (g := (mkF m 16 #[.val (.ref pR1), .val .null, .val (.ref pR2), .val (.ref pR3), .val (.ref pR4), .val (.ref pR5)] [(.ref pR3), (.ref pR1)])) rfl rfl (hb hby d9_16)
  have K19 : Keep h0 h18 [pR1] := K13.wr W18 (Or.inl (List.mem_of_getElem? (i := 0) rfl))
  have Z20 : n0 ≤ h18.size := (Nat.le_trans Z14 (Keep.of_wr W18).1)
  have N18 := Fr.snoc X18 N12 g_pR1
  obtain ⟨Lh18, X18, N18⟩ := own_hide X18 N18
  have F18 : Fld Z h18 pR1 "com/example/pergamena/pergamena/build/LabResults$Quantity" "unit" "Ljava/lang/String;" (.ref pR3) := Fld.same W18 c16
  have c21 : Fld Z h7 pR1 "com/example/pergamena/pergamena/build/LabResults$Quantity" "low" "Ljava/lang/String;" .null := F_low_pR1.other W7 (Or.inr (slot_ne (Or.inr (ow hw 57 rfl)) (Or.inr (ow hw 51 rfl)) (by decide) (t := (.object "java/lang/String")) (t' := (.object "com/example/pergamena/pergamena/build/LabResults$Comparator")) (by decide) (by decide)))
  have c22 : Fld Z h12 pR1 "com/example/pergamena/pergamena/build/LabResults$Quantity" "low" "Ljava/lang/String;" .null := c21.other W12 (Or.inr (slot_ne (Or.inr (ow hw 57 rfl)) (Or.inr (ow hw 53 rfl)) (by decide) (t := (.object "java/lang/String")) (t' := (.object "java/lang/String")) (by decide) (by decide)))
  have c23 : Fld Z h18 pR1 "com/example/pergamena/pergamena/build/LabResults$Quantity" "low" "Ljava/lang/String;" .null := c22.other W18 (Or.inr (slot_ne (Or.inr (ow hw 57 rfl)) (Or.inr (ow hw 55 rfl)) (by decide) (t := (.object "java/lang/String")) (t' := (.object "java/lang/String")) (by decide) (by decide)))
  have c24 : Exa Z h18 pR1 "com/example/pergamena/pergamena/build/LabResults$Quantity" := c17.wr W18
  obtain ⟨T25, h25, X25, e25, W25, st25⟩ := putF X18 hx hZ hown (host := "") (Or.inl (ow hw 56 rfl)) Via.refl e18 c23 c24 (Or.inr ⟨(ow hw 57 rfl), rfl, hnm⟩) (ow hw 36 rfl) (ty := (.object "java/lang/String")) (by decide) rfl rfl (g := (mkF m 22 #[.val (.ref pR1), .val .null, .val (.ref pR2), .val (.ref pR3), .val (.ref pR4), .val (.ref pR5)] [(.ref pR4), (.ref pR1)])) rfl rfl (hb hby d9_22)
  have K26 : Keep h0 h25 [pR1] := K19.wr W25 (Or.inl (List.mem_of_getElem? (i := 0) rfl))
  have Z27 : n0 ≤ h25.size := (Nat.le_trans Z20 (Keep.of_wr W25).1)
  have N25 := Fr.snoc X25 N18 g_pR1
  obtain ⟨Lh25, X25, N25⟩ := own_hide X25 N25
  have F25 : Fld Z h25 pR1 "com/example/pergamena/pergamena/build/LabResults$Quantity" "low" "Ljava/lang/String;" (.ref pR4) := Fld.same W25 c23
  have c28 : Fld Z h7 pR1 "com/example/pergamena/pergamena/build/LabResults$Quantity" "high" "Ljava/lang/String;" .null := F_high_pR1.other W7 (Or.inr (slot_ne (Or.inr (ow hw 59 rfl)) (Or.inr (ow hw 51 rfl)) (by decide) (t := (.object "java/lang/String")) (t' := (.object "com/example/pergamena/pergamena/build/LabResults$Comparator")) (by decide) (by decide)))
  have c29 : Fld Z h12 pR1 "com/example/pergamena/pergamena/build/LabResults$Quantity" "high" "Ljava/lang/String;" .null := c28.other W12 (Or.inr (slot_ne (Or.inr (ow hw 59 rfl)) (Or.inr (ow hw 53 rfl)) (by decide) (t := (.object "java/lang/String")) (t' := (.object "java/lang/String")) (by decide) (by decide)))
  have c30 : Fld Z h18 pR1 "com/example/pergamena/pergamena/build/LabResults$Quantity" "high" "Ljava/lang/String;" .null := c29.other W18 (Or.inr (slot_ne (Or.inr (ow hw 59 rfl)) (Or.inr (ow hw 55 rfl)) (by decide) (t := (.object "java/lang/String")) (t' := (.object "java/lang/String")) (by decide) (by decide)))
  have c31 : Fld Z h25 pR1 "com/example/pergamena/pergamena/build/LabResults$Quantity" "high" "Ljava/lang/String;" .null := c30.other W25 (Or.inr (slot_ne (Or.inr (ow hw 59 rfl)) (Or.inr (ow hw 57 rfl)) (by decide) (t := (.object "java/lang/String")) (t' := (.object "java/lang/String")) (by decide) (by decide)))
  have c32 : Exa Z h25 pR1 "com/example/pergamena/pergamena/build/LabResults$Quantity" := c24.wr W25
  obtain ⟨T33, h33, X33, e33, W33, st33⟩ := putF X25 hx hZ hown (host := "") (Or.inl (ow hw 58 rfl)) Via.refl e25 c31 c32 (Or.inr ⟨(ow hw 59 rfl), rfl, hnm⟩) (ow hw 36 rfl) (ty := (.object "java/lang/String")) (by decide) rfl rfl (g := (mkF m 28 #[.val (.ref pR1), .val .null, .val (.ref pR2), .val (.ref pR3), .val (.ref pR4), .val (.ref pR5)] [(.ref pR5), (.ref pR1)])) rfl rfl (hb hby d9_28)
  have K34 : Keep h0 h33 [pR1] := K26.wr W33 (Or.inl (List.mem_of_getElem? (i := 0) rfl))
  have Z35 : n0 ≤ h33.size := (Nat.le_trans Z27 (Keep.of_wr W33).1)
  have N33 := Fr.snoc X33 N25 g_pR1
  obtain ⟨Lh33, X33, N33⟩ := own_hide X33 N33
  have F33 : Fld Z h33 pR1 "com/example/pergamena/pergamena/build/LabResults$Quantity" "high" "Ljava/lang/String;" (.ref pR5) := Fld.same W33 c31
  have c36 : Exa Z h33 pR1 "com/example/pergamena/pergamena/build/LabResults$Quantity" := c32.wr W33
  have c37 : Fld Z h12 pR1 "com/example/pergamena/pergamena/build/LabResults$Quantity" "comparator" "Lcom/example/pergamena/pergamena/build/LabResults$Comparator;" .null := F7.other W12 (Or.inr (slot_ne (Or.inr (ow hw 51 rfl)) (Or.inr (ow hw 53 rfl)) (by decide) (t := (.object "com/example/pergamena/pergamena/build/LabResults$Comparator")) (t' := (.object "java/lang/String")) (by decide) (by decide)))
  have c38 : Fld Z h18 pR1 "com/example/pergamena/pergamena/build/LabResults$Quantity" "comparator" "Lcom/example/pergamena/pergamena/build/LabResults$Comparator;" .null := c37.other W18 (Or.inr (slot_ne (Or.inr (ow hw 51 rfl)) (Or.inr (ow hw 55 rfl)) (by decide) (t := (.object "com/example/pergamena/pergamena/build/LabResults$Comparator")) (t' := (.object "java/lang/String")) (by decide) (by decide)))
  have c39 : Fld Z h25 pR1 "com/example/pergamena/pergamena/build/LabResults$Quantity" "comparator" "Lcom/example/pergamena/pergamena/build/LabResults$Comparator;" .null := c38.other W25 (Or.inr (slot_ne (Or.inr (ow hw 51 rfl)) (Or.inr (ow hw 57 rfl)) (by decide) (t := (.object "com/example/pergamena/pergamena/build/LabResults$Comparator")) (t' := (.object "java/lang/String")) (by decide) (by decide)))
  have c40 : Fld Z h33 pR1 "com/example/pergamena/pergamena/build/LabResults$Quantity" "comparator" "Lcom/example/pergamena/pergamena/build/LabResults$Comparator;" .null := c39.other W33 (Or.inr (slot_ne (Or.inr (ow hw 51 rfl)) (Or.inr (ow hw 59 rfl)) (by decide) (t := (.object "com/example/pergamena/pergamena/build/LabResults$Comparator")) (t' := (.object "java/lang/String")) (by decide) (by decide)))
  have c41 : Fld Z h18 pR1 "com/example/pergamena/pergamena/build/LabResults$Quantity" "number" "Ljava/lang/String;" (.ref pR2) := F12.other W18 (Or.inr (slot_ne (Or.inr (ow hw 53 rfl)) (Or.inr (ow hw 55 rfl)) (by decide) (t := (.object "java/lang/String")) (t' := (.object "java/lang/String")) (by decide) (by decide)))
  have c42 : Fld Z h25 pR1 "com/example/pergamena/pergamena/build/LabResults$Quantity" "number" "Ljava/lang/String;" (.ref pR2) := c41.other W25 (Or.inr (slot_ne (Or.inr (ow hw 53 rfl)) (Or.inr (ow hw 57 rfl)) (by decide) (t := (.object "java/lang/String")) (t' := (.object "java/lang/String")) (by decide) (by decide)))
  have c43 : Fld Z h33 pR1 "com/example/pergamena/pergamena/build/LabResults$Quantity" "number" "Ljava/lang/String;" (.ref pR2) := c42.other W33 (Or.inr (slot_ne (Or.inr (ow hw 53 rfl)) (Or.inr (ow hw 59 rfl)) (by decide) (t := (.object "java/lang/String")) (t' := (.object "java/lang/String")) (by decide) (by decide)))
  have c44 : Fld Z h25 pR1 "com/example/pergamena/pergamena/build/LabResults$Quantity" "unit" "Ljava/lang/String;" (.ref pR3) := F18.other W25 (Or.inr (slot_ne (Or.inr (ow hw 55 rfl)) (Or.inr (ow hw 57 rfl)) (by decide) (t := (.object "java/lang/String")) (t' := (.object "java/lang/String")) (by decide) (by decide)))
  have c45 : Fld Z h33 pR1 "com/example/pergamena/pergamena/build/LabResults$Quantity" "unit" "Ljava/lang/String;" (.ref pR3) := c44.other W33 (Or.inr (slot_ne (Or.inr (ow hw 55 rfl)) (Or.inr (ow hw 59 rfl)) (by decide) (t := (.object "java/lang/String")) (t' := (.object "java/lang/String")) (by decide) (by decide)))
  have c46 : Fld Z h33 pR1 "com/example/pergamena/pergamena/build/LabResults$Quantity" "low" "Ljava/lang/String;" (.ref pR4) := F25.other W33 (Or.inr (slot_ne (Or.inr (ow hw 57 rfl)) (Or.inr (ow hw 59 rfl)) (by decide) (t := (.object "java/lang/String")) (t' := (.object "java/lang/String")) (by decide) (by decide)))
  obtain ⟨fs, hr, hrun, hended, hW, hsame⟩ := X33.leave (v := none) (fun _ => rfl)
  refine ⟨_, _, castTop (ef_qNRR m pR1 pR2 pR3 pR4 pR5) ?_, hrun, hended, _, _, rfl, ?_, ⟨_, rfl⟩, hW, hsame.mono (by decide) (by decide)⟩
  · show oS p e below s₁ m 0 #[.val (.ref pR1), .val .null, .val (.ref pR2), .val (.ref pR3), .val (.ref pR4), .val (.ref pR5)] [] _
    refine XS.aloadN X0.here hx rfl (hb hby d9_0) rfl rfl ?_
    refine st6.trans ?_
    refine XS.aloadN X6.here hx rfl (hb hby d9_4) rfl rfl ?_
    refine XS.aloadN X6.here hx rfl (hb hby d9_5) rfl rfl ?_
    show oS p e below T6 m 6 #[.val (.ref pR1), .val .null, .val (.ref pR2), .val (.ref pR3), .val (.ref pR4), .val (.ref pR5)] [.null, (.ref pR1)] _
    refine st7 _ ?_
    refine XS.aloadN X7.here hx rfl (hb hby d9_9) rfl rfl ?_
    refine XS.aloadN X7.here hx rfl (hb hby d9_10) rfl rfl ?_
    refine st12 _ ?_
    show oS p e below T12 m 14 #[.val (.ref pR1), .val .null, .val (.ref pR2), .val (.ref pR3), .val (.ref pR4), .val (.ref pR5)] [] _
    refine XS.aloadN X12.here hx rfl (hb hby d9_14) rfl rfl ?_
    refine XS.aloadN X12.here hx rfl (hb hby d9_15) rfl rfl ?_
    refine st18 _ ?_
    refine XS.aloadN X18.here hx rfl (hb hby d9_19) rfl rfl ?_
    show oS p e below T18 m 20 #[.val (.ref pR1), .val .null, .val (.ref pR2), .val (.ref pR3), .val (.ref pR4), .val (.ref pR5)] [(.ref pR1)] _
    refine XS.aload X18.here hx rfl (hb hby d9_20) rfl rfl ?_
    refine st25 _ ?_
    refine XS.aloadN X25.here hx rfl (hb hby d9_25) rfl rfl ?_
    refine XS.aload X25.here hx rfl (hb hby d9_26) rfl rfl ?_
    show oS p e below T25 m 28 #[.val (.ref pR1), .val .null, .val (.ref pR2), .val (.ref pR3), .val (.ref pR4), .val (.ref pR5)] [(.ref pR5), (.ref pR1)] _
    refine st33 _ ?_
    exact X33.returnOut hx Bd.returns (hb hby d9_31) hr
  · show QqNRR Z pR1 pR2 pR3 pR4 pR5 h0 n0 _ T33.heap _
    rw [e33]
    exact ⟨rfl, N33, K34, c36, c40, c43, c45, c46, F33⟩
theorem ef_qRNN (m : MethodId) (pR1 : Addr) (pR2 : Addr) (pR3 : Addr) (pR4 : Addr) : entryFrame m #[(.ref pR1), (.ref pR2), (.ref pR3), (.ref pR4), .null, .null] 6 = mkF m 0 #[.val (.ref pR1), .val (.ref pR2), .val (.ref pR3), .val (.ref pR4), .val .null, .val .null] [] := by first | (simp [entryFrame, mkF, argsToLocals, Value.category]; done) | rfl
def QqRNN (Z : State) (pR1 : Addr) (pR2 : Addr) (pR3 : Addr) (pR4 : Addr) (h0 : Heap) (n0 : Nat) (v : Option Value) (h : Heap) (L : List Loc) : Prop := v = none ∧ Fr n0 L ∧ Keep h0 h [pR1] ∧ Exa Z h pR1 "com/example/pergamena/pergamena/build/LabResults$Quantity" ∧ Fld Z h pR1 "com/example/pergamena/pergamena/build/LabResults$Quantity" "comparator" "Lcom/example/pergamena/pergamena/build/LabResults$Comparator;" (.ref pR2) ∧ Fld Z h pR1 "com/example/pergamena/pergamena/build/LabResults$Quantity" "number" "Ljava/lang/String;" (.ref pR3) ∧ Fld Z h pR1 "com/example/pergamena/pergamena/build/LabResults$Quantity" "unit" "Ljava/lang/String;" (.ref pR4) ∧ Fld Z h pR1 "com/example/pergamena/pergamena/build/LabResults$Quantity" "low" "Ljava/lang/String;" .null ∧ Fld Z h pR1 "com/example/pergamena/pergamena/build/LabResults$Quantity" "high" "Ljava/lang/String;" .null
set_option maxRecDepth 65536 in
set_option maxHeartbeats 40000000 in
theorem qRNN (l : Launch) (Z : State) (a0 : Array Value) (hw : ∀ d ∈ tables_1, d.before a0 Z = true) (ws : List Jvm.Cond) (pR1 : Addr) (pR2 : Addr) (pR3 : Addr) (pR4 : Addr) (h0 : Heap) (n0 : Nat) (Z0 : n0 ≤ h0.size) (E_pR1 : Exa Z h0 pR1 "com/example/pergamena/pergamena/build/LabResults$Quantity") (F_comparator_pR1 : Fld Z h0 pR1 "com/example/pergamena/pergamena/build/LabResults$Quantity" "comparator" "Lcom/example/pergamena/pergamena/build/LabResults$Comparator;" .null) (g_pR1 : n0 ≤ pR1) (F_number_pR1 : Fld Z h0 pR1 "com/example/pergamena/pergamena/build/LabResults$Quantity" "number" "Ljava/lang/String;" .null) (F_unit_pR1 : Fld Z h0 pR1 "com/example/pergamena/pergamena/build/LabResults$Quantity" "unit" "Ljava/lang/String;" .null) (F_low_pR1 : Fld Z h0 pR1 "com/example/pergamena/pergamena/build/LabResults$Quantity" "low" "Ljava/lang/String;" .null) (F_high_pR1 : Fld Z h0 pR1 "com/example/pergamena/pergamena/build/LabResults$Quantity" "high" "Ljava/lang/String;" .null) :
    oM l yN8 prog_18_method_1_code 6 none ws ({ frames := 2, cells := 0, slots := 0, locals := 24 } : Room) #[(.ref pR1), (.ref pR2), (.ref pR3), (.ref pR4), .null, .null] Z h0 (QqRNN Z pR1 pR2 pR3 pR4 h0 n0) := by
  refine MetFree.of_bodySF (plainFor_of_name pn_4) hisR ?_
  intro p e s m args below meth c s₁ Bd hml0 hP hK
  obtain ⟨rfl, hZ, hh⟩ := hP
  have hx := Bd.exec
  have hby := Bd.bytes
  have hml : c.maxLocals = 6 := hml0
  have hown : s.vm.findClass "com/example/pergamena/pergamena/build/LabResults$Quantity" = some m.cls := findClass_of_methodNamed Bd.named
  have hnm := (name_of_methodNamed Bd.named Bd.method).1
  have X0 : Stand p l e ({ frames := 2, cells := 0, slots := 0, locals := 24 } : Room) s m #[(.ref pR1), (.ref pR2), (.ref pR3), (.ref pR4), .null, .null] below meth c s₁ [] 0 0 := Stand.of_body Bd
  have e0 : s₁.heap = h0 := by rw [← hh, Bd.state]; rfl
  have N0 := Fr.nil n0
  obtain ⟨_, _, ⟨T5, L5, k5, n5⟩, -, X5, ⟨Lc5, hQ5, l5, y5, z5⟩, st5⟩ := X0.specialBack hx (y := yN7) rfl hown (mvT hZ (ow hw 44 rfl)) (mvT hZ (ow hw 45 rfl)) (mvT hZ (ow hw 48 rfl)) (by decide) (backOf (W := 0) (recI l Z a0 hw [] pR1 h0 n0 Z0 ) hZ (ow hw 48 rfl) (ow hw 47 rfl) (by decide) (by decide)) (g := (mkF m 1 #[.val (.ref pR1), .val (.ref pR2), .val (.ref pR3), .val (.ref pR4), .val .null, .val .null] [(.ref pR1)])) rfl (by rw [hml]; rfl) (Steps.refl _) (a := pR1) (argsL := []) (rest := []) (lenOf pd_5 rfl) rfl (Nat.le_refl _) (hb hby d9_1) (fun _ _ => ⟨rfl, e0, (by decide : 0 + 0 ≤ _), (by decide : 0 + 0 ≤ _)⟩)
  dsimp only [Pt.U, Pt.locs, Pt.cells, Pt.slots] at X5 l5 y5 z5 st5 hQ5
  subst l5 y5 z5
  obtain ⟨rfl, Nq5, e5⟩ := hQ5
  have N5 := Fr.app N0 Nq5
  obtain ⟨T6, h6, X6, e6, W6, st6⟩ := putF X5 hx hZ hown (host := "") (Or.inl (ow hw 50 rfl)) Via.refl e5 F_comparator_pR1 E_pR1 (Or.inr ⟨(ow hw 51 rfl), rfl, hnm⟩) (ow hw 36 rfl) (ty := (.object "com/example/pergamena/pergamena/build/LabResults$Comparator")) (by decide) rfl rfl (g := (mkF m 6 #[.val (.ref pR1), .val (.ref pR2), .val (.ref pR3), .val (.ref pR4), .val .null, .val .null] [(.ref pR2), (.ref pR1)])) rfl rfl (hb hby d9_6)
  have K7 : Keep h0 h6 [pR1] := (Keep.refl h0 [pR1]).wr W6 (Or.inl (List.mem_of_getElem? (i := 0) rfl))
  have Z8 : n0 ≤ h6.size := (Nat.le_trans Z0 (Keep.of_wr W6).1)
  have N6 := Fr.snoc X6 N5 g_pR1
  obtain ⟨Lh6, X6, N6⟩ := own_hide X6 N6
  have F6 : Fld Z h6 pR1 "com/example/pergamena/pergamena/build/LabResults$Quantity" "comparator" "Lcom/example/pergamena/pergamena/build/LabResults$Comparator;" (.ref pR2) := Fld.same W6 F_comparator_pR1
  have c9 : Fld Z h6 pR1 "com/example/pergamena/pergamena/build/LabResults$Quantity" "number" "Ljava/lang/String;" .null := F_number_pR1.other W6 (Or.inr (slot_ne (Or.inr (ow hw 53 rfl)) (Or.inr (ow hw 51 rfl)) (by decide) (t := (.object "java/lang/String")) (t' := (.object "com/example/pergamena/pergamena/build/LabResults$Comparator")) (by decide) (by decide)))
  have c10 : Exa Z h6 pR1 "com/example/pergamena/pergamena/build/LabResults$Quantity" := E_pR1.wr W6
  obtain ⟨T11, h11, X11, e11, W11, st11⟩ := putF X6 hx hZ hown (host := "") (Or.inl (ow hw 52 rfl)) Via.refl e6 c9 c10 (Or.inr ⟨(ow hw 53 rfl), rfl, hnm⟩) (ow hw 36 rfl) (ty := (.object "java/lang/String")) (by decide) rfl rfl (g := (mkF m 11 #[.val (.ref pR1), .val (.ref pR2), .val (.ref pR3), .val (.ref pR4), .val .null, .val .null] [(.ref pR3), (.ref pR1)])) rfl rfl (hb hby d9_11)
  have K12 : Keep h0 h11 [pR1] := K7.wr W11 (Or.inl (List.mem_of_getElem? (i := 0) rfl))
  have Z13 : n0 ≤ h11.size := (Nat.le_trans Z8 (Keep.of_wr W11).1)
  have N11 := Fr.snoc X11 N6 g_pR1
  obtain ⟨Lh11, X11, N11⟩ := own_hide X11 N11
  have F11 : Fld Z h11 pR1 "com/example/pergamena/pergamena/build/LabResults$Quantity" "number" "Ljava/lang/String;" (.ref pR3) := Fld.same W11 c9
  have c14 : Fld Z h6 pR1 "com/example/pergamena/pergamena/build/LabResults$Quantity" "unit" "Ljava/lang/String;" .null := F_unit_pR1.other W6 (Or.inr (slot_ne (Or.inr (ow hw 55 rfl)) (Or.inr (ow hw 51 rfl)) (by decide) (t := (.object "java/lang/String")) (t' := (.object "com/example/pergamena/pergamena/build/LabResults$Comparator")) (by decide) (by decide)))
  have c15 : Fld Z h11 pR1 "com/example/pergamena/pergamena/build/LabResults$Quantity" "unit" "Ljava/lang/String;" .null := c14.other W11 (Or.inr (slot_ne (Or.inr (ow hw 55 rfl)) (Or.inr (ow hw 53 rfl)) (by decide) (t := (.object "java/lang/String")) (t' := (.object "java/lang/String")) (by decide) (by decide)))
  have c16 : Exa Z h11 pR1 "com/example/pergamena/pergamena/build/LabResults$Quantity" := c10.wr W11
  obtain ⟨T17, h17, X17, e17, W17, st17⟩ := putF X11 hx hZ hown (host := "") (Or.inl (ow hw 54 rfl)) Via.refl e11 c15 c16 (Or.inr ⟨(ow hw 55 rfl), rfl, hnm⟩) (ow hw 36 rfl) (ty := (.object "java/lang/String")) (by decide) rfl rfl (g := (mkF m 16 #[.val (.ref pR1), .val (.ref pR2), .val (.ref pR3), .val (.ref pR4), .val .null, .val .null] [(.ref pR4), (.ref pR1)])) rfl rfl (hb hby d9_16)
  have K18 : Keep h0 h17 [pR1] := K12.wr W17 (Or.inl (List.mem_of_getElem? (i := 0) rfl))
  have Z19 : n0 ≤ h17.size := (Nat.le_trans Z13 (Keep.of_wr W17).1)
  have N17 := Fr.snoc X17 N11 g_pR1
  obtain ⟨Lh17, X17, N17⟩ := own_hide X17 N17
  have F17 : Fld Z h17 pR1 "com/example/pergamena/pergamena/build/LabResults$Quantity" "unit" "Ljava/lang/String;" (.ref pR4) := Fld.same W17 c15
  have c20 : Fld Z h6 pR1 "com/example/pergamena/pergamena/build/LabResults$Quantity" "low" "Ljava/lang/String;" .null := F_low_pR1.other W6 (Or.inr (slot_ne (Or.inr (ow hw 57 rfl)) (Or.inr (ow hw 51 rfl)) (by decide) (t := (.object "java/lang/String")) (t' := (.object "com/example/pergamena/pergamena/build/LabResults$Comparator")) (by decide) (by decide)))
  have c21 : Fld Z h11 pR1 "com/example/pergamena/pergamena/build/LabResults$Quantity" "low" "Ljava/lang/String;" .null := c20.other W11 (Or.inr (slot_ne (Or.inr (ow hw 57 rfl)) (Or.inr (ow hw 53 rfl)) (by decide) (t := (.object "java/lang/String")) (t' := (.object "java/lang/String")) (by decide) (by decide)))
  have c22 : Fld Z h17 pR1 "com/example/pergamena/pergamena/build/LabResults$Quantity" "low" "Ljava/lang/String;" .null := c21.other W17 (Or.inr (slot_ne (Or.inr (ow hw 57 rfl)) (Or.inr (ow hw 55 rfl)) (by decide) (t := (.object "java/lang/String")) (t' := (.object "java/lang/String")) (by decide) (by decide)))
  have c23 : Exa Z h17 pR1 "com/example/pergamena/pergamena/build/LabResults$Quantity" := c16.wr W17
  obtain ⟨T24, h24, X24, e24, W24, st24⟩ := putF X17 hx hZ hown (host := "") (Or.inl (ow hw 56 rfl)) Via.refl e17 c22 c23 (Or.inr ⟨(ow hw 57 rfl), rfl, hnm⟩) (ow hw 36 rfl) (ty := (.object "java/lang/String")) (by decide) rfl rfl (g := (mkF m 22 #[.val (.ref pR1), .val (.ref pR2), .val (.ref pR3), .val (.ref pR4), .val .null, .val .null] [.null, (.ref pR1)])) rfl rfl (hb hby d9_22)
  have K25 : Keep h0 h24 [pR1] := K18.wr W24 (Or.inl (List.mem_of_getElem? (i := 0) rfl))
  have Z26 : n0 ≤ h24.size := (Nat.le_trans Z19 (Keep.of_wr W24).1)
  have N24 := Fr.snoc X24 N17 g_pR1
  obtain ⟨Lh24, X24, N24⟩ := own_hide X24 N24
  have F24 : Fld Z h24 pR1 "com/example/pergamena/pergamena/build/LabResults$Quantity" "low" "Ljava/lang/String;" .null := Fld.same W24 c22
  have c27 : Fld Z h6 pR1 "com/example/pergamena/pergamena/build/LabResults$Quantity" "high" "Ljava/lang/String;" .null := F_high_pR1.other W6 (Or.inr (slot_ne (Or.inr (ow hw 59 rfl)) (Or.inr (ow hw 51 rfl)) (by decide) (t := (.object "java/lang/String")) (t' := (.object "com/example/pergamena/pergamena/build/LabResults$Comparator")) (by decide) (by decide)))
  have c28 : Fld Z h11 pR1 "com/example/pergamena/pergamena/build/LabResults$Quantity" "high" "Ljava/lang/String;" .null := c27.other W11 (Or.inr (slot_ne (Or.inr (ow hw 59 rfl)) (Or.inr (ow hw 53 rfl)) (by decide) (t := (.object "java/lang/String")) (t' := (.object "java/lang/String")) (by decide) (by decide)))
  have c29 : Fld Z h17 pR1 "com/example/pergamena/pergamena/build/LabResults$Quantity" "high" "Ljava/lang/String;" .null := c28.other W17 (Or.inr (slot_ne (Or.inr (ow hw 59 rfl)) (Or.inr (ow hw 55 rfl)) (by decide) (t := (.object "java/lang/String")) (t' := (.object "java/lang/String")) (by decide) (by decide)))
  have c30 : Fld Z h24 pR1 "com/example/pergamena/pergamena/build/LabResults$Quantity" "high" "Ljava/lang/String;" .null := c29.other W24 (Or.inr (slot_ne (Or.inr (ow hw 59 rfl)) (Or.inr (ow hw 57 rfl)) (by decide) (t := (.object "java/lang/String")) (t' := (.object "java/lang/String")) (by decide) (by decide)))
  have c31 : Exa Z h24 pR1 "com/example/pergamena/pergamena/build/LabResults$Quantity" := c23.wr W24
  obtain ⟨T32, h32, X32, e32, W32, st32⟩ := putF X24 hx hZ hown (host := "") (Or.inl (ow hw 58 rfl)) Via.refl e24 c30 c31 (Or.inr ⟨(ow hw 59 rfl), rfl, hnm⟩) (ow hw 36 rfl) (ty := (.object "java/lang/String")) (by decide) rfl rfl (g := (mkF m 28 #[.val (.ref pR1), .val (.ref pR2), .val (.ref pR3), .val (.ref pR4), .val .null, .val .null] [.null, (.ref pR1)])) rfl rfl (hb hby d9_28)
  have K33 : Keep h0 h32 [pR1] := K25.wr W32 (Or.inl (List.mem_of_getElem? (i := 0) rfl))
  have Z34 : n0 ≤ h32.size := (Nat.le_trans Z26 (Keep.of_wr W32).1)
  have N32 := Fr.snoc X32 N24 g_pR1
  obtain ⟨Lh32, X32, N32⟩ := own_hide X32 N32
  have F32 : Fld Z h32 pR1 "com/example/pergamena/pergamena/build/LabResults$Quantity" "high" "Ljava/lang/String;" .null := Fld.same W32 c30
  have c35 : Exa Z h32 pR1 "com/example/pergamena/pergamena/build/LabResults$Quantity" := c31.wr W32
  have c36 : Fld Z h11 pR1 "com/example/pergamena/pergamena/build/LabResults$Quantity" "comparator" "Lcom/example/pergamena/pergamena/build/LabResults$Comparator;" (.ref pR2) := F6.other W11 (Or.inr (slot_ne (Or.inr (ow hw 51 rfl)) (Or.inr (ow hw 53 rfl)) (by decide) (t := (.object "com/example/pergamena/pergamena/build/LabResults$Comparator")) (t' := (.object "java/lang/String")) (by decide) (by decide)))
  have c37 : Fld Z h17 pR1 "com/example/pergamena/pergamena/build/LabResults$Quantity" "comparator" "Lcom/example/pergamena/pergamena/build/LabResults$Comparator;" (.ref pR2) := c36.other W17 (Or.inr (slot_ne (Or.inr (ow hw 51 rfl)) (Or.inr (ow hw 55 rfl)) (by decide) (t := (.object "com/example/pergamena/pergamena/build/LabResults$Comparator")) (t' := (.object "java/lang/String")) (by decide) (by decide)))
  have c38 : Fld Z h24 pR1 "com/example/pergamena/pergamena/build/LabResults$Quantity" "comparator" "Lcom/example/pergamena/pergamena/build/LabResults$Comparator;" (.ref pR2) := c37.other W24 (Or.inr (slot_ne (Or.inr (ow hw 51 rfl)) (Or.inr (ow hw 57 rfl)) (by decide) (t := (.object "com/example/pergamena/pergamena/build/LabResults$Comparator")) (t' := (.object "java/lang/String")) (by decide) (by decide)))
  have c39 : Fld Z h32 pR1 "com/example/pergamena/pergamena/build/LabResults$Quantity" "comparator" "Lcom/example/pergamena/pergamena/build/LabResults$Comparator;" (.ref pR2) := c38.other W32 (Or.inr (slot_ne (Or.inr (ow hw 51 rfl)) (Or.inr (ow hw 59 rfl)) (by decide) (t := (.object "com/example/pergamena/pergamena/build/LabResults$Comparator")) (t' := (.object "java/lang/String")) (by decide) (by decide)))
  have c40 : Fld Z h17 pR1 "com/example/pergamena/pergamena/build/LabResults$Quantity" "number" "Ljava/lang/String;" (.ref pR3) := F11.other W17 (Or.inr (slot_ne (Or.inr (ow hw 53 rfl)) (Or.inr (ow hw 55 rfl)) (by decide) (t := (.object "java/lang/String")) (t' := (.object "java/lang/String")) (by decide) (by decide)))
  have c41 : Fld Z h24 pR1 "com/example/pergamena/pergamena/build/LabResults$Quantity" "number" "Ljava/lang/String;" (.ref pR3) := c40.other W24 (Or.inr (slot_ne (Or.inr (ow hw 53 rfl)) (Or.inr (ow hw 57 rfl)) (by decide) (t := (.object "java/lang/String")) (t' := (.object "java/lang/String")) (by decide) (by decide)))
  have c42 : Fld Z h32 pR1 "com/example/pergamena/pergamena/build/LabResults$Quantity" "number" "Ljava/lang/String;" (.ref pR3) := c41.other W32 (Or.inr (slot_ne (Or.inr (ow hw 53 rfl)) (Or.inr (ow hw 59 rfl)) (by decide) (t := (.object "java/lang/String")) (t' := (.object "java/lang/String")) (by decide) (by decide)))
  have c43 : Fld Z h24 pR1 "com/example/pergamena/pergamena/build/LabResults$Quantity" "unit" "Ljava/lang/String;" (.ref pR4) := F17.other W24 (Or.inr (slot_ne (Or.inr (ow hw 55 rfl)) (Or.inr (ow hw 57 rfl)) (by decide) (t := (.object "java/lang/String")) (t' := (.object "java/lang/String")) (by decide) (by decide)))
  have c44 : Fld Z h32 pR1 "com/example/pergamena/pergamena/build/LabResults$Quantity" "unit" "Ljava/lang/String;" (.ref pR4) := c43.other W32 (Or.inr (slot_ne (Or.inr (ow hw 55 rfl)) (Or.inr (ow hw 59 rfl)) (by decide) (t := (.object "java/lang/String")) (t' := (.object "java/lang/String")) (by decide) (by decide)))
  have c45 : Fld Z h32 pR1 "com/example/pergamena/pergamena/build/LabResults$Quantity" "low" "Ljava/lang/String;" .null := F24.other W32 (Or.inr (slot_ne (Or.inr (ow hw 57 rfl)) (Or.inr (ow hw 59 rfl)) (by decide) (t := (.object "java/lang/String")) (t' := (.object "java/lang/String")) (by decide) (by decide)))
  obtain ⟨fs, hr, hrun, hended, hW, hsame⟩ := X32.leave (v := none) (fun _ => rfl)
  refine ⟨_, _, castTop (ef_qRNN m pR1 pR2 pR3 pR4) ?_, hrun, hended, _, _, rfl, ?_, ⟨_, rfl⟩, hW, hsame.mono (by decide) (by decide)⟩
  · show oS p e below s₁ m 0 #[.val (.ref pR1), .val (.ref pR2), .val (.ref pR3), .val (.ref pR4), .val .null, .val .null] [] _
    refine XS.aloadN X0.here hx rfl (hb hby d9_0) rfl rfl ?_
    refine st5.trans ?_
    refine XS.aloadN X5.here hx rfl (hb hby d9_4) rfl rfl ?_
    refine XS.aloadN X5.here hx rfl (hb hby d9_5) rfl rfl ?_
    show oS p e below T5 m 6 #[.val (.ref pR1), .val (.ref pR2), .val (.ref pR3), .val (.ref pR4), .val .null, .val .null] [(.ref pR2), (.ref pR1)] _
    refine st6 _ ?_
    refine XS.aloadN X6.here hx rfl (hb hby d9_9) rfl rfl ?_
    refine XS.aloadN X6.here hx rfl (hb hby d9_10) rfl rfl ?_
    refine st11 _ ?_
    show oS p e below T11 m 14 #[.val (.ref pR1), .val (.ref pR2), .val (.ref pR3), .val (.ref pR4), .val .null, .val .null] [] _
    refine XS.aloadN X11.here hx rfl (hb hby d9_14) rfl rfl ?_
    refine XS.aloadN X11.here hx rfl (hb hby d9_15) rfl rfl ?_
    refine st17 _ ?_
    refine XS.aloadN X17.here hx rfl (hb hby d9_19) rfl rfl ?_
    show oS p e below T17 m 20 #[.val (.ref pR1), .val (.ref pR2), .val (.ref pR3), .val (.ref pR4), .val .null, .val .null] [(.ref pR1)] _
    refine XS.aload X17.here hx rfl (hb hby d9_20) rfl rfl ?_
    refine st24 _ ?_
    refine XS.aloadN X24.here hx rfl (hb hby d9_25) rfl rfl ?_
    refine XS.aload X24.here hx rfl (hb hby d9_26) rfl rfl ?_
    show oS p e below T24 m 28 #[.val (.ref pR1), .val (.ref pR2), .val (.ref pR3), .val (.ref pR4), .val .null, .val .null] [.null, (.ref pR1)] _
    refine st32 _ ?_
    exact X32.returnOut hx Bd.returns (hb hby d9_31) hr
  · show QqRNN Z pR1 pR2 pR3 pR4 h0 n0 _ T32.heap _
    rw [e32]
    exact ⟨rfl, N32, K33, c35, c39, c42, c44, c45, F32⟩
theorem ef_qRNR (m : MethodId) (pR1 : Addr) (pR2 : Addr) (pR3 : Addr) (pR4 : Addr) (pR5 : Addr) : entryFrame m #[(.ref pR1), (.ref pR2), (.ref pR3), (.ref pR4), .null, (.ref pR5)] 6 = mkF m 0 #[.val (.ref pR1), .val (.ref pR2), .val (.ref pR3), .val (.ref pR4), .val .null, .val (.ref pR5)] [] := by first | (simp [entryFrame, mkF, argsToLocals, Value.category]; done) | rfl
def QqRNR (Z : State) (pR1 : Addr) (pR2 : Addr) (pR3 : Addr) (pR4 : Addr) (pR5 : Addr) (h0 : Heap) (n0 : Nat) (v : Option Value) (h : Heap) (L : List Loc) : Prop := v = none ∧ Fr n0 L ∧ Keep h0 h [pR1] ∧ Exa Z h pR1 "com/example/pergamena/pergamena/build/LabResults$Quantity" ∧ Fld Z h pR1 "com/example/pergamena/pergamena/build/LabResults$Quantity" "comparator" "Lcom/example/pergamena/pergamena/build/LabResults$Comparator;" (.ref pR2) ∧ Fld Z h pR1 "com/example/pergamena/pergamena/build/LabResults$Quantity" "number" "Ljava/lang/String;" (.ref pR3) ∧ Fld Z h pR1 "com/example/pergamena/pergamena/build/LabResults$Quantity" "unit" "Ljava/lang/String;" (.ref pR4) ∧ Fld Z h pR1 "com/example/pergamena/pergamena/build/LabResults$Quantity" "low" "Ljava/lang/String;" .null ∧ Fld Z h pR1 "com/example/pergamena/pergamena/build/LabResults$Quantity" "high" "Ljava/lang/String;" (.ref pR5)
set_option maxRecDepth 65536 in
set_option maxHeartbeats 40000000 in
theorem qRNR (l : Launch) (Z : State) (a0 : Array Value) (hw : ∀ d ∈ tables_1, d.before a0 Z = true) (ws : List Jvm.Cond) (pR1 : Addr) (pR2 : Addr) (pR3 : Addr) (pR4 : Addr) (pR5 : Addr) (h0 : Heap) (n0 : Nat) (Z0 : n0 ≤ h0.size) (E_pR1 : Exa Z h0 pR1 "com/example/pergamena/pergamena/build/LabResults$Quantity") (F_comparator_pR1 : Fld Z h0 pR1 "com/example/pergamena/pergamena/build/LabResults$Quantity" "comparator" "Lcom/example/pergamena/pergamena/build/LabResults$Comparator;" .null) (g_pR1 : n0 ≤ pR1) (F_number_pR1 : Fld Z h0 pR1 "com/example/pergamena/pergamena/build/LabResults$Quantity" "number" "Ljava/lang/String;" .null) (F_unit_pR1 : Fld Z h0 pR1 "com/example/pergamena/pergamena/build/LabResults$Quantity" "unit" "Ljava/lang/String;" .null) (F_low_pR1 : Fld Z h0 pR1 "com/example/pergamena/pergamena/build/LabResults$Quantity" "low" "Ljava/lang/String;" .null) (F_high_pR1 : Fld Z h0 pR1 "com/example/pergamena/pergamena/build/LabResults$Quantity" "high" "Ljava/lang/String;" .null) :
    oM l yN8 prog_18_method_1_code 6 none ws ({ frames := 2, cells := 0, slots := 0, locals := 24 } : Room) #[(.ref pR1), (.ref pR2), (.ref pR3), (.ref pR4), .null, (.ref pR5)] Z h0 (QqRNR Z pR1 pR2 pR3 pR4 pR5 h0 n0) := by
  refine MetFree.of_bodySF (plainFor_of_name pn_4) hisR ?_
  intro p e s m args below meth c s₁ Bd hml0 hP hK
  obtain ⟨rfl, hZ, hh⟩ := hP
  have hx := Bd.exec
  have hby := Bd.bytes
  have hml : c.maxLocals = 6 := hml0
  have hown : s.vm.findClass "com/example/pergamena/pergamena/build/LabResults$Quantity" = some m.cls := findClass_of_methodNamed Bd.named
  have hnm := (name_of_methodNamed Bd.named Bd.method).1
  have X0 : Stand p l e ({ frames := 2, cells := 0, slots := 0, locals := 24 } : Room) s m #[(.ref pR1), (.ref pR2), (.ref pR3), (.ref pR4), .null, (.ref pR5)] below meth c s₁ [] 0 0 := Stand.of_body Bd
  have e0 : s₁.heap = h0 := by rw [← hh, Bd.state]; rfl
  have N0 := Fr.nil n0
  obtain ⟨_, _, ⟨T6, L6, k6, n6⟩, -, X6, ⟨Lc6, hQ6, l6, y6, z6⟩, st6⟩ := X0.specialBack hx (y := yN7) rfl hown (mvT hZ (ow hw 44 rfl)) (mvT hZ (ow hw 45 rfl)) (mvT hZ (ow hw 48 rfl)) (by decide) (backOf (W := 0) (recI l Z a0 hw [] pR1 h0 n0 Z0 ) hZ (ow hw 48 rfl) (ow hw 47 rfl) (by decide) (by decide)) (g := (mkF m 1 #[.val (.ref pR1), .val (.ref pR2), .val (.ref pR3), .val (.ref pR4), .val .null, .val (.ref pR5)] [(.ref pR1)])) rfl (by rw [hml]; rfl) (Steps.refl _) (a := pR1) (argsL := []) (rest := []) (lenOf pd_5 rfl) rfl (Nat.le_refl _) (hb hby d9_1) (fun _ _ => ⟨rfl, e0, (by decide : 0 + 0 ≤ _), (by decide : 0 + 0 ≤ _)⟩)
  dsimp only [Pt.U, Pt.locs, Pt.cells, Pt.slots] at X6 l6 y6 z6 st6 hQ6
  subst l6 y6 z6
  obtain ⟨rfl, Nq6, e6⟩ := hQ6
  have N6 := Fr.app N0 Nq6
  obtain ⟨T7, h7, X7, e7, W7, st7⟩ := putF X6 hx hZ hown (host := "") (Or.inl (ow hw 50 rfl)) Via.refl e6 F_comparator_pR1 E_pR1 (Or.inr ⟨(ow hw 51 rfl), rfl, hnm⟩) (ow hw 36 rfl) (ty := (.object "com/example/pergamena/pergamena/build/LabResults$Comparator")) (by decide) rfl rfl (g := (mkF m 6 #[.val (.ref pR1), .val (.ref pR2), .val (.ref pR3), .val (.ref pR4), .val .null, .val (.ref pR5)] [(.ref pR2), (.ref pR1)])) rfl rfl (hb hby d9_6)
  have K8 : Keep h0 h7 [pR1] := (Keep.refl h0 [pR1]).wr W7 (Or.inl (List.mem_of_getElem? (i := 0) rfl))
  have Z9 : n0 ≤ h7.size := (Nat.le_trans Z0 (Keep.of_wr W7).1)
  have N7 := Fr.snoc X7 N6 g_pR1
  obtain ⟨Lh7, X7, N7⟩ := own_hide X7 N7
  have F7 : Fld Z h7 pR1 "com/example/pergamena/pergamena/build/LabResults$Quantity" "comparator" "Lcom/example/pergamena/pergamena/build/LabResults$Comparator;" (.ref pR2) := Fld.same W7 F_comparator_pR1
  have c10 : Fld Z h7 pR1 "com/example/pergamena/pergamena/build/LabResults$Quantity" "number" "Ljava/lang/String;" .null := F_number_pR1.other W7 (Or.inr (slot_ne (Or.inr (ow hw 53 rfl)) (Or.inr (ow hw 51 rfl)) (by decide) (t := (.object "java/lang/String")) (t' := (.object "com/example/pergamena/pergamena/build/LabResults$Comparator")) (by decide) (by decide)))
  have c11 : Exa Z h7 pR1 "com/example/pergamena/pergamena/build/LabResults$Quantity" := E_pR1.wr W7
  obtain ⟨T12, h12, X12, e12, W12, st12⟩ := putF X7 hx hZ hown (host := "") (Or.inl (ow hw 52 rfl)) Via.refl e7 c10 c11 (Or.inr ⟨(ow hw 53 rfl), rfl, hnm⟩) (ow hw 36 rfl) (ty := (.object "java/lang/String")) (by decide) rfl rfl (g := (mkF m 11 #[.val (.ref pR1), .val (.ref pR2), .val (.ref pR3), .val (.ref pR4), .val .null, .val (.ref pR5)] [(.ref pR3), (.ref pR1)])) rfl rfl (hb hby d9_11)
  have K13 : Keep h0 h12 [pR1] := K8.wr W12 (Or.inl (List.mem_of_getElem? (i := 0) rfl))
  have Z14 : n0 ≤ h12.size := (Nat.le_trans Z9 (Keep.of_wr W12).1)
  have N12 := Fr.snoc X12 N7 g_pR1
  obtain ⟨Lh12, X12, N12⟩ := own_hide X12 N12
  have F12 : Fld Z h12 pR1 "com/example/pergamena/pergamena/build/LabResults$Quantity" "number" "Ljava/lang/String;" (.ref pR3) := Fld.same W12 c10
  have c15 : Fld Z h7 pR1 "com/example/pergamena/pergamena/build/LabResults$Quantity" "unit" "Ljava/lang/String;" .null := F_unit_pR1.other W7 (Or.inr (slot_ne (Or.inr (ow hw 55 rfl)) (Or.inr (ow hw 51 rfl)) (by decide) (t := (.object "java/lang/String")) (t' := (.object "com/example/pergamena/pergamena/build/LabResults$Comparator")) (by decide) (by decide)))
  have c16 : Fld Z h12 pR1 "com/example/pergamena/pergamena/build/LabResults$Quantity" "unit" "Ljava/lang/String;" .null := c15.other W12 (Or.inr (slot_ne (Or.inr (ow hw 55 rfl)) (Or.inr (ow hw 53 rfl)) (by decide) (t := (.object "java/lang/String")) (t' := (.object "java/lang/String")) (by decide) (by decide)))
  have c17 : Exa Z h12 pR1 "com/example/pergamena/pergamena/build/LabResults$Quantity" := c11.wr W12
  obtain ⟨T18, h18, X18, e18, W18, st18⟩ := putF X12 hx hZ hown (host := "") (Or.inl (ow hw 54 rfl)) Via.refl e12 c16 c17 (Or.inr ⟨(ow hw 55 rfl), rfl, hnm⟩) (ow hw 36 rfl) (ty := (.object "java/lang/String")) (by decide) rfl rfl (g := (mkF m 16 #[.val (.ref pR1), .val (.ref pR2), .val (.ref pR3), .val (.ref pR4), .val .null, .val (.ref pR5)] [(.ref pR4), (.ref pR1)])) rfl rfl (hb hby d9_16)
  have K19 : Keep h0 h18 [pR1] := K13.wr W18 (Or.inl (List.mem_of_getElem? (i := 0) rfl))
  have Z20 : n0 ≤ h18.size := (Nat.le_trans Z14 (Keep.of_wr W18).1)
  have N18 := Fr.snoc X18 N12 g_pR1
  obtain ⟨Lh18, X18, N18⟩ := own_hide X18 N18
  have F18 : Fld Z h18 pR1 "com/example/pergamena/pergamena/build/LabResults$Quantity" "unit" "Ljava/lang/String;" (.ref pR4) := Fld.same W18 c16
  have c21 : Fld Z h7 pR1 "com/example/pergamena/pergamena/build/LabResults$Quantity" "low" "Ljava/lang/String;" .null := F_low_pR1.other W7 (Or.inr (slot_ne (Or.inr (ow hw 57 rfl)) (Or.inr (ow hw 51 rfl)) (by decide) (t := (.object "java/lang/String")) (t' := (.object "com/example/pergamena/pergamena/build/LabResults$Comparator")) (by decide) (by decide)))
  have c22 : Fld Z h12 pR1 "com/example/pergamena/pergamena/build/LabResults$Quantity" "low" "Ljava/lang/String;" .null := c21.other W12 (Or.inr (slot_ne (Or.inr (ow hw 57 rfl)) (Or.inr (ow hw 53 rfl)) (by decide) (t := (.object "java/lang/String")) (t' := (.object "java/lang/String")) (by decide) (by decide)))
  have c23 : Fld Z h18 pR1 "com/example/pergamena/pergamena/build/LabResults$Quantity" "low" "Ljava/lang/String;" .null := c22.other W18 (Or.inr (slot_ne (Or.inr (ow hw 57 rfl)) (Or.inr (ow hw 55 rfl)) (by decide) (t := (.object "java/lang/String")) (t' := (.object "java/lang/String")) (by decide) (by decide)))
  have c24 : Exa Z h18 pR1 "com/example/pergamena/pergamena/build/LabResults$Quantity" := c17.wr W18
  obtain ⟨T25, h25, X25, e25, W25, st25⟩ := putF X18 hx hZ hown (host := "") (Or.inl (ow hw 56 rfl)) Via.refl e18 c23 c24 (Or.inr ⟨(ow hw 57 rfl), rfl, hnm⟩) (ow hw 36 rfl) (ty := (.object "java/lang/String")) (by decide) rfl rfl (g := (mkF m 22 #[.val (.ref pR1), .val (.ref pR2), .val (.ref pR3), .val (.ref pR4), .val .null, .val (.ref pR5)] [.null, (.ref pR1)])) rfl rfl (hb hby d9_22)
  have K26 : Keep h0 h25 [pR1] := K19.wr W25 (Or.inl (List.mem_of_getElem? (i := 0) rfl))
  have Z27 : n0 ≤ h25.size := (Nat.le_trans Z20 (Keep.of_wr W25).1)
  have N25 := Fr.snoc X25 N18 g_pR1
  obtain ⟨Lh25, X25, N25⟩ := own_hide X25 N25
  have F25 : Fld Z h25 pR1 "com/example/pergamena/pergamena/build/LabResults$Quantity" "low" "Ljava/lang/String;" .null := Fld.same W25 c23
  have c28 : Fld Z h7 pR1 "com/example/pergamena/pergamena/build/LabResults$Quantity" "high" "Ljava/lang/String;" .null := F_high_pR1.other W7 (Or.inr (slot_ne (Or.inr (ow hw 59 rfl)) (Or.inr (ow hw 51 rfl)) (by decide) (t := (.object "java/lang/String")) (t' := (.object "com/example/pergamena/pergamena/build/LabResults$Comparator")) (by decide) (by decide)))
  have c29 : Fld Z h12 pR1 "com/example/pergamena/pergamena/build/LabResults$Quantity" "high" "Ljava/lang/String;" .null := c28.other W12 (Or.inr (slot_ne (Or.inr (ow hw 59 rfl)) (Or.inr (ow hw 53 rfl)) (by decide) (t := (.object "java/lang/String")) (t' := (.object "java/lang/String")) (by decide) (by decide)))
  have c30 : Fld Z h18 pR1 "com/example/pergamena/pergamena/build/LabResults$Quantity" "high" "Ljava/lang/String;" .null := c29.other W18 (Or.inr (slot_ne (Or.inr (ow hw 59 rfl)) (Or.inr (ow hw 55 rfl)) (by decide) (t := (.object "java/lang/String")) (t' := (.object "java/lang/String")) (by decide) (by decide)))
  have c31 : Fld Z h25 pR1 "com/example/pergamena/pergamena/build/LabResults$Quantity" "high" "Ljava/lang/String;" .null := c30.other W25 (Or.inr (slot_ne (Or.inr (ow hw 59 rfl)) (Or.inr (ow hw 57 rfl)) (by decide) (t := (.object "java/lang/String")) (t' := (.object "java/lang/String")) (by decide) (by decide)))
  have c32 : Exa Z h25 pR1 "com/example/pergamena/pergamena/build/LabResults$Quantity" := c24.wr W25
  obtain ⟨T33, h33, X33, e33, W33, st33⟩ := putF X25 hx hZ hown (host := "") (Or.inl (ow hw 58 rfl)) Via.refl e25 c31 c32 (Or.inr ⟨(ow hw 59 rfl), rfl, hnm⟩) (ow hw 36 rfl) (ty := (.object "java/lang/String")) (by decide) rfl rfl (g := (mkF m 28 #[.val (.ref pR1), .val (.ref pR2), .val (.ref pR3), .val (.ref pR4), .val .null, .val (.ref pR5)] [(.ref pR5), (.ref pR1)])) rfl rfl (hb hby d9_28)
  have K34 : Keep h0 h33 [pR1] := K26.wr W33 (Or.inl (List.mem_of_getElem? (i := 0) rfl))
  have Z35 : n0 ≤ h33.size := (Nat.le_trans Z27 (Keep.of_wr W33).1)
  have N33 := Fr.snoc X33 N25 g_pR1
  obtain ⟨Lh33, X33, N33⟩ := own_hide X33 N33
  have F33 : Fld Z h33 pR1 "com/example/pergamena/pergamena/build/LabResults$Quantity" "high" "Ljava/lang/String;" (.ref pR5) := Fld.same W33 c31
  have c36 : Exa Z h33 pR1 "com/example/pergamena/pergamena/build/LabResults$Quantity" := c32.wr W33
  have c37 : Fld Z h12 pR1 "com/example/pergamena/pergamena/build/LabResults$Quantity" "comparator" "Lcom/example/pergamena/pergamena/build/LabResults$Comparator;" (.ref pR2) := F7.other W12 (Or.inr (slot_ne (Or.inr (ow hw 51 rfl)) (Or.inr (ow hw 53 rfl)) (by decide) (t := (.object "com/example/pergamena/pergamena/build/LabResults$Comparator")) (t' := (.object "java/lang/String")) (by decide) (by decide)))
  have c38 : Fld Z h18 pR1 "com/example/pergamena/pergamena/build/LabResults$Quantity" "comparator" "Lcom/example/pergamena/pergamena/build/LabResults$Comparator;" (.ref pR2) := c37.other W18 (Or.inr (slot_ne (Or.inr (ow hw 51 rfl)) (Or.inr (ow hw 55 rfl)) (by decide) (t := (.object "com/example/pergamena/pergamena/build/LabResults$Comparator")) (t' := (.object "java/lang/String")) (by decide) (by decide)))
  have c39 : Fld Z h25 pR1 "com/example/pergamena/pergamena/build/LabResults$Quantity" "comparator" "Lcom/example/pergamena/pergamena/build/LabResults$Comparator;" (.ref pR2) := c38.other W25 (Or.inr (slot_ne (Or.inr (ow hw 51 rfl)) (Or.inr (ow hw 57 rfl)) (by decide) (t := (.object "com/example/pergamena/pergamena/build/LabResults$Comparator")) (t' := (.object "java/lang/String")) (by decide) (by decide)))
  have c40 : Fld Z h33 pR1 "com/example/pergamena/pergamena/build/LabResults$Quantity" "comparator" "Lcom/example/pergamena/pergamena/build/LabResults$Comparator;" (.ref pR2) := c39.other W33 (Or.inr (slot_ne (Or.inr (ow hw 51 rfl)) (Or.inr (ow hw 59 rfl)) (by decide) (t := (.object "com/example/pergamena/pergamena/build/LabResults$Comparator")) (t' := (.object "java/lang/String")) (by decide) (by decide)))
  have c41 : Fld Z h18 pR1 "com/example/pergamena/pergamena/build/LabResults$Quantity" "number" "Ljava/lang/String;" (.ref pR3) := F12.other W18 (Or.inr (slot_ne (Or.inr (ow hw 53 rfl)) (Or.inr (ow hw 55 rfl)) (by decide) (t := (.object "java/lang/String")) (t' := (.object "java/lang/String")) (by decide) (by decide)))
  have c42 : Fld Z h25 pR1 "com/example/pergamena/pergamena/build/LabResults$Quantity" "number" "Ljava/lang/String;" (.ref pR3) := c41.other W25 (Or.inr (slot_ne (Or.inr (ow hw 53 rfl)) (Or.inr (ow hw 57 rfl)) (by decide) (t := (.object "java/lang/String")) (t' := (.object "java/lang/String")) (by decide) (by decide)))
  have c43 : Fld Z h33 pR1 "com/example/pergamena/pergamena/build/LabResults$Quantity" "number" "Ljava/lang/String;" (.ref pR3) := c42.other W33 (Or.inr (slot_ne (Or.inr (ow hw 53 rfl)) (Or.inr (ow hw 59 rfl)) (by decide) (t := (.object "java/lang/String")) (t' := (.object "java/lang/String")) (by decide) (by decide)))
  have c44 : Fld Z h25 pR1 "com/example/pergamena/pergamena/build/LabResults$Quantity" "unit" "Ljava/lang/String;" (.ref pR4) := F18.other W25 (Or.inr (slot_ne (Or.inr (ow hw 55 rfl)) (Or.inr (ow hw 57 rfl)) (by decide) (t := (.object "java/lang/String")) (t' := (.object "java/lang/String")) (by decide) (by decide)))
  have c45 : Fld Z h33 pR1 "com/example/pergamena/pergamena/build/LabResults$Quantity" "unit" "Ljava/lang/String;" (.ref pR4) := c44.other W33 (Or.inr (slot_ne (Or.inr (ow hw 55 rfl)) (Or.inr (ow hw 59 rfl)) (by decide) (t := (.object "java/lang/String")) (t' := (.object "java/lang/String")) (by decide) (by decide)))
  have c46 : Fld Z h33 pR1 "com/example/pergamena/pergamena/build/LabResults$Quantity" "low" "Ljava/lang/String;" .null := F25.other W33 (Or.inr (slot_ne (Or.inr (ow hw 57 rfl)) (Or.inr (ow hw 59 rfl)) (by decide) (t := (.object "java/lang/String")) (t' := (.object "java/lang/String")) (by decide) (by decide)))
  obtain ⟨fs, hr, hrun, hended, hW, hsame⟩ := X33.leave (v := none) (fun _ => rfl)
  refine ⟨_, _, castTop (ef_qRNR m pR1 pR2 pR3 pR4 pR5) ?_, hrun, hended, _, _, rfl, ?_, ⟨_, rfl⟩, hW, hsame.mono (by decide) (by decide)⟩
  · show oS p e below s₁ m 0 #[.val (.ref pR1), .val (.ref pR2), .val (.ref pR3), .val (.ref pR4), .val .null, .val (.ref pR5)] [] _
    refine XS.aloadN X0.here hx rfl (hb hby d9_0) rfl rfl ?_
    refine st6.trans ?_
    refine XS.aloadN X6.here hx rfl (hb hby d9_4) rfl rfl ?_
    refine XS.aloadN X6.here hx rfl (hb hby d9_5) rfl rfl ?_
    show oS p e below T6 m 6 #[.val (.ref pR1), .val (.ref pR2), .val (.ref pR3), .val (.ref pR4), .val .null, .val (.ref pR5)] [(.ref pR2), (.ref pR1)] _
    refine st7 _ ?_
    refine XS.aloadN X7.here hx rfl (hb hby d9_9) rfl rfl ?_
    refine XS.aloadN X7.here hx rfl (hb hby d9_10) rfl rfl ?_
    refine st12 _ ?_
    show oS p e below T12 m 14 #[.val (.ref pR1), .val (.ref pR2), .val (.ref pR3), .val (.ref pR4), .val .null, .val (.ref pR5)] [] _
    refine XS.aloadN X12.here hx rfl (hb hby d9_14) rfl rfl ?_
    refine XS.aloadN X12.here hx rfl (hb hby d9_15) rfl rfl ?_
    refine st18 _ ?_
    refine XS.aloadN X18.here hx rfl (hb hby d9_19) rfl rfl ?_
    show oS p e below T18 m 20 #[.val (.ref pR1), .val (.ref pR2), .val (.ref pR3), .val (.ref pR4), .val .null, .val (.ref pR5)] [(.ref pR1)] _
    refine XS.aload X18.here hx rfl (hb hby d9_20) rfl rfl ?_
    refine st25 _ ?_
    refine XS.aloadN X25.here hx rfl (hb hby d9_25) rfl rfl ?_
    refine XS.aload X25.here hx rfl (hb hby d9_26) rfl rfl ?_
    show oS p e below T25 m 28 #[.val (.ref pR1), .val (.ref pR2), .val (.ref pR3), .val (.ref pR4), .val .null, .val (.ref pR5)] [(.ref pR5), (.ref pR1)] _
    refine st33 _ ?_
    exact X33.returnOut hx Bd.returns (hb hby d9_31) hr
  · show QqRNR Z pR1 pR2 pR3 pR4 pR5 h0 n0 _ T33.heap _
    rw [e33]
    exact ⟨rfl, N33, K34, c36, c40, c43, c45, c46, F33⟩
theorem ef_qRRN (m : MethodId) (pR1 : Addr) (pR2 : Addr) (pR3 : Addr) (pR4 : Addr) (pR5 : Addr) : entryFrame m #[(.ref pR1), (.ref pR2), (.ref pR3), (.ref pR4), (.ref pR5), .null] 6 = mkF m 0 #[.val (.ref pR1), .val (.ref pR2), .val (.ref pR3), .val (.ref pR4), .val (.ref pR5), .val .null] [] := by first | (simp [entryFrame, mkF, argsToLocals, Value.category]; done) | rfl
def QqRRN (Z : State) (pR1 : Addr) (pR2 : Addr) (pR3 : Addr) (pR4 : Addr) (pR5 : Addr) (h0 : Heap) (n0 : Nat) (v : Option Value) (h : Heap) (L : List Loc) : Prop := v = none ∧ Fr n0 L ∧ Keep h0 h [pR1] ∧ Exa Z h pR1 "com/example/pergamena/pergamena/build/LabResults$Quantity" ∧ Fld Z h pR1 "com/example/pergamena/pergamena/build/LabResults$Quantity" "comparator" "Lcom/example/pergamena/pergamena/build/LabResults$Comparator;" (.ref pR2) ∧ Fld Z h pR1 "com/example/pergamena/pergamena/build/LabResults$Quantity" "number" "Ljava/lang/String;" (.ref pR3) ∧ Fld Z h pR1 "com/example/pergamena/pergamena/build/LabResults$Quantity" "unit" "Ljava/lang/String;" (.ref pR4) ∧ Fld Z h pR1 "com/example/pergamena/pergamena/build/LabResults$Quantity" "low" "Ljava/lang/String;" (.ref pR5) ∧ Fld Z h pR1 "com/example/pergamena/pergamena/build/LabResults$Quantity" "high" "Ljava/lang/String;" .null
set_option maxRecDepth 65536 in
set_option maxHeartbeats 40000000 in
theorem qRRN (l : Launch) (Z : State) (a0 : Array Value) (hw : ∀ d ∈ tables_1, d.before a0 Z = true) (ws : List Jvm.Cond) (pR1 : Addr) (pR2 : Addr) (pR3 : Addr) (pR4 : Addr) (pR5 : Addr) (h0 : Heap) (n0 : Nat) (Z0 : n0 ≤ h0.size) (E_pR1 : Exa Z h0 pR1 "com/example/pergamena/pergamena/build/LabResults$Quantity") (F_comparator_pR1 : Fld Z h0 pR1 "com/example/pergamena/pergamena/build/LabResults$Quantity" "comparator" "Lcom/example/pergamena/pergamena/build/LabResults$Comparator;" .null) (g_pR1 : n0 ≤ pR1) (F_number_pR1 : Fld Z h0 pR1 "com/example/pergamena/pergamena/build/LabResults$Quantity" "number" "Ljava/lang/String;" .null) (F_unit_pR1 : Fld Z h0 pR1 "com/example/pergamena/pergamena/build/LabResults$Quantity" "unit" "Ljava/lang/String;" .null) (F_low_pR1 : Fld Z h0 pR1 "com/example/pergamena/pergamena/build/LabResults$Quantity" "low" "Ljava/lang/String;" .null) (F_high_pR1 : Fld Z h0 pR1 "com/example/pergamena/pergamena/build/LabResults$Quantity" "high" "Ljava/lang/String;" .null) :
    oM l yN8 prog_18_method_1_code 6 none ws ({ frames := 2, cells := 0, slots := 0, locals := 24 } : Room) #[(.ref pR1), (.ref pR2), (.ref pR3), (.ref pR4), (.ref pR5), .null] Z h0 (QqRRN Z pR1 pR2 pR3 pR4 pR5 h0 n0) := by
  refine MetFree.of_bodySF (plainFor_of_name pn_4) hisR ?_
  intro p e s m args below meth c s₁ Bd hml0 hP hK
  obtain ⟨rfl, hZ, hh⟩ := hP
  have hx := Bd.exec
  have hby := Bd.bytes
  have hml : c.maxLocals = 6 := hml0
  have hown : s.vm.findClass "com/example/pergamena/pergamena/build/LabResults$Quantity" = some m.cls := findClass_of_methodNamed Bd.named
  have hnm := (name_of_methodNamed Bd.named Bd.method).1
  have X0 : Stand p l e ({ frames := 2, cells := 0, slots := 0, locals := 24 } : Room) s m #[(.ref pR1), (.ref pR2), (.ref pR3), (.ref pR4), (.ref pR5), .null] below meth c s₁ [] 0 0 := Stand.of_body Bd
  have e0 : s₁.heap = h0 := by rw [← hh, Bd.state]; rfl
  have N0 := Fr.nil n0
  obtain ⟨_, _, ⟨T6, L6, k6, n6⟩, -, X6, ⟨Lc6, hQ6, l6, y6, z6⟩, st6⟩ := X0.specialBack hx (y := yN7) rfl hown (mvT hZ (ow hw 44 rfl)) (mvT hZ (ow hw 45 rfl)) (mvT hZ (ow hw 48 rfl)) (by decide) (backOf (W := 0) (recI l Z a0 hw [] pR1 h0 n0 Z0 ) hZ (ow hw 48 rfl) (ow hw 47 rfl) (by decide) (by decide)) (g := (mkF m 1 #[.val (.ref pR1), .val (.ref pR2), .val (.ref pR3), .val (.ref pR4), .val (.ref pR5), .val .null] [(.ref pR1)])) rfl (by rw [hml]; rfl) (Steps.refl _) (a := pR1) (argsL := []) (rest := []) (lenOf pd_5 rfl) rfl (Nat.le_refl _) (hb hby d9_1) (fun _ _ => ⟨rfl, e0, (by decide : 0 + 0 ≤ _), (by decide : 0 + 0 ≤ _)⟩)
  dsimp only [Pt.U, Pt.locs, Pt.cells, Pt.slots] at X6 l6 y6 z6 st6 hQ6
  subst l6 y6 z6
  obtain ⟨rfl, Nq6, e6⟩ := hQ6
  have N6 := Fr.app N0 Nq6
  obtain ⟨T7, h7, X7, e7, W7, st7⟩ := putF X6 hx hZ hown (host := "") (Or.inl (ow hw 50 rfl)) Via.refl e6 F_comparator_pR1 E_pR1 (Or.inr ⟨(ow hw 51 rfl), rfl, hnm⟩) (ow hw 36 rfl) (ty := (.object "com/example/pergamena/pergamena/build/LabResults$Comparator")) (by decide) rfl rfl (g := (mkF m 6 #[.val (.ref pR1), .val (.ref pR2), .val (.ref pR3), .val (.ref pR4), .val (.ref pR5), .val .null] [(.ref pR2), (.ref pR1)])) rfl rfl (hb hby d9_6)
  have K8 : Keep h0 h7 [pR1] := (Keep.refl h0 [pR1]).wr W7 (Or.inl (List.mem_of_getElem? (i := 0) rfl))
  have Z9 : n0 ≤ h7.size := (Nat.le_trans Z0 (Keep.of_wr W7).1)
  have N7 := Fr.snoc X7 N6 g_pR1
  obtain ⟨Lh7, X7, N7⟩ := own_hide X7 N7
  have F7 : Fld Z h7 pR1 "com/example/pergamena/pergamena/build/LabResults$Quantity" "comparator" "Lcom/example/pergamena/pergamena/build/LabResults$Comparator;" (.ref pR2) := Fld.same W7 F_comparator_pR1
  have c10 : Fld Z h7 pR1 "com/example/pergamena/pergamena/build/LabResults$Quantity" "number" "Ljava/lang/String;" .null := F_number_pR1.other W7 (Or.inr (slot_ne (Or.inr (ow hw 53 rfl)) (Or.inr (ow hw 51 rfl)) (by decide) (t := (.object "java/lang/String")) (t' := (.object "com/example/pergamena/pergamena/build/LabResults$Comparator")) (by decide) (by decide)))
  have c11 : Exa Z h7 pR1 "com/example/pergamena/pergamena/build/LabResults$Quantity" := E_pR1.wr W7
  obtain ⟨T12, h12, X12, e12, W12, st12⟩ := putF X7 hx hZ hown (host := "") (Or.inl (ow hw 52 rfl)) Via.refl e7 c10 c11 (Or.inr ⟨(ow hw 53 rfl), rfl, hnm⟩) (ow hw 36 rfl) (ty := (.object "java/lang/String")) (by decide) rfl rfl (g := (mkF m 11 #[.val (.ref pR1), .val (.ref pR2), .val (.ref pR3), .val (.ref pR4), .val (.ref pR5), .val .null] [(.ref pR3), (.ref pR1)])) rfl rfl (hb hby d9_11)
  have K13 : Keep h0 h12 [pR1] := K8.wr W12 (Or.inl (List.mem_of_getElem? (i := 0) rfl))
  have Z14 : n0 ≤ h12.size := (Nat.le_trans Z9 (Keep.of_wr W12).1)
  have N12 := Fr.snoc X12 N7 g_pR1
  obtain ⟨Lh12, X12, N12⟩ := own_hide X12 N12
  have F12 : Fld Z h12 pR1 "com/example/pergamena/pergamena/build/LabResults$Quantity" "number" "Ljava/lang/String;" (.ref pR3) := Fld.same W12 c10
  have c15 : Fld Z h7 pR1 "com/example/pergamena/pergamena/build/LabResults$Quantity" "unit" "Ljava/lang/String;" .null := F_unit_pR1.other W7 (Or.inr (slot_ne (Or.inr (ow hw 55 rfl)) (Or.inr (ow hw 51 rfl)) (by decide) (t := (.object "java/lang/String")) (t' := (.object "com/example/pergamena/pergamena/build/LabResults$Comparator")) (by decide) (by decide)))
  have c16 : Fld Z h12 pR1 "com/example/pergamena/pergamena/build/LabResults$Quantity" "unit" "Ljava/lang/String;" .null := c15.other W12 (Or.inr (slot_ne (Or.inr (ow hw 55 rfl)) (Or.inr (ow hw 53 rfl)) (by decide) (t := (.object "java/lang/String")) (t' := (.object "java/lang/String")) (by decide) (by decide)))
  have c17 : Exa Z h12 pR1 "com/example/pergamena/pergamena/build/LabResults$Quantity" := c11.wr W12
  obtain ⟨T18, h18, X18, e18, W18, st18⟩ := putF X12 hx hZ hown (host := "") (Or.inl (ow hw 54 rfl)) Via.refl e12 c16 c17 (Or.inr ⟨(ow hw 55 rfl), rfl, hnm⟩) (ow hw 36 rfl) (ty := (.object "java/lang/String")) (by decide) rfl rfl (g := (mkF m 16 #[.val (.ref pR1), .val (.ref pR2), .val (.ref pR3), .val (.ref pR4), .val (.ref pR5), .val .null] [(.ref pR4), (.ref pR1)])) rfl rfl (hb hby d9_16)
  have K19 : Keep h0 h18 [pR1] := K13.wr W18 (Or.inl (List.mem_of_getElem? (i := 0) rfl))
  have Z20 : n0 ≤ h18.size := (Nat.le_trans Z14 (Keep.of_wr W18).1)
  have N18 := Fr.snoc X18 N12 g_pR1
  obtain ⟨Lh18, X18, N18⟩ := own_hide X18 N18
  have F18 : Fld Z h18 pR1 "com/example/pergamena/pergamena/build/LabResults$Quantity" "unit" "Ljava/lang/String;" (.ref pR4) := Fld.same W18 c16
  have c21 : Fld Z h7 pR1 "com/example/pergamena/pergamena/build/LabResults$Quantity" "low" "Ljava/lang/String;" .null := F_low_pR1.other W7 (Or.inr (slot_ne (Or.inr (ow hw 57 rfl)) (Or.inr (ow hw 51 rfl)) (by decide) (t := (.object "java/lang/String")) (t' := (.object "com/example/pergamena/pergamena/build/LabResults$Comparator")) (by decide) (by decide)))
  have c22 : Fld Z h12 pR1 "com/example/pergamena/pergamena/build/LabResults$Quantity" "low" "Ljava/lang/String;" .null := c21.other W12 (Or.inr (slot_ne (Or.inr (ow hw 57 rfl)) (Or.inr (ow hw 53 rfl)) (by decide) (t := (.object "java/lang/String")) (t' := (.object "java/lang/String")) (by decide) (by decide)))
  have c23 : Fld Z h18 pR1 "com/example/pergamena/pergamena/build/LabResults$Quantity" "low" "Ljava/lang/String;" .null := c22.other W18 (Or.inr (slot_ne (Or.inr (ow hw 57 rfl)) (Or.inr (ow hw 55 rfl)) (by decide) (t := (.object "java/lang/String")) (t' := (.object "java/lang/String")) (by decide) (by decide)))
  have c24 : Exa Z h18 pR1 "com/example/pergamena/pergamena/build/LabResults$Quantity" := c17.wr W18
  obtain ⟨T25, h25, X25, e25, W25, st25⟩ := putF X18 hx hZ hown (host := "") (Or.inl (ow hw 56 rfl)) Via.refl e18 c23 c24 (Or.inr ⟨(ow hw 57 rfl), rfl, hnm⟩) (ow hw 36 rfl) (ty := (.object "java/lang/String")) (by decide) rfl rfl (g := (mkF m 22 #[.val (.ref pR1), .val (.ref pR2), .val (.ref pR3), .val (.ref pR4), .val (.ref pR5), .val .null] [(.ref pR5), (.ref pR1)])) rfl rfl (hb hby d9_22)
  have K26 : Keep h0 h25 [pR1] := K19.wr W25 (Or.inl (List.mem_of_getElem? (i := 0) rfl))
  have Z27 : n0 ≤ h25.size := (Nat.le_trans Z20 (Keep.of_wr W25).1)
  have N25 := Fr.snoc X25 N18 g_pR1
  obtain ⟨Lh25, X25, N25⟩ := own_hide X25 N25
  have F25 : Fld Z h25 pR1 "com/example/pergamena/pergamena/build/LabResults$Quantity" "low" "Ljava/lang/String;" (.ref pR5) := Fld.same W25 c23
  have c28 : Fld Z h7 pR1 "com/example/pergamena/pergamena/build/LabResults$Quantity" "high" "Ljava/lang/String;" .null := F_high_pR1.other W7 (Or.inr (slot_ne (Or.inr (ow hw 59 rfl)) (Or.inr (ow hw 51 rfl)) (by decide) (t := (.object "java/lang/String")) (t' := (.object "com/example/pergamena/pergamena/build/LabResults$Comparator")) (by decide) (by decide)))
  have c29 : Fld Z h12 pR1 "com/example/pergamena/pergamena/build/LabResults$Quantity" "high" "Ljava/lang/String;" .null := c28.other W12 (Or.inr (slot_ne (Or.inr (ow hw 59 rfl)) (Or.inr (ow hw 53 rfl)) (by decide) (t := (.object "java/lang/String")) (t' := (.object "java/lang/String")) (by decide) (by decide)))
  have c30 : Fld Z h18 pR1 "com/example/pergamena/pergamena/build/LabResults$Quantity" "high" "Ljava/lang/String;" .null := c29.other W18 (Or.inr (slot_ne (Or.inr (ow hw 59 rfl)) (Or.inr (ow hw 55 rfl)) (by decide) (t := (.object "java/lang/String")) (t' := (.object "java/lang/String")) (by decide) (by decide)))
  have c31 : Fld Z h25 pR1 "com/example/pergamena/pergamena/build/LabResults$Quantity" "high" "Ljava/lang/String;" .null := c30.other W25 (Or.inr (slot_ne (Or.inr (ow hw 59 rfl)) (Or.inr (ow hw 57 rfl)) (by decide) (t := (.object "java/lang/String")) (t' := (.object "java/lang/String")) (by decide) (by decide)))
  have c32 : Exa Z h25 pR1 "com/example/pergamena/pergamena/build/LabResults$Quantity" := c24.wr W25
  obtain ⟨T33, h33, X33, e33, W33, st33⟩ := putF X25 hx hZ hown (host := "") (Or.inl (ow hw 58 rfl)) Via.refl e25 c31 c32 (Or.inr ⟨(ow hw 59 rfl), rfl, hnm⟩) (ow hw 36 rfl) (ty := (.object "java/lang/String")) (by decide) rfl rfl (g := (mkF m 28 #[.val (.ref pR1), .val (.ref pR2), .val (.ref pR3), .val (.ref pR4), .val (.ref pR5), .val .null] [.null, (.ref pR1)])) rfl rfl (hb hby d9_28)
  have K34 : Keep h0 h33 [pR1] := K26.wr W33 (Or.inl (List.mem_of_getElem? (i := 0) rfl))
  have Z35 : n0 ≤ h33.size := (Nat.le_trans Z27 (Keep.of_wr W33).1)
  have N33 := Fr.snoc X33 N25 g_pR1
  obtain ⟨Lh33, X33, N33⟩ := own_hide X33 N33
  have F33 : Fld Z h33 pR1 "com/example/pergamena/pergamena/build/LabResults$Quantity" "high" "Ljava/lang/String;" .null := Fld.same W33 c31
  have c36 : Exa Z h33 pR1 "com/example/pergamena/pergamena/build/LabResults$Quantity" := c32.wr W33
  have c37 : Fld Z h12 pR1 "com/example/pergamena/pergamena/build/LabResults$Quantity" "comparator" "Lcom/example/pergamena/pergamena/build/LabResults$Comparator;" (.ref pR2) := F7.other W12 (Or.inr (slot_ne (Or.inr (ow hw 51 rfl)) (Or.inr (ow hw 53 rfl)) (by decide) (t := (.object "com/example/pergamena/pergamena/build/LabResults$Comparator")) (t' := (.object "java/lang/String")) (by decide) (by decide)))
  have c38 : Fld Z h18 pR1 "com/example/pergamena/pergamena/build/LabResults$Quantity" "comparator" "Lcom/example/pergamena/pergamena/build/LabResults$Comparator;" (.ref pR2) := c37.other W18 (Or.inr (slot_ne (Or.inr (ow hw 51 rfl)) (Or.inr (ow hw 55 rfl)) (by decide) (t := (.object "com/example/pergamena/pergamena/build/LabResults$Comparator")) (t' := (.object "java/lang/String")) (by decide) (by decide)))
  have c39 : Fld Z h25 pR1 "com/example/pergamena/pergamena/build/LabResults$Quantity" "comparator" "Lcom/example/pergamena/pergamena/build/LabResults$Comparator;" (.ref pR2) := c38.other W25 (Or.inr (slot_ne (Or.inr (ow hw 51 rfl)) (Or.inr (ow hw 57 rfl)) (by decide) (t := (.object "com/example/pergamena/pergamena/build/LabResults$Comparator")) (t' := (.object "java/lang/String")) (by decide) (by decide)))
  have c40 : Fld Z h33 pR1 "com/example/pergamena/pergamena/build/LabResults$Quantity" "comparator" "Lcom/example/pergamena/pergamena/build/LabResults$Comparator;" (.ref pR2) := c39.other W33 (Or.inr (slot_ne (Or.inr (ow hw 51 rfl)) (Or.inr (ow hw 59 rfl)) (by decide) (t := (.object "com/example/pergamena/pergamena/build/LabResults$Comparator")) (t' := (.object "java/lang/String")) (by decide) (by decide)))
  have c41 : Fld Z h18 pR1 "com/example/pergamena/pergamena/build/LabResults$Quantity" "number" "Ljava/lang/String;" (.ref pR3) := F12.other W18 (Or.inr (slot_ne (Or.inr (ow hw 53 rfl)) (Or.inr (ow hw 55 rfl)) (by decide) (t := (.object "java/lang/String")) (t' := (.object "java/lang/String")) (by decide) (by decide)))
  have c42 : Fld Z h25 pR1 "com/example/pergamena/pergamena/build/LabResults$Quantity" "number" "Ljava/lang/String;" (.ref pR3) := c41.other W25 (Or.inr (slot_ne (Or.inr (ow hw 53 rfl)) (Or.inr (ow hw 57 rfl)) (by decide) (t := (.object "java/lang/String")) (t' := (.object "java/lang/String")) (by decide) (by decide)))
  have c43 : Fld Z h33 pR1 "com/example/pergamena/pergamena/build/LabResults$Quantity" "number" "Ljava/lang/String;" (.ref pR3) := c42.other W33 (Or.inr (slot_ne (Or.inr (ow hw 53 rfl)) (Or.inr (ow hw 59 rfl)) (by decide) (t := (.object "java/lang/String")) (t' := (.object "java/lang/String")) (by decide) (by decide)))
  have c44 : Fld Z h25 pR1 "com/example/pergamena/pergamena/build/LabResults$Quantity" "unit" "Ljava/lang/String;" (.ref pR4) := F18.other W25 (Or.inr (slot_ne (Or.inr (ow hw 55 rfl)) (Or.inr (ow hw 57 rfl)) (by decide) (t := (.object "java/lang/String")) (t' := (.object "java/lang/String")) (by decide) (by decide)))
  have c45 : Fld Z h33 pR1 "com/example/pergamena/pergamena/build/LabResults$Quantity" "unit" "Ljava/lang/String;" (.ref pR4) := c44.other W33 (Or.inr (slot_ne (Or.inr (ow hw 55 rfl)) (Or.inr (ow hw 59 rfl)) (by decide) (t := (.object "java/lang/String")) (t' := (.object "java/lang/String")) (by decide) (by decide)))
  have c46 : Fld Z h33 pR1 "com/example/pergamena/pergamena/build/LabResults$Quantity" "low" "Ljava/lang/String;" (.ref pR5) := F25.other W33 (Or.inr (slot_ne (Or.inr (ow hw 57 rfl)) (Or.inr (ow hw 59 rfl)) (by decide) (t := (.object "java/lang/String")) (t' := (.object "java/lang/String")) (by decide) (by decide)))
  obtain ⟨fs, hr, hrun, hended, hW, hsame⟩ := X33.leave (v := none) (fun _ => rfl)
  refine ⟨_, _, castTop (ef_qRRN m pR1 pR2 pR3 pR4 pR5) ?_, hrun, hended, _, _, rfl, ?_, ⟨_, rfl⟩, hW, hsame.mono (by decide) (by decide)⟩
  · show oS p e below s₁ m 0 #[.val (.ref pR1), .val (.ref pR2), .val (.ref pR3), .val (.ref pR4), .val (.ref pR5), .val .null] [] _
    refine XS.aloadN X0.here hx rfl (hb hby d9_0) rfl rfl ?_
    refine st6.trans ?_
    refine XS.aloadN X6.here hx rfl (hb hby d9_4) rfl rfl ?_
    refine XS.aloadN X6.here hx rfl (hb hby d9_5) rfl rfl ?_
    show oS p e below T6 m 6 #[.val (.ref pR1), .val (.ref pR2), .val (.ref pR3), .val (.ref pR4), .val (.ref pR5), .val .null] [(.ref pR2), (.ref pR1)] _
    refine st7 _ ?_
    refine XS.aloadN X7.here hx rfl (hb hby d9_9) rfl rfl ?_
    refine XS.aloadN X7.here hx rfl (hb hby d9_10) rfl rfl ?_
    refine st12 _ ?_
    show oS p e below T12 m 14 #[.val (.ref pR1), .val (.ref pR2), .val (.ref pR3), .val (.ref pR4), .val (.ref pR5), .val .null] [] _
    refine XS.aloadN X12.here hx rfl (hb hby d9_14) rfl rfl ?_
    refine XS.aloadN X12.here hx rfl (hb hby d9_15) rfl rfl ?_
    refine st18 _ ?_
    refine XS.aloadN X18.here hx rfl (hb hby d9_19) rfl rfl ?_
    show oS p e below T18 m 20 #[.val (.ref pR1), .val (.ref pR2), .val (.ref pR3), .val (.ref pR4), .val (.ref pR5), .val .null] [(.ref pR1)] _
    refine XS.aload X18.here hx rfl (hb hby d9_20) rfl rfl ?_
    refine st25 _ ?_
    refine XS.aloadN X25.here hx rfl (hb hby d9_25) rfl rfl ?_
    refine XS.aload X25.here hx rfl (hb hby d9_26) rfl rfl ?_
    show oS p e below T25 m 28 #[.val (.ref pR1), .val (.ref pR2), .val (.ref pR3), .val (.ref pR4), .val (.ref pR5), .val .null] [.null, (.ref pR1)] _
    refine st33 _ ?_
    exact X33.returnOut hx Bd.returns (hb hby d9_31) hr
  · show QqRRN Z pR1 pR2 pR3 pR4 pR5 h0 n0 _ T33.heap _
    rw [e33]
    exact ⟨rfl, N33, K34, c36, c40, c43, c45, c46, F33⟩
theorem ef_qRRR (m : MethodId) (pR1 : Addr) (pR2 : Addr) (pR3 : Addr) (pR4 : Addr) (pR5 : Addr) (pR6 : Addr) : entryFrame m #[(.ref pR1), (.ref pR2), (.ref pR3), (.ref pR4), (.ref pR5), (.ref pR6)] 6 = mkF m 0 #[.val (.ref pR1), .val (.ref pR2), .val (.ref pR3), .val (.ref pR4), .val (.ref pR5), .val (.ref pR6)] [] := by first | (simp [entryFrame, mkF, argsToLocals, Value.category]; done) | rfl
def QqRRR (Z : State) (pR1 : Addr) (pR2 : Addr) (pR3 : Addr) (pR4 : Addr) (pR5 : Addr) (pR6 : Addr) (h0 : Heap) (n0 : Nat) (v : Option Value) (h : Heap) (L : List Loc) : Prop := v = none ∧ Fr n0 L ∧ Keep h0 h [pR1] ∧ Exa Z h pR1 "com/example/pergamena/pergamena/build/LabResults$Quantity" ∧ Fld Z h pR1 "com/example/pergamena/pergamena/build/LabResults$Quantity" "comparator" "Lcom/example/pergamena/pergamena/build/LabResults$Comparator;" (.ref pR2) ∧ Fld Z h pR1 "com/example/pergamena/pergamena/build/LabResults$Quantity" "number" "Ljava/lang/String;" (.ref pR3) ∧ Fld Z h pR1 "com/example/pergamena/pergamena/build/LabResults$Quantity" "unit" "Ljava/lang/String;" (.ref pR4) ∧ Fld Z h pR1 "com/example/pergamena/pergamena/build/LabResults$Quantity" "low" "Ljava/lang/String;" (.ref pR5) ∧ Fld Z h pR1 "com/example/pergamena/pergamena/build/LabResults$Quantity" "high" "Ljava/lang/String;" (.ref pR6)
set_option maxRecDepth 65536 in
set_option maxHeartbeats 40000000 in
theorem qRRR (l : Launch) (Z : State) (a0 : Array Value) (hw : ∀ d ∈ tables_1, d.before a0 Z = true) (ws : List Jvm.Cond) (pR1 : Addr) (pR2 : Addr) (pR3 : Addr) (pR4 : Addr) (pR5 : Addr) (pR6 : Addr) (h0 : Heap) (n0 : Nat) (Z0 : n0 ≤ h0.size) (E_pR1 : Exa Z h0 pR1 "com/example/pergamena/pergamena/build/LabResults$Quantity") (F_comparator_pR1 : Fld Z h0 pR1 "com/example/pergamena/pergamena/build/LabResults$Quantity" "comparator" "Lcom/example/pergamena/pergamena/build/LabResults$Comparator;" .null) (g_pR1 : n0 ≤ pR1) (F_number_pR1 : Fld Z h0 pR1 "com/example/pergamena/pergamena/build/LabResults$Quantity" "number" "Ljava/lang/String;" .null) (F_unit_pR1 : Fld Z h0 pR1 "com/example/pergamena/pergamena/build/LabResults$Quantity" "unit" "Ljava/lang/String;" .null) (F_low_pR1 : Fld Z h0 pR1 "com/example/pergamena/pergamena/build/LabResults$Quantity" "low" "Ljava/lang/String;" .null) (F_high_pR1 : Fld Z h0 pR1 "com/example/pergamena/pergamena/build/LabResults$Quantity" "high" "Ljava/lang/String;" .null) :
    oM l yN8 prog_18_method_1_code 6 none ws ({ frames := 2, cells := 0, slots := 0, locals := 24 } : Room) #[(.ref pR1), (.ref pR2), (.ref pR3), (.ref pR4), (.ref pR5), (.ref pR6)] Z h0 (QqRRR Z pR1 pR2 pR3 pR4 pR5 pR6 h0 n0) := by
  refine MetFree.of_bodySF (plainFor_of_name pn_4) hisR ?_
  intro p e s m args below meth c s₁ Bd hml0 hP hK
  obtain ⟨rfl, hZ, hh⟩ := hP
  have hx := Bd.exec
  have hby := Bd.bytes
  have hml : c.maxLocals = 6 := hml0
  have hown : s.vm.findClass "com/example/pergamena/pergamena/build/LabResults$Quantity" = some m.cls := findClass_of_methodNamed Bd.named
  have hnm := (name_of_methodNamed Bd.named Bd.method).1
  have X0 : Stand p l e ({ frames := 2, cells := 0, slots := 0, locals := 24 } : Room) s m #[(.ref pR1), (.ref pR2), (.ref pR3), (.ref pR4), (.ref pR5), (.ref pR6)] below meth c s₁ [] 0 0 := Stand.of_body Bd
  have e0 : s₁.heap = h0 := by rw [← hh, Bd.state]; rfl
  have N0 := Fr.nil n0
  obtain ⟨_, _, ⟨T7, L7, k7, n7⟩, -, X7, ⟨Lc7, hQ7, l7, y7, z7⟩, st7⟩ := X0.specialBack hx (y := yN7) rfl hown (mvT hZ (ow hw 44 rfl)) (mvT hZ (ow hw 45 rfl)) (mvT hZ (ow hw 48 rfl)) (by decide) (backOf (W := 0) (recI l Z a0 hw [] pR1 h0 n0 Z0 ) hZ (ow hw 48 rfl) (ow hw 47 rfl) (by decide) (by decide)) (g := (mkF m 1 #[.val (.ref pR1), .val (.ref pR2), .val (.ref pR3), .val (.ref pR4), .val (.ref pR5), .val (.ref pR6)] [(.ref pR1)])) rfl (by rw [hml]; rfl) (Steps.refl _) (a := pR1) (argsL := []) (rest := []) (lenOf pd_5 rfl) rfl (Nat.le_refl _) (hb hby d9_1) (fun _ _ => ⟨rfl, e0, (by decide : 0 + 0 ≤ _), (by decide : 0 + 0 ≤ _)⟩)
  dsimp only [Pt.U, Pt.locs, Pt.cells, Pt.slots] at X7 l7 y7 z7 st7 hQ7
  subst l7 y7 z7
  obtain ⟨rfl, Nq7, e7⟩ := hQ7
  have N7 := Fr.app N0 Nq7
  obtain ⟨T8, h8, X8, e8, W8, st8⟩ := putF X7 hx hZ hown (host := "") (Or.inl (ow hw 50 rfl)) Via.refl e7 F_comparator_pR1 E_pR1 (Or.inr ⟨(ow hw 51 rfl), rfl, hnm⟩) (ow hw 36 rfl) (ty := (.object "com/example/pergamena/pergamena/build/LabResults$Comparator")) (by decide) rfl rfl (g := (mkF m 6 #[.val (.ref pR1), .val (.ref pR2), .val (.ref pR3), .val (.ref pR4), .val (.ref pR5), .val (.ref pR6)] [(.ref pR2), (.ref pR1)])) rfl rfl (hb hby d9_6)
  have K9 : Keep h0 h8 [pR1] := (Keep.refl h0 [pR1]).wr W8 (Or.inl (List.mem_of_getElem? (i := 0) rfl))
  have Z10 : n0 ≤ h8.size := (Nat.le_trans Z0 (Keep.of_wr W8).1)
  have N8 := Fr.snoc X8 N7 g_pR1
  obtain ⟨Lh8, X8, N8⟩ := own_hide X8 N8
  have F8 : Fld Z h8 pR1 "com/example/pergamena/pergamena/build/LabResults$Quantity" "comparator" "Lcom/example/pergamena/pergamena/build/LabResults$Comparator;" (.ref pR2) := Fld.same W8 F_comparator_pR1
  have c11 : Fld Z h8 pR1 "com/example/pergamena/pergamena/build/LabResults$Quantity" "number" "Ljava/lang/String;" .null := F_number_pR1.other W8 (Or.inr (slot_ne (Or.inr (ow hw 53 rfl)) (Or.inr (ow hw 51 rfl)) (by decide) (t := (.object "java/lang/String")) (t' := (.object "com/example/pergamena/pergamena/build/LabResults$Comparator")) (by decide) (by decide)))
  have c12 : Exa Z h8 pR1 "com/example/pergamena/pergamena/build/LabResults$Quantity" := E_pR1.wr W8
  obtain ⟨T13, h13, X13, e13, W13, st13⟩ := putF X8 hx hZ hown (host := "") (Or.inl (ow hw 52 rfl)) Via.refl e8 c11 c12 (Or.inr ⟨(ow hw 53 rfl), rfl, hnm⟩) (ow hw 36 rfl) (ty := (.object "java/lang/String")) (by decide) rfl rfl (g := (mkF m 11 #[.val (.ref pR1), .val (.ref pR2), .val (.ref pR3), .val (.ref pR4), .val (.ref pR5), .val (.ref pR6)] [(.ref pR3), (.ref pR1)])) rfl rfl (hb hby d9_11)
  have K14 : Keep h0 h13 [pR1] := K9.wr W13 (Or.inl (List.mem_of_getElem? (i := 0) rfl))
  have Z15 : n0 ≤ h13.size := (Nat.le_trans Z10 (Keep.of_wr W13).1)
  have N13 := Fr.snoc X13 N8 g_pR1
  obtain ⟨Lh13, X13, N13⟩ := own_hide X13 N13
  have F13 : Fld Z h13 pR1 "com/example/pergamena/pergamena/build/LabResults$Quantity" "number" "Ljava/lang/String;" (.ref pR3) := Fld.same W13 c11
  have c16 : Fld Z h8 pR1 "com/example/pergamena/pergamena/build/LabResults$Quantity" "unit" "Ljava/lang/String;" .null := F_unit_pR1.other W8 (Or.inr (slot_ne (Or.inr (ow hw 55 rfl)) (Or.inr (ow hw 51 rfl)) (by decide) (t := (.object "java/lang/String")) (t' := (.object "com/example/pergamena/pergamena/build/LabResults$Comparator")) (by decide) (by decide)))
  have c17 : Fld Z h13 pR1 "com/example/pergamena/pergamena/build/LabResults$Quantity" "unit" "Ljava/lang/String;" .null := c16.other W13 (Or.inr (slot_ne (Or.inr (ow hw 55 rfl)) (Or.inr (ow hw 53 rfl)) (by decide) (t := (.object "java/lang/String")) (t' := (.object "java/lang/String")) (by decide) (by decide)))
  have c18 : Exa Z h13 pR1 "com/example/pergamena/pergamena/build/LabResults$Quantity" := c12.wr W13
  obtain ⟨T19, h19, X19, e19, W19, st19⟩ := putF X13 hx hZ hown (host := "") (Or.inl (ow hw 54 rfl)) Via.refl e13 c17 c18 (Or.inr ⟨(ow hw 55 rfl), rfl, hnm⟩) (ow hw 36 rfl) (ty := (.object "java/lang/String")) (by decide) rfl rfl (g := (mkF m 16 #[.val (.ref pR1), .val (.ref pR2), .val (.ref pR3), .val (.ref pR4), .val (.ref pR5), .val (.ref pR6)] [(.ref pR4), (.ref pR1)])) rfl rfl (hb hby d9_16)
  have K20 : Keep h0 h19 [pR1] := K14.wr W19 (Or.inl (List.mem_of_getElem? (i := 0) rfl))
  have Z21 : n0 ≤ h19.size := (Nat.le_trans Z15 (Keep.of_wr W19).1)
  have N19 := Fr.snoc X19 N13 g_pR1
  obtain ⟨Lh19, X19, N19⟩ := own_hide X19 N19
  have F19 : Fld Z h19 pR1 "com/example/pergamena/pergamena/build/LabResults$Quantity" "unit" "Ljava/lang/String;" (.ref pR4) := Fld.same W19 c17
  have c22 : Fld Z h8 pR1 "com/example/pergamena/pergamena/build/LabResults$Quantity" "low" "Ljava/lang/String;" .null := F_low_pR1.other W8 (Or.inr (slot_ne (Or.inr (ow hw 57 rfl)) (Or.inr (ow hw 51 rfl)) (by decide) (t := (.object "java/lang/String")) (t' := (.object "com/example/pergamena/pergamena/build/LabResults$Comparator")) (by decide) (by decide)))
  have c23 : Fld Z h13 pR1 "com/example/pergamena/pergamena/build/LabResults$Quantity" "low" "Ljava/lang/String;" .null := c22.other W13 (Or.inr (slot_ne (Or.inr (ow hw 57 rfl)) (Or.inr (ow hw 53 rfl)) (by decide) (t := (.object "java/lang/String")) (t' := (.object "java/lang/String")) (by decide) (by decide)))
  have c24 : Fld Z h19 pR1 "com/example/pergamena/pergamena/build/LabResults$Quantity" "low" "Ljava/lang/String;" .null := c23.other W19 (Or.inr (slot_ne (Or.inr (ow hw 57 rfl)) (Or.inr (ow hw 55 rfl)) (by decide) (t := (.object "java/lang/String")) (t' := (.object "java/lang/String")) (by decide) (by decide)))
  have c25 : Exa Z h19 pR1 "com/example/pergamena/pergamena/build/LabResults$Quantity" := c18.wr W19
  obtain ⟨T26, h26, X26, e26, W26, st26⟩ := putF X19 hx hZ hown (host := "") (Or.inl (ow hw 56 rfl)) Via.refl e19 c24 c25 (Or.inr ⟨(ow hw 57 rfl), rfl, hnm⟩) (ow hw 36 rfl) (ty := (.object "java/lang/String")) (by decide) rfl rfl (g := (mkF m 22 #[.val (.ref pR1), .val (.ref pR2), .val (.ref pR3), .val (.ref pR4), .val (.ref pR5), .val (.ref pR6)] [(.ref pR5), (.ref pR1)])) rfl rfl (hb hby d9_22)
  have K27 : Keep h0 h26 [pR1] := K20.wr W26 (Or.inl (List.mem_of_getElem? (i := 0) rfl))
  have Z28 : n0 ≤ h26.size := (Nat.le_trans Z21 (Keep.of_wr W26).1)
  have N26 := Fr.snoc X26 N19 g_pR1
  obtain ⟨Lh26, X26, N26⟩ := own_hide X26 N26
  have F26 : Fld Z h26 pR1 "com/example/pergamena/pergamena/build/LabResults$Quantity" "low" "Ljava/lang/String;" (.ref pR5) := Fld.same W26 c24
  have c29 : Fld Z h8 pR1 "com/example/pergamena/pergamena/build/LabResults$Quantity" "high" "Ljava/lang/String;" .null := F_high_pR1.other W8 (Or.inr (slot_ne (Or.inr (ow hw 59 rfl)) (Or.inr (ow hw 51 rfl)) (by decide) (t := (.object "java/lang/String")) (t' := (.object "com/example/pergamena/pergamena/build/LabResults$Comparator")) (by decide) (by decide)))
  have c30 : Fld Z h13 pR1 "com/example/pergamena/pergamena/build/LabResults$Quantity" "high" "Ljava/lang/String;" .null := c29.other W13 (Or.inr (slot_ne (Or.inr (ow hw 59 rfl)) (Or.inr (ow hw 53 rfl)) (by decide) (t := (.object "java/lang/String")) (t' := (.object "java/lang/String")) (by decide) (by decide)))
  have c31 : Fld Z h19 pR1 "com/example/pergamena/pergamena/build/LabResults$Quantity" "high" "Ljava/lang/String;" .null := c30.other W19 (Or.inr (slot_ne (Or.inr (ow hw 59 rfl)) (Or.inr (ow hw 55 rfl)) (by decide) (t := (.object "java/lang/String")) (t' := (.object "java/lang/String")) (by decide) (by decide)))
  have c32 : Fld Z h26 pR1 "com/example/pergamena/pergamena/build/LabResults$Quantity" "high" "Ljava/lang/String;" .null := c31.other W26 (Or.inr (slot_ne (Or.inr (ow hw 59 rfl)) (Or.inr (ow hw 57 rfl)) (by decide) (t := (.object "java/lang/String")) (t' := (.object "java/lang/String")) (by decide) (by decide)))
  have c33 : Exa Z h26 pR1 "com/example/pergamena/pergamena/build/LabResults$Quantity" := c25.wr W26
  obtain ⟨T34, h34, X34, e34, W34, st34⟩ := putF X26 hx hZ hown (host := "") (Or.inl (ow hw 58 rfl)) Via.refl e26 c32 c33 (Or.inr ⟨(ow hw 59 rfl), rfl, hnm⟩) (ow hw 36 rfl) (ty := (.object "java/lang/String")) (by decide) rfl rfl (g := (mkF m 28 #[.val (.ref pR1), .val (.ref pR2), .val (.ref pR3), .val (.ref pR4), .val (.ref pR5), .val (.ref pR6)] [(.ref pR6), (.ref pR1)])) rfl rfl (hb hby d9_28)
  have K35 : Keep h0 h34 [pR1] := K27.wr W34 (Or.inl (List.mem_of_getElem? (i := 0) rfl))
  have Z36 : n0 ≤ h34.size := (Nat.le_trans Z28 (Keep.of_wr W34).1)
  have N34 := Fr.snoc X34 N26 g_pR1
  obtain ⟨Lh34, X34, N34⟩ := own_hide X34 N34
  have F34 : Fld Z h34 pR1 "com/example/pergamena/pergamena/build/LabResults$Quantity" "high" "Ljava/lang/String;" (.ref pR6) := Fld.same W34 c32
  have c37 : Exa Z h34 pR1 "com/example/pergamena/pergamena/build/LabResults$Quantity" := c33.wr W34
  have c38 : Fld Z h13 pR1 "com/example/pergamena/pergamena/build/LabResults$Quantity" "comparator" "Lcom/example/pergamena/pergamena/build/LabResults$Comparator;" (.ref pR2) := F8.other W13 (Or.inr (slot_ne (Or.inr (ow hw 51 rfl)) (Or.inr (ow hw 53 rfl)) (by decide) (t := (.object "com/example/pergamena/pergamena/build/LabResults$Comparator")) (t' := (.object "java/lang/String")) (by decide) (by decide)))
  have c39 : Fld Z h19 pR1 "com/example/pergamena/pergamena/build/LabResults$Quantity" "comparator" "Lcom/example/pergamena/pergamena/build/LabResults$Comparator;" (.ref pR2) := c38.other W19 (Or.inr (slot_ne (Or.inr (ow hw 51 rfl)) (Or.inr (ow hw 55 rfl)) (by decide) (t := (.object "com/example/pergamena/pergamena/build/LabResults$Comparator")) (t' := (.object "java/lang/String")) (by decide) (by decide)))
  have c40 : Fld Z h26 pR1 "com/example/pergamena/pergamena/build/LabResults$Quantity" "comparator" "Lcom/example/pergamena/pergamena/build/LabResults$Comparator;" (.ref pR2) := c39.other W26 (Or.inr (slot_ne (Or.inr (ow hw 51 rfl)) (Or.inr (ow hw 57 rfl)) (by decide) (t := (.object "com/example/pergamena/pergamena/build/LabResults$Comparator")) (t' := (.object "java/lang/String")) (by decide) (by decide)))
  have c41 : Fld Z h34 pR1 "com/example/pergamena/pergamena/build/LabResults$Quantity" "comparator" "Lcom/example/pergamena/pergamena/build/LabResults$Comparator;" (.ref pR2) := c40.other W34 (Or.inr (slot_ne (Or.inr (ow hw 51 rfl)) (Or.inr (ow hw 59 rfl)) (by decide) (t := (.object "com/example/pergamena/pergamena/build/LabResults$Comparator")) (t' := (.object "java/lang/String")) (by decide) (by decide)))
  have c42 : Fld Z h19 pR1 "com/example/pergamena/pergamena/build/LabResults$Quantity" "number" "Ljava/lang/String;" (.ref pR3) := F13.other W19 (Or.inr (slot_ne (Or.inr (ow hw 53 rfl)) (Or.inr (ow hw 55 rfl)) (by decide) (t := (.object "java/lang/String")) (t' := (.object "java/lang/String")) (by decide) (by decide)))
  have c43 : Fld Z h26 pR1 "com/example/pergamena/pergamena/build/LabResults$Quantity" "number" "Ljava/lang/String;" (.ref pR3) := c42.other W26 (Or.inr (slot_ne (Or.inr (ow hw 53 rfl)) (Or.inr (ow hw 57 rfl)) (by decide) (t := (.object "java/lang/String")) (t' := (.object "java/lang/String")) (by decide) (by decide)))
  have c44 : Fld Z h34 pR1 "com/example/pergamena/pergamena/build/LabResults$Quantity" "number" "Ljava/lang/String;" (.ref pR3) := c43.other W34 (Or.inr (slot_ne (Or.inr (ow hw 53 rfl)) (Or.inr (ow hw 59 rfl)) (by decide) (t := (.object "java/lang/String")) (t' := (.object "java/lang/String")) (by decide) (by decide)))
  have c45 : Fld Z h26 pR1 "com/example/pergamena/pergamena/build/LabResults$Quantity" "unit" "Ljava/lang/String;" (.ref pR4) := F19.other W26 (Or.inr (slot_ne (Or.inr (ow hw 55 rfl)) (Or.inr (ow hw 57 rfl)) (by decide) (t := (.object "java/lang/String")) (t' := (.object "java/lang/String")) (by decide) (by decide)))
  have c46 : Fld Z h34 pR1 "com/example/pergamena/pergamena/build/LabResults$Quantity" "unit" "Ljava/lang/String;" (.ref pR4) := c45.other W34 (Or.inr (slot_ne (Or.inr (ow hw 55 rfl)) (Or.inr (ow hw 59 rfl)) (by decide) (t := (.object "java/lang/String")) (t' := (.object "java/lang/String")) (by decide) (by decide)))
  have c47 : Fld Z h34 pR1 "com/example/pergamena/pergamena/build/LabResults$Quantity" "low" "Ljava/lang/String;" (.ref pR5) := F26.other W34 (Or.inr (slot_ne (Or.inr (ow hw 57 rfl)) (Or.inr (ow hw 59 rfl)) (by decide) (t := (.object "java/lang/String")) (t' := (.object "java/lang/String")) (by decide) (by decide)))
  obtain ⟨fs, hr, hrun, hended, hW, hsame⟩ := X34.leave (v := none) (fun _ => rfl)
  refine ⟨_, _, castTop (ef_qRRR m pR1 pR2 pR3 pR4 pR5 pR6) ?_, hrun, hended, _, _, rfl, ?_, ⟨_, rfl⟩, hW, hsame.mono (by decide) (by decide)⟩
  · show oS p e below s₁ m 0 #[.val (.ref pR1), .val (.ref pR2), .val (.ref pR3), .val (.ref pR4), .val (.ref pR5), .val (.ref pR6)] [] _
    refine XS.aloadN X0.here hx rfl (hb hby d9_0) rfl rfl ?_
    refine st7.trans ?_
    refine XS.aloadN X7.here hx rfl (hb hby d9_4) rfl rfl ?_
    refine XS.aloadN X7.here hx rfl (hb hby d9_5) rfl rfl ?_
    show oS p e below T7 m 6 #[.val (.ref pR1), .val (.ref pR2), .val (.ref pR3), .val (.ref pR4), .val (.ref pR5), .val (.ref pR6)] [(.ref pR2), (.ref pR1)] _
    refine st8 _ ?_
    refine XS.aloadN X8.here hx rfl (hb hby d9_9) rfl rfl ?_
    refine XS.aloadN X8.here hx rfl (hb hby d9_10) rfl rfl ?_
    refine st13 _ ?_
    show oS p e below T13 m 14 #[.val (.ref pR1), .val (.ref pR2), .val (.ref pR3), .val (.ref pR4), .val (.ref pR5), .val (.ref pR6)] [] _
    refine XS.aloadN X13.here hx rfl (hb hby d9_14) rfl rfl ?_
    refine XS.aloadN X13.here hx rfl (hb hby d9_15) rfl rfl ?_
    refine st19 _ ?_
    refine XS.aloadN X19.here hx rfl (hb hby d9_19) rfl rfl ?_
    show oS p e below T19 m 20 #[.val (.ref pR1), .val (.ref pR2), .val (.ref pR3), .val (.ref pR4), .val (.ref pR5), .val (.ref pR6)] [(.ref pR1)] _
    refine XS.aload X19.here hx rfl (hb hby d9_20) rfl rfl ?_
    refine st26 _ ?_
    refine XS.aloadN X26.here hx rfl (hb hby d9_25) rfl rfl ?_
    refine XS.aload X26.here hx rfl (hb hby d9_26) rfl rfl ?_
    show oS p e below T26 m 28 #[.val (.ref pR1), .val (.ref pR2), .val (.ref pR3), .val (.ref pR4), .val (.ref pR5), .val (.ref pR6)] [(.ref pR6), (.ref pR1)] _
    refine st34 _ ?_
    exact X34.returnOut hx Bd.returns (hb hby d9_31) hr
  · show QqRRR Z pR1 pR2 pR3 pR4 pR5 pR6 h0 n0 _ T34.heap _
    rw [e34]
    exact ⟨rfl, N34, K35, c37, c41, c44, c46, c47, F34⟩
theorem d11_0 : decode prog_18_method_2_code 0 = .ok (.aload_n 0, 1) := by decide +kernel
theorem d11_1 : decode prog_18_method_2_code 1 = .ok (.getfield 20, 3) := by decide +kernel
theorem d11_4 : decode prog_18_method_2_code 4 = .ok (.ifnonnull 10, 3) := by decide +kernel
theorem d11_14 : decode prog_18_method_2_code 14 = .ok (.iconst 1, 1) := by decide +kernel
theorem d11_15 : decode prog_18_method_2_code 15 = .ok (.goto 4, 3) := by decide +kernel
theorem d11_19 : decode prog_18_method_2_code 19 = .ok (.ireturn, 1) := by decide +kernel
theorem ef_hrR (m : MethodId) (pR1 : Addr) : entryFrame m #[(.ref pR1)] 1 = mkF m 0 #[.val (.ref pR1)] [] := by first | (simp [entryFrame, mkF, argsToLocals, Value.category]; done) | rfl
def QhrR (Z : State) (pR1 : Addr) (pR2 : Addr) (h0 : Heap) (n0 : Nat) (v : Option Value) (h : Heap) (L : List Loc) : Prop := v = some (.int 1) ∧ Fr n0 L ∧ h = h0
set_option maxRecDepth 65536 in
set_option maxHeartbeats 40000000 in
theorem hrR (l : Launch) (Z : State) (a0 : Array Value) (hw : ∀ d ∈ tables_1, d.before a0 Z = true) (ws : List Jvm.Cond) (pR1 : Addr) (pR2 : Addr) (h0 : Heap) (n0 : Nat) (Z0 : n0 ≤ h0.size) (F_low_pR1 : Fld Z h0 pR1 "com/example/pergamena/pergamena/build/LabResults$Quantity" "low" "Ljava/lang/String;" (.ref pR2)) :
    oM l yN9 prog_18_method_2_code 1 (some .boolean) ws ({ frames := 0, cells := 0, slots := 0, locals := 0 } : Room) #[(.ref pR1)] Z h0 (QhrR Z pR1 pR2 h0 n0) := by
  refine MetFree.of_bodySF (plainFor_of_name pn_4) hisR ?_
  intro p e s m args below meth c s₁ Bd hml0 hP hK
  obtain ⟨rfl, hZ, hh⟩ := hP
  have hx := Bd.exec
  have hby := Bd.bytes
  have hml : c.maxLocals = 1 := hml0
  have hown : s.vm.findClass "com/example/pergamena/pergamena/build/LabResults$Quantity" = some m.cls := findClass_of_methodNamed Bd.named
  have hnm := (name_of_methodNamed Bd.named Bd.method).1
  have X0 : Stand p l e ({ frames := 0, cells := 0, slots := 0, locals := 0 } : Room) s m #[(.ref pR1)] below meth c s₁ [] 0 0 := Stand.of_body Bd
  have e0 : s₁.heap = h0 := by rw [← hh, Bd.state]; rfl
  have N0 := Fr.nil n0
  obtain ⟨T3, X3, e3, st3⟩ := getF X0 hx hZ hown (host := "") (Or.inl (ow hw 56 rfl)) Via.refl e0 F_low_pR1 (g := (mkF m 1 #[.val (.ref pR1)] [(.ref pR1)])) rfl rfl (hb hby d11_1)
  obtain ⟨fs, hr, hrun, hended, hW, hsame⟩ := X3.leave (v := some (.int 1)) (fun h => by rw [Bd.returns] at h; cases h)
  refine ⟨_, _, castTop (ef_hrR m pR1) ?_, hrun, hended, _, _, rfl, ?_, ⟨_, rfl⟩, hW, hsame.mono (by decide) (by decide)⟩
  · show oS p e below s₁ m 0 #[.val (.ref pR1)] [] _
    refine XS.aloadN X0.here hx rfl (hb hby d11_0) rfl rfl ?_
    refine st3 _ ?_
    refine XS.ifnonnullYes X3.here hx rfl (pc0 := 4) (pc' := 14) rfl (hb hby d11_4) rfl (by decide) (by decide) ?_
    refine XS.iconst X3.here hx rfl (hb hby d11_14) ?_
    show oS p e below T3 m 15 #[.val (.ref pR1)] [(.int 1)] _
    refine XS.goto X3.here hx rfl (pc0 := 15) (pc' := 19) rfl (hb hby d11_15) (by decide) (by decide) ?_
    exact retN X3 hx (t := .boolean) Bd.returns (by simp) (hb hby d11_19) hr
  · show QhrR Z pR1 pR2 h0 n0 _ T3.heap _
    rw [e3]
    exact ⟨rfl, N0, rfl⟩
theorem d11_7 : decode prog_18_method_2_code 7 = .ok (.aload_n 0, 1) := by decide +kernel
theorem d11_8 : decode prog_18_method_2_code 8 = .ok (.getfield 23, 3) := by decide +kernel
theorem d11_11 : decode prog_18_method_2_code 11 = .ok (.ifnull 7, 3) := by decide +kernel
theorem ef_hrNR (m : MethodId) (pR1 : Addr) : entryFrame m #[(.ref pR1)] 1 = mkF m 0 #[.val (.ref pR1)] [] := by first | (simp [entryFrame, mkF, argsToLocals, Value.category]; done) | rfl
def QhrNR (Z : State) (pR1 : Addr) (pR3 : Addr) (h0 : Heap) (n0 : Nat) (v : Option Value) (h : Heap) (L : List Loc) : Prop := v = some (.int 1) ∧ Fr n0 L ∧ h = h0
set_option maxRecDepth 65536 in
set_option maxHeartbeats 40000000 in
theorem hrNR (l : Launch) (Z : State) (a0 : Array Value) (hw : ∀ d ∈ tables_1, d.before a0 Z = true) (ws : List Jvm.Cond) (pR1 : Addr) (pR3 : Addr) (h0 : Heap) (n0 : Nat) (Z0 : n0 ≤ h0.size) (F_low_pR1 : Fld Z h0 pR1 "com/example/pergamena/pergamena/build/LabResults$Quantity" "low" "Ljava/lang/String;" .null) (F_high_pR1 : Fld Z h0 pR1 "com/example/pergamena/pergamena/build/LabResults$Quantity" "high" "Ljava/lang/String;" (.ref pR3)) :
    oM l yN9 prog_18_method_2_code 1 (some .boolean) ws ({ frames := 0, cells := 0, slots := 0, locals := 0 } : Room) #[(.ref pR1)] Z h0 (QhrNR Z pR1 pR3 h0 n0) := by
  refine MetFree.of_bodySF (plainFor_of_name pn_4) hisR ?_
  intro p e s m args below meth c s₁ Bd hml0 hP hK
  obtain ⟨rfl, hZ, hh⟩ := hP
  have hx := Bd.exec
  have hby := Bd.bytes
  have hml : c.maxLocals = 1 := hml0
  have hown : s.vm.findClass "com/example/pergamena/pergamena/build/LabResults$Quantity" = some m.cls := findClass_of_methodNamed Bd.named
  have hnm := (name_of_methodNamed Bd.named Bd.method).1
  have X0 : Stand p l e ({ frames := 0, cells := 0, slots := 0, locals := 0 } : Room) s m #[(.ref pR1)] below meth c s₁ [] 0 0 := Stand.of_body Bd
  have e0 : s₁.heap = h0 := by rw [← hh, Bd.state]; rfl
  have N0 := Fr.nil n0
  obtain ⟨T2, X2, e2, st2⟩ := getF X0 hx hZ hown (host := "") (Or.inl (ow hw 56 rfl)) Via.refl e0 F_low_pR1 (g := (mkF m 1 #[.val (.ref pR1)] [(.ref pR1)])) rfl rfl (hb hby d11_1)
  obtain ⟨T4, X4, e4, st4⟩ := getF X2 hx hZ hown (host := "") (Or.inl (ow hw 58 rfl)) Via.refl e2 F_high_pR1 (g := (mkF m 8 #[.val (.ref pR1)] [(.ref pR1)])) rfl rfl (hb hby d11_8)
  obtain ⟨fs, hr, hrun, hended, hW, hsame⟩ := X4.leave (v := some (.int 1)) (fun h => by rw [Bd.returns] at h; cases h)
  refine ⟨_, _, castTop (ef_hrNR m pR1) ?_, hrun, hended, _, _, rfl, ?_, ⟨_, rfl⟩, hW, hsame.mono (by decide) (by decide)⟩
  · show oS p e below s₁ m 0 #[.val (.ref pR1)] [] _
    refine XS.aloadN X0.here hx rfl (hb hby d11_0) rfl rfl ?_
    refine st2 _ ?_
    refine XS.ifnonnullNo X2.here hx rfl (hb hby d11_4) rfl ?_
    refine XS.aloadN X2.here hx rfl (hb hby d11_7) rfl rfl ?_
    show oS p e below T2 m 8 #[.val (.ref pR1)] [(.ref pR1)] _
    refine st4 _ ?_
    refine XS.ifnullNo X4.here hx rfl (hb hby d11_11) rfl ?_
    refine XS.iconst X4.here hx rfl (hb hby d11_14) ?_
    refine XS.goto X4.here hx rfl (pc0 := 15) (pc' := 19) rfl (hb hby d11_15) (by decide) (by decide) ?_
    show oS p e below T4 m 19 #[.val (.ref pR1)] [(.int 1)] _
    exact retN X4 hx (t := .boolean) Bd.returns (by simp) (hb hby d11_19) hr
  · show QhrNR Z pR1 pR3 h0 n0 _ T4.heap _
    rw [e4]
    exact ⟨rfl, N0, rfl⟩
theorem d11_18 : decode prog_18_method_2_code 18 = .ok (.iconst 0, 1) := by decide +kernel
theorem ef_hrNN (m : MethodId) (pR1 : Addr) : entryFrame m #[(.ref pR1)] 1 = mkF m 0 #[.val (.ref pR1)] [] := by first | (simp [entryFrame, mkF, argsToLocals, Value.category]; done) | rfl
def QhrNN (Z : State) (pR1 : Addr) (h0 : Heap) (n0 : Nat) (v : Option Value) (h : Heap) (L : List Loc) : Prop := v = some (.int 0) ∧ Fr n0 L ∧ h = h0
set_option maxRecDepth 65536 in
set_option maxHeartbeats 40000000 in
theorem hrNN (l : Launch) (Z : State) (a0 : Array Value) (hw : ∀ d ∈ tables_1, d.before a0 Z = true) (ws : List Jvm.Cond) (pR1 : Addr) (h0 : Heap) (n0 : Nat) (Z0 : n0 ≤ h0.size) (F_low_pR1 : Fld Z h0 pR1 "com/example/pergamena/pergamena/build/LabResults$Quantity" "low" "Ljava/lang/String;" .null) (F_high_pR1 : Fld Z h0 pR1 "com/example/pergamena/pergamena/build/LabResults$Quantity" "high" "Ljava/lang/String;" .null) :
    oM l yN9 prog_18_method_2_code 1 (some .boolean) ws ({ frames := 0, cells := 0, slots := 0, locals := 0 } : Room) #[(.ref pR1)] Z h0 (QhrNN Z pR1 h0 n0) := by
  refine MetFree.of_bodySF (plainFor_of_name pn_4) hisR ?_
  intro p e s m args below meth c s₁ Bd hml0 hP hK
  obtain ⟨rfl, hZ, hh⟩ := hP
  have hx := Bd.exec
  have hby := Bd.bytes
  have hml : c.maxLocals = 1 := hml0
  have hown : s.vm.findClass "com/example/pergamena/pergamena/build/LabResults$Quantity" = some m.cls := findClass_of_methodNamed Bd.named
  have hnm := (name_of_methodNamed Bd.named Bd.method).1
  have X0 : Stand p l e ({ frames := 0, cells := 0, slots := 0, locals := 0 } : Room) s m #[(.ref pR1)] below meth c s₁ [] 0 0 := Stand.of_body Bd
  have e0 : s₁.heap = h0 := by rw [← hh, Bd.state]; rfl
  have N0 := Fr.nil n0
  obtain ⟨T2, X2, e2, st2⟩ := getF X0 hx hZ hown (host := "") (Or.inl (ow hw 56 rfl)) Via.refl e0 F_low_pR1 (g := (mkF m 1 #[.val (.ref pR1)] [(.ref pR1)])) rfl rfl (hb hby d11_1)
  obtain ⟨T3, X3, e3, st3⟩ := getF X2 hx hZ hown (host := "") (Or.inl (ow hw 58 rfl)) Via.refl e2 F_high_pR1 (g := (mkF m 8 #[.val (.ref pR1)] [(.ref pR1)])) rfl rfl (hb hby d11_8)
  obtain ⟨fs, hr, hrun, hended, hW, hsame⟩ := X3.leave (v := some (.int 0)) (fun h => by rw [Bd.returns] at h; cases h)
  refine ⟨_, _, castTop (ef_hrNN m pR1) ?_, hrun, hended, _, _, rfl, ?_, ⟨_, rfl⟩, hW, hsame.mono (by decide) (by decide)⟩
  · show oS p e below s₁ m 0 #[.val (.ref pR1)] [] _
    refine XS.aloadN X0.here hx rfl (hb hby d11_0) rfl rfl ?_
    refine st2 _ ?_
    refine XS.ifnonnullNo X2.here hx rfl (hb hby d11_4) rfl ?_
    refine XS.aloadN X2.here hx rfl (hb hby d11_7) rfl rfl ?_
    show oS p e below T2 m 8 #[.val (.ref pR1)] [(.ref pR1)] _
    refine st3 _ ?_
    refine XS.ifnullYes X3.here hx rfl (pc0 := 11) (pc' := 18) rfl (hb hby d11_11) rfl (by decide) (by decide) ?_
    refine XS.iconst X3.here hx rfl (hb hby d11_18) ?_
    exact retN X3 hx (t := .boolean) Bd.returns (by simp) (hb hby d11_19) hr
  · show QhrNN Z pR1 h0 n0 _ T3.heap _
    rw [e3]
    exact ⟨rfl, N0, rfl⟩
theorem pd_6 : parseMethodDescriptor "(II)Ljava/lang/String;" = some ⟨[.int, .int], some (.object "java/lang/String")⟩ := by decide +kernel
theorem pd_7 : parseMethodDescriptor "(I)Lcom/example/pergamena/pergamena/build/LabResults$Comparator;" = some ⟨[.int], some (.object "com/example/pergamena/pergamena/build/LabResults$Comparator")⟩ := by decide +kernel
theorem pd_8 : parseMethodDescriptor "(Lcom/example/pergamena/pergamena/build/LabResults$Comparator;Ljava/lang/String;Ljava/lang/String;Ljava/lang/String;Ljava/lang/String;)V" = some ⟨[(.object "com/example/pergamena/pergamena/build/LabResults$Comparator"), (.object "java/lang/String"), (.object "java/lang/String"), (.object "java/lang/String"), (.object "java/lang/String")], none⟩ := by decide +kernel
theorem pd_9 : parseMethodDescriptor "()Z" = some ⟨[], some .boolean⟩ := by decide +kernel
theorem ef_lawNNN (m : MethodId) (pI1 : Int32) (pI2 : Int32) (pI3 : Int32) (pI4 : Int32) : entryFrame m #[(.int pI1), (.int pI2), (.int pI3), (.int pI4)] maxLocals = mkF m 0 #[.val (.int pI1), .val (.int pI2), .val (.int pI3), .val (.int pI4), .unset, .unset, .unset, .unset, .unset, .unset, .unset, .unset, .unset, .unset, .unset, .unset, .unset] [] := by first | (simp [entryFrame, mkF, argsToLocals, Value.category, maxLocals]; done) | rfl
def QlawNNN (Z : State) (pI1 : Int32) (pI2 : Int32) (pI3 : Int32) (pI4 : Int32) (pI31 : Int32) (h0 : Heap) (n0 : Nat) (v : Option Value) (h : Heap) (L : List Loc) : Prop := v = some (.int 1) ∧ Fr n0 L
set_option maxRecDepth 65536 in
set_option maxHeartbeats 40000000 in
theorem lawNNN (l : Launch) (Z : State) (a0 : Array Value) (hw : ∀ d ∈ tables_1, d.before a0 Z = true) (ws : List Jvm.Cond) (pI1 : Int32) (pI2 : Int32) (pI3 : Int32) (pI4 : Int32) (pI31 : Int32) (h0 : Heap) (n0 : Nat) (Z0 : n0 ≤ h0.size) (S_String_COMPACT_STRINGS : Sta Z h0 "java/lang/String" "COMPACT_STRINGS" "Z" (.int pI31)) (hc63 : ¬ (pI31 = (0 : Int32))) (hc82 : ((pI2 &&& (3 : Int32)) % (3 : Int32)) = (0 : Int32)) (hc93 : ((((pI2.toUInt32 >>> ((2 : Int32) &&& 31).toUInt32).toInt32) &&& (3 : Int32)) % (3 : Int32)) = (0 : Int32)) (hc104 : ((pI1 &&& (2147483647 : Int32)) % (5 : Int32)) = (0 : Int32)) :
    oMW l x code maxLocals ret ws room_1 #[(.int pI1), (.int pI2), (.int pI3), (.int pI4)] Z h0 (QlawNNN Z pI1 pI2 pI3 pI4 pI31 h0 n0) := by
  refine MetFree.of_bodySF (plainFor_of_name pn_2) hisR ?_
  intro p e s m args below meth c s₁ Bd hml0 hP hK
  obtain ⟨rfl, hZ, hh⟩ := hP
  have hx := Bd.exec
  have hby := Bd.bytes
  have hml : c.maxLocals = 17 := hml0
  have hown : s.vm.findClass "com/example/pergamena/pergamena/build/QuantityHasRangePinLaw" = some m.cls := findClass_of_methodNamed Bd.named
  have hnm := (name_of_methodNamed Bd.named Bd.method).1
  have X0 : Stand p l e room_1 s m #[(.int pI1), (.int pI2), (.int pI3), (.int pI4)] below meth c s₁ [] 0 0 := Stand.of_body Bd
  have e0 : s₁.heap = h0 := by rw [← hh, Bd.state]; rfl
  have N0 := Fr.nil n0
  have X0 : Stand p l e room_1 (s.setVm s.vm) m #[(.int pI1), (.int pI2), (.int pI3), (.int pI4)] below meth c s₁ [] 0 0 := X0
  have hS0 : s.Since s.vm 0 := (State.WarmedH.refl s).since 0
  have hk0 : 0 ≤ h0.size := Nat.zero_le _
  have hZ : Z.Warmed39 (s.setVm s.vm).vm := hZ
  have hown : (s.setVm s.vm).vm.findClass "com/example/pergamena/pergamena/build/QuantityHasRangePinLaw" = some m.cls := hown
  obtain ⟨T5, h5, k5, X5, e5, E5, A5, st5⟩ := newP X0 hx hZ (ow hw 1 rfl) e0 (g := (mkF m 25 #[.val (.int pI1), .val (.int pI2), .val (.int pI3), .val (.int pI4), .val (.int ((pI1 &&& (2147483647 : Int32)) % (5 : Int32))), .val (.int ((pI2 &&& (3 : Int32)) % (3 : Int32))), .val (.int ((((pI2.toUInt32 >>> ((2 : Int32) &&& 31).toUInt32).toInt32) &&& (3 : Int32)) % (3 : Int32))), .unset, .unset, .unset, .unset, .unset, .unset, .unset, .unset, .unset, .unset] [(.int 1)])) rfl (hb hby at_25) rfl (by decide) (cap := 1) (by decide) (by decide) (by decide) (by decide)
  obtain ⟨bR5, g5⟩ : ∃ z, z = h0.size := ⟨_, rfl⟩
  rw [← g5] at A5 st5
  have Z7 : n0 ≤ h5.size := (Nat.le_trans Z0 E5.1)
  have V5 : Arv Z h5 bR5 k5 .char (1 : Int32) [(.int 0)] (.int (0 : Int32)) := (Arv.new A5 (by decide)).pad (pad_rep [] (.int (0 : Int32)) 1)
  have g8 : n0 ≤ bR5 := Nat.le_trans Z0 (Nat.le_of_eq g5.symm)
  obtain ⟨clq9, Arq9, Akq9, Asq9, Anq9, Ahq9, Agq9⟩ := id V5
  have hin10 : ¬ ((0 : Int32) < 0 ∨ clq9.slots.size ≤ ((0 : Int32)).toNatClampNeg) := inb_of Asq9 ⟨by decide, by decide⟩
  obtain ⟨T11, h11, X11, e11, W11, st11⟩ := stC X5 hx hZ e5 Arq9 (j := (0 : Int32)) hin10 (g := (mkF m 38 #[.val (.int pI1), .val (.int pI2), .val (.int pI3), .val (.int pI4), .val (.int ((pI1 &&& (2147483647 : Int32)) % (5 : Int32))), .val (.int ((pI2 &&& (3 : Int32)) % (3 : Int32))), .val (.int ((((pI2.toUInt32 >>> ((2 : Int32) &&& 31).toUInt32).toInt32) &&& (3 : Int32)) % (3 : Int32))), .val (.ref bR5), .unset, .unset, .unset, .unset, .unset, .unset, .unset, .unset, .unset] [(.int ((pI3 &&& (255 : Int32)).toUInt32.toUInt16.toUInt32.toInt32)), (.int 0), (.ref bR5)])) rfl rfl (hb hby at_38)
  rw [own_narc (own_c255 _)] at W11
  have Z13 : n0 ≤ h11.size := (Nat.le_trans Z7 (Keep.of_wr W11).1)
  have N11 := Fr.snoc X11 N0 g8
  obtain ⟨Lh11, X11, N11⟩ := own_hide X11 N11
  have V11 : Arv Z h11 bR5 k5 .char (1 : Int32) [(.int ((pI3 &&& (255 : Int32)).toUInt32.toUInt16.toUInt32.toInt32))] (.int (0 : Int32)) := Arv.set Arq9 Akq9 Asq9 Anq9 Ahq9 Agq9 (own_fitc (own_c255 _)) W11 0 rfl (Nat.le_of_ble_eq_true rfl)
  obtain ⟨T14, h14, k14, X14, e14, E14, A14, st14⟩ := newP X11 hx hZ (ow hw 1 rfl) e11 (g := (mkF m 40 #[.val (.int pI1), .val (.int pI2), .val (.int pI3), .val (.int pI4), .val (.int ((pI1 &&& (2147483647 : Int32)) % (5 : Int32))), .val (.int ((pI2 &&& (3 : Int32)) % (3 : Int32))), .val (.int ((((pI2.toUInt32 >>> ((2 : Int32) &&& 31).toUInt32).toInt32) &&& (3 : Int32)) % (3 : Int32))), .val (.ref bR5), .unset, .unset, .unset, .unset, .unset, .unset, .unset, .unset, .unset] [(.int 1)])) rfl (hb hby at_40) rfl (by decide) (cap := 1) (by decide) (by decide) (by decide) (by decide)
  obtain ⟨bR14, g14⟩ : ∃ z, z = h11.size := ⟨_, rfl⟩
  rw [← g14] at A14 st14
  have Z16 : n0 ≤ h14.size := (Nat.le_trans Z13 E14.1)
  have V14 : Arv Z h14 bR14 k14 .char (1 : Int32) [(.int 0)] (.int (0 : Int32)) := (Arv.new A14 (by decide)).pad (pad_rep [] (.int (0 : Int32)) 1)
  have g17 : n0 ≤ bR14 := Nat.le_trans Z13 (Nat.le_of_eq g14.symm)
  obtain ⟨clq18, Arq18, Akq18, Asq18, Anq18, Ahq18, Agq18⟩ := id V14
  have hin19 : ¬ ((0 : Int32) < 0 ∨ clq18.slots.size ≤ ((0 : Int32)).toNatClampNeg) := inb_of Asq18 ⟨by decide, by decide⟩
  obtain ⟨T20, h20, X20, e20, W20, st20⟩ := stC X14 hx hZ e14 Arq18 (j := (0 : Int32)) hin19 (g := (mkF m 56 #[.val (.int pI1), .val (.int pI2), .val (.int pI3), .val (.int pI4), .val (.int ((pI1 &&& (2147483647 : Int32)) % (5 : Int32))), .val (.int ((pI2 &&& (3 : Int32)) % (3 : Int32))), .val (.int ((((pI2.toUInt32 >>> ((2 : Int32) &&& 31).toUInt32).toInt32) &&& (3 : Int32)) % (3 : Int32))), .val (.ref bR5), .val (.ref bR14), .unset, .unset, .unset, .unset, .unset, .unset, .unset, .unset] [(.int ((((pI3.toUInt32 >>> ((8 : Int32) &&& 31).toUInt32).toInt32) &&& (255 : Int32)).toUInt32.toUInt16.toUInt32.toInt32)), (.int 0), (.ref bR14)])) rfl rfl (hb hby at_56)
  rw [own_narc (own_c255 _)] at W20
  have Z22 : n0 ≤ h20.size := (Nat.le_trans Z16 (Keep.of_wr W20).1)
  have N20 := Fr.snoc X20 N11 g17
  obtain ⟨Lh20, X20, N20⟩ := own_hide X20 N20
  have V20 : Arv Z h20 bR14 k14 .char (1 : Int32) [(.int ((((pI3.toUInt32 >>> ((8 : Int32) &&& 31).toUInt32).toInt32) &&& (255 : Int32)).toUInt32.toUInt16.toUInt32.toInt32))] (.int (0 : Int32)) := Arv.set Arq18 Akq18 Asq18 Anq18 Ahq18 Agq18 (own_fitc (own_c255 _)) W20 0 rfl (Nat.le_of_ble_eq_true rfl)
  obtain ⟨T23, h23, X23, e23, E23, A23, D23, U23, st23⟩ := newO X20 hx hZ hown (ow hw 2 rfl) (ow hw 3 rfl) (ow hw 4 rfl) e20 (g := (mkF m 57 #[.val (.int pI1), .val (.int pI2), .val (.int pI3), .val (.int pI4), .val (.int ((pI1 &&& (2147483647 : Int32)) % (5 : Int32))), .val (.int ((pI2 &&& (3 : Int32)) % (3 : Int32))), .val (.int ((((pI2.toUInt32 >>> ((2 : Int32) &&& 31).toUInt32).toInt32) &&& (3 : Int32)) % (3 : Int32))), .val (.ref bR5), .val (.ref bR14), .unset, .unset, .unset, .unset, .unset, .unset, .unset, .unset] [])) rfl (hb hby at_57) (by decide) (by decide)
  obtain ⟨bR23, g23⟩ : ∃ z, z = h20.size := ⟨_, rfl⟩
  rw [← g23] at A23 D23 U23 st23
  have Z25 : n0 ≤ h23.size := (Nat.le_trans Z22 E23.1)
  have F26 : Fld Z h23 bR23 "java/lang/String" "coder" "B" (.int 0) := D23 (Or.inr (ow hw 28 rfl)) (ty := .byte) (by decide)
  have F27 : Fld Z h23 bR23 "java/lang/String" "value" "[B" .null := D23 (Or.inr (ow hw 30 rfl)) (ty := (.array .byte)) (by decide)
  have c28 : Arv Z h14 bR5 k5 .char (1 : Int32) [(.int ((pI3 &&& (255 : Int32)).toUInt32.toUInt16.toUInt32.toInt32))] (.int (0 : Int32)) := V11.ext E14
  have c29 : Arv Z h20 bR5 k5 .char (1 : Int32) [(.int ((pI3 &&& (255 : Int32)).toUInt32.toUInt16.toUInt32.toInt32))] (.int (0 : Int32)) := c28.other W20 (Nat.ne_of_lt (Nat.lt_of_lt_of_le V11.lt (Nat.le_of_eq g14.symm)))
  have c30 : Arv Z h23 bR5 k5 .char (1 : Int32) [(.int ((pI3 &&& (255 : Int32)).toUInt32.toUInt16.toUInt32.toInt32))] (.int (0 : Int32)) := c29.ext E23
  have c32 : Sta Z h5 "java/lang/String" "COMPACT_STRINGS" "Z" (.int pI31) := S_String_COMPACT_STRINGS.ext E5
  have c33 : Sta Z h11 "java/lang/String" "COMPACT_STRINGS" "Z" (.int pI31) := c32.wr W11
  have c34 : Sta Z h14 "java/lang/String" "COMPACT_STRINGS" "Z" (.int pI31) := c33.ext E14
  have c35 : Sta Z h20 "java/lang/String" "COMPACT_STRINGS" "Z" (.int pI31) := c34.wr W20
  have c36 : Sta Z h23 "java/lang/String" "COMPACT_STRINGS" "Z" (.int pI31) := c35.ext E23
  have g37 : n0 ≤ bR23 := Nat.le_trans Z22 (Nat.le_of_eq g23.symm)
  obtain ⟨_, _, ⟨T38, L38, k38, n38⟩, -, X38, ⟨Lc38, hQ38, l38, y38, z38⟩, st38⟩ := X23.specialBack hx (y := yN4) rfl hown (mvT hZ (ow hw 5 rfl)) (mvT hZ (ow hw 6 rfl)) (mvT hZ (ow hw 7 rfl)) (by decide) (backOf (W := 1) (str l Z a0 hw [] bR23 bR5 ((pI3 &&& (255 : Int32)).toUInt32.toUInt16.toUInt32.toInt32) k5 pI31 h23 n0 Z25 c30 c36 A23 F26 g37 F27 hc63 (own_l255 _ : ¬ ((255 : Int32) < ((pI3 &&& (255 : Int32)).toUInt32.toUInt16.toUInt32.toInt32)))) hZ (ow hw 7 rfl) (ow hw 4 rfl) (by decide) (by decide)) (g := (mkF m 63 #[.val (.int pI1), .val (.int pI2), .val (.int pI3), .val (.int pI4), .val (.int ((pI1 &&& (2147483647 : Int32)) % (5 : Int32))), .val (.int ((pI2 &&& (3 : Int32)) % (3 : Int32))), .val (.int ((((pI2.toUInt32 >>> ((2 : Int32) &&& 31).toUInt32).toInt32) &&& (3 : Int32)) % (3 : Int32))), .val (.ref bR5), .val (.ref bR14), .unset, .unset, .unset, .unset, .unset, .unset, .unset, .unset] [(.ref bR5), (.ref bR23), (.ref bR23)])) rfl (by rw [hml]; rfl) (Steps.refl _) (a := bR23) (argsL := [(.ref bR5)]) (rest := [(.ref bR23)]) (lenOf pd_4 rfl) rfl (Nat.le_refl _) (hb hby at_63) (fun _ _ => ⟨rfl, e23, (by decide : 3 + 1 ≤ _), (by decide : 6 + 1 ≤ _)⟩)
  dsimp only [Pt.U, Pt.locs, Pt.cells, Pt.slots] at X38 l38 y38 z38 st38 hQ38
  subst l38 y38 z38
  obtain ⟨bR38_0, kK38_0, rfl, Nq38, Kq38, sz38_0, x38_0, x38_1, x38_2, x38_3⟩ := hQ38
  have N38 := Fr.app N20 Nq38
  obtain ⟨Lh38, X38, N38⟩ := own_hide X38 N38
  have Z40 : n0 ≤ T38.heap.size := (Nat.le_trans Z25 Kq38.1)
  obtain ⟨T41, h41, X41, e41, E41, A41, D41, U41, st41⟩ := newO X38 hx hZ hown (ow hw 2 rfl) (ow hw 3 rfl) (ow hw 4 rfl) rfl (g := (mkF m 68 #[.val (.int pI1), .val (.int pI2), .val (.int pI3), .val (.int pI4), .val (.int ((pI1 &&& (2147483647 : Int32)) % (5 : Int32))), .val (.int ((pI2 &&& (3 : Int32)) % (3 : Int32))), .val (.int ((((pI2.toUInt32 >>> ((2 : Int32) &&& 31).toUInt32).toInt32) &&& (3 : Int32)) % (3 : Int32))), .val (.ref bR5), .val (.ref bR14), .val (.ref bR23), .unset, .unset, .unset, .unset, .unset, .unset, .unset] [])) rfl (hb hby at_68) (by decide) (by decide)
  obtain ⟨bR41, g41⟩ : ∃ z, z = T38.heap.size := ⟨_, rfl⟩
  rw [← g41] at A41 D41 U41 st41
  have Z43 : n0 ≤ h41.size := (Nat.le_trans Z40 E41.1)
  have F44 : Fld Z h41 bR41 "java/lang/String" "coder" "B" (.int 0) := D41 (Or.inr (ow hw 28 rfl)) (ty := .byte) (by decide)
  have F45 : Fld Z h41 bR41 "java/lang/String" "value" "[B" .null := D41 (Or.inr (ow hw 30 rfl)) (ty := (.array .byte)) (by decide)
  have c46 : Arv Z h23 bR14 k14 .char (1 : Int32) [(.int ((((pI3.toUInt32 >>> ((8 : Int32) &&& 31).toUInt32).toInt32) &&& (255 : Int32)).toUInt32.toUInt16.toUInt32.toInt32))] (.int (0 : Int32)) := V20.ext E23
  have c47 : Arv Z T38.heap bR14 k14 .char (1 : Int32) [(.int ((((pI3.toUInt32 >>> ((8 : Int32) &&& 31).toUInt32).toInt32) &&& (255 : Int32)).toUInt32.toUInt16.toUInt32.toInt32))] (.int (0 : Int32)) := c46.keep Kq38 (ninS (Nat.ne_of_lt (Nat.lt_of_lt_of_le V20.lt (Nat.le_of_eq g23.symm))) nin0)
  have c48 : Arv Z h41 bR14 k14 .char (1 : Int32) [(.int ((((pI3.toUInt32 >>> ((8 : Int32) &&& 31).toUInt32).toInt32) &&& (255 : Int32)).toUInt32.toUInt16.toUInt32.toInt32))] (.int (0 : Int32)) := c47.ext E41
  have c49 : Sta Z T38.heap "java/lang/String" "COMPACT_STRINGS" "Z" (.int pI31) := own_sta_keep c36 Kq38 (allS (own_plain_E A23) all0)
  have c50 : Sta Z h41 "java/lang/String" "COMPACT_STRINGS" "Z" (.int pI31) := c49.ext E41
  have g51 : n0 ≤ bR41 := Nat.le_trans Z40 (Nat.le_of_eq g41.symm)
  obtain ⟨_, _, ⟨T52, L52, k52, n52⟩, -, X52, ⟨Lc52, hQ52, l52, y52, z52⟩, st52⟩ := X41.specialBack hx (y := yN4) rfl hown (mvT hZ (ow hw 5 rfl)) (mvT hZ (ow hw 6 rfl)) (mvT hZ (ow hw 7 rfl)) (by decide) (backOf (W := 1) (str l Z a0 hw [] bR41 bR14 ((((pI3.toUInt32 >>> ((8 : Int32) &&& 31).toUInt32).toInt32) &&& (255 : Int32)).toUInt32.toUInt16.toUInt32.toInt32) k14 pI31 h41 n0 Z43 c48 c50 A41 F44 g51 F45 hc63 (own_l255 _ : ¬ ((255 : Int32) < ((((pI3.toUInt32 >>> ((8 : Int32) &&& 31).toUInt32).toInt32) &&& (255 : Int32)).toUInt32.toUInt16.toUInt32.toInt32)))) hZ (ow hw 7 rfl) (ow hw 4 rfl) (by decide) (by decide)) (g := (mkF m 74 #[.val (.int pI1), .val (.int pI2), .val (.int pI3), .val (.int pI4), .val (.int ((pI1 &&& (2147483647 : Int32)) % (5 : Int32))), .val (.int ((pI2 &&& (3 : Int32)) % (3 : Int32))), .val (.int ((((pI2.toUInt32 >>> ((2 : Int32) &&& 31).toUInt32).toInt32) &&& (3 : Int32)) % (3 : Int32))), .val (.ref bR5), .val (.ref bR14), .val (.ref bR23), .unset, .unset, .unset, .unset, .unset, .unset, .unset] [(.ref bR14), (.ref bR41), (.ref bR41)])) rfl (by rw [hml]; rfl) (Steps.refl _) (a := bR41) (argsL := [(.ref bR14)]) (rest := [(.ref bR41)]) (lenOf pd_4 rfl) rfl (Nat.le_refl _) (hb hby at_74) (fun _ _ => ⟨rfl, e41, (by decide : 5 + 1 ≤ _), (by decide : 11 + 1 ≤ _)⟩)
  dsimp only [Pt.U, Pt.locs, Pt.cells, Pt.slots] at X52 l52 y52 z52 st52 hQ52
  subst l52 y52 z52
  obtain ⟨bR52_0, kK52_0, rfl, Nq52, Kq52, sz52_0, x52_0, x52_1, x52_2, x52_3⟩ := hQ52
  have N52 := Fr.app N38 Nq52
  obtain ⟨Lh52, X52, N52⟩ := own_hide X52 N52
  have Z54 : n0 ≤ T52.heap.size := (Nat.le_trans Z43 Kq52.1)
  obtain ⟨_, _, ⟨T55, L55, k55, n55⟩, -, X55, ⟨Lc55, hQ55, l55, y55, z55⟩, st55⟩ := Jvm.LawKit.callS X52 hx (y := yN5) hown (mvT hZ (ow hw 31 rfl)) (mvT hZ (ow hw 32 rfl)) (mvT hZ (ow hw 33 rfl)) (mvT hZ (ow hw 34 rfl)) (by decide) (backOf (W := 0) (endN l Z a0 hw [] ((pI2 &&& (3 : Int32)) % (3 : Int32)) pI4 T52.heap n0 Z54 hc82) hZ (ow hw 34 rfl) (ow hw 33 rfl) (by decide) (by decide)) (g := (mkF m 82 #[.val (.int pI1), .val (.int pI2), .val (.int pI3), .val (.int pI4), .val (.int ((pI1 &&& (2147483647 : Int32)) % (5 : Int32))), .val (.int ((pI2 &&& (3 : Int32)) % (3 : Int32))), .val (.int ((((pI2.toUInt32 >>> ((2 : Int32) &&& 31).toUInt32).toInt32) &&& (3 : Int32)) % (3 : Int32))), .val (.ref bR5), .val (.ref bR14), .val (.ref bR23), .val (.ref bR41), .unset, .unset, .unset, .unset, .unset, .unset] [(.int pI4), (.int ((pI2 &&& (3 : Int32)) % (3 : Int32)))])) rfl (by rw [hml]; rfl) (argsL := [(.int ((pI2 &&& (3 : Int32)) % (3 : Int32))), (.int pI4)]) (rest := []) (lenOf pd_6 rfl) rfl (Nat.le_refl _) (hb hby at_82) (fun _ _ => ⟨rfl, rfl, (by decide : 6 + 0 ≤ _), (by decide : 12 + 0 ≤ _)⟩)
  dsimp only [Pt.U, Pt.locs, Pt.cells, Pt.slots] at X55 l55 y55 z55 st55 hQ55
  subst l55 y55 z55
  obtain ⟨rfl, Nq55, e55⟩ := hQ55
  have N55 := Fr.app N52 Nq55
  obtain ⟨_, _, ⟨T56, L56, k56, n56⟩, -, X56, ⟨Lc56, hQ56, l56, y56, z56⟩, st56⟩ := Jvm.LawKit.callS X55 hx (y := yN5) hown (mvT hZ (ow hw 31 rfl)) (mvT hZ (ow hw 32 rfl)) (mvT hZ (ow hw 33 rfl)) (mvT hZ (ow hw 34 rfl)) (by decide) (backOf (W := 0) (endN l Z a0 hw [] ((((pI2.toUInt32 >>> ((2 : Int32) &&& 31).toUInt32).toInt32) &&& (3 : Int32)) % (3 : Int32)) ((pI4.toUInt32 >>> ((8 : Int32) &&& 31).toUInt32).toInt32) T52.heap n0 Z54 hc93) hZ (ow hw 34 rfl) (ow hw 33 rfl) (by decide) (by decide)) (g := (mkF m 93 #[.val (.int pI1), .val (.int pI2), .val (.int pI3), .val (.int pI4), .val (.int ((pI1 &&& (2147483647 : Int32)) % (5 : Int32))), .val (.int ((pI2 &&& (3 : Int32)) % (3 : Int32))), .val (.int ((((pI2.toUInt32 >>> ((2 : Int32) &&& 31).toUInt32).toInt32) &&& (3 : Int32)) % (3 : Int32))), .val (.ref bR5), .val (.ref bR14), .val (.ref bR23), .val (.ref bR41), .val .null, .unset, .unset, .unset, .unset, .unset] [(.int ((pI4.toUInt32 >>> ((8 : Int32) &&& 31).toUInt32).toInt32)), (.int ((((pI2.toUInt32 >>> ((2 : Int32) &&& 31).toUInt32).toInt32) &&& (3 : Int32)) % (3 : Int32)))])) rfl (by rw [hml]; rfl) (argsL := [(.int ((((pI2.toUInt32 >>> ((2 : Int32) &&& 31).toUInt32).toInt32) &&& (3 : Int32)) % (3 : Int32))), (.int ((pI4.toUInt32 >>> ((8 : Int32) &&& 31).toUInt32).toInt32))]) (rest := []) (lenOf pd_6 rfl) rfl (Nat.le_refl _) (hb hby at_93) (fun _ _ => ⟨rfl, e55, (by decide : 6 + 0 ≤ _), (by decide : 12 + 0 ≤ _)⟩)
  dsimp only [Pt.U, Pt.locs, Pt.cells, Pt.slots] at X56 l56 y56 z56 st56 hQ56
  subst l56 y56 z56
  obtain ⟨rfl, Nq56, e56⟩ := hQ56
  have N56 := Fr.app N55 Nq56
  obtain ⟨T57, h57, X57, e57, E57, A57, D57, U57, st57⟩ := newO X56 hx hZ hown (ow hw 35 rfl) (ow hw 36 rfl) (ow hw 37 rfl) e56 (g := (mkF m 98 #[.val (.int pI1), .val (.int pI2), .val (.int pI3), .val (.int pI4), .val (.int ((pI1 &&& (2147483647 : Int32)) % (5 : Int32))), .val (.int ((pI2 &&& (3 : Int32)) % (3 : Int32))), .val (.int ((((pI2.toUInt32 >>> ((2 : Int32) &&& 31).toUInt32).toInt32) &&& (3 : Int32)) % (3 : Int32))), .val (.ref bR5), .val (.ref bR14), .val (.ref bR23), .val (.ref bR41), .val .null, .val .null, .unset, .unset, .unset, .unset] [])) rfl (hb hby at_98) (by decide) (by decide)
  obtain ⟨bR57, g57⟩ : ∃ z, z = T52.heap.size := ⟨_, rfl⟩
  rw [← g57] at A57 D57 U57 st57
  have Z59 : n0 ≤ h57.size := (Nat.le_trans Z54 E57.1)
  have F60 : Fld Z h57 bR57 "com/example/pergamena/pergamena/build/LabResults$Quantity" "comparator" "Lcom/example/pergamena/pergamena/build/LabResults$Comparator;" .null := D57 (Or.inr (ow hw 51 rfl)) (ty := (.object "com/example/pergamena/pergamena/build/LabResults$Comparator")) (by decide)
  have F61 : Fld Z h57 bR57 "com/example/pergamena/pergamena/build/LabResults$Quantity" "number" "Ljava/lang/String;" .null := D57 (Or.inr (ow hw 53 rfl)) (ty := (.object "java/lang/String")) (by decide)
  have F62 : Fld Z h57 bR57 "com/example/pergamena/pergamena/build/LabResults$Quantity" "unit" "Ljava/lang/String;" .null := D57 (Or.inr (ow hw 55 rfl)) (ty := (.object "java/lang/String")) (by decide)
  have F63 : Fld Z h57 bR57 "com/example/pergamena/pergamena/build/LabResults$Quantity" "low" "Ljava/lang/String;" .null := D57 (Or.inr (ow hw 57 rfl)) (ty := (.object "java/lang/String")) (by decide)
  have F64 : Fld Z h57 bR57 "com/example/pergamena/pergamena/build/LabResults$Quantity" "high" "Ljava/lang/String;" .null := D57 (Or.inr (ow hw 59 rfl)) (ty := (.object "java/lang/String")) (by decide)
  obtain ⟨_, _, ⟨T65, L65, k65, n65⟩, -, X65, ⟨Lc65, hQ65, l65, y65, z65⟩, st65⟩ := Jvm.LawKit.callS X57 hx (y := yN6) hown (mvT hZ (ow hw 38 rfl)) (mvT hZ (ow hw 39 rfl)) (mvT hZ (ow hw 33 rfl)) (mvT hZ (ow hw 40 rfl)) (by decide) (backOf (W := 2) (comN l Z a0 hw [] ((pI1 &&& (2147483647 : Int32)) % (5 : Int32)) h57 n0 Z59 hc104) hZ (ow hw 40 rfl) (ow hw 33 rfl) (by decide) (by decide)) (g := (mkF m 104 #[.val (.int pI1), .val (.int pI2), .val (.int pI3), .val (.int pI4), .val (.int ((pI1 &&& (2147483647 : Int32)) % (5 : Int32))), .val (.int ((pI2 &&& (3 : Int32)) % (3 : Int32))), .val (.int ((((pI2.toUInt32 >>> ((2 : Int32) &&& 31).toUInt32).toInt32) &&& (3 : Int32)) % (3 : Int32))), .val (.ref bR5), .val (.ref bR14), .val (.ref bR23), .val (.ref bR41), .val .null, .val .null, .unset, .unset, .unset, .unset] [(.int ((pI1 &&& (2147483647 : Int32)) % (5 : Int32))), (.ref bR57), (.ref bR57)])) rfl (by rw [hml]; rfl) (argsL := [(.int ((pI1 &&& (2147483647 : Int32)) % (5 : Int32)))]) (rest := [(.ref bR57), (.ref bR57)]) (lenOf pd_7 rfl) rfl (Nat.le_refl _) (hb hby at_104) (fun _ _ => ⟨rfl, e57, (by decide : 7 + 0 ≤ _), (by decide : 17 + 0 ≤ _)⟩)
  dsimp only [Pt.U, Pt.locs, Pt.cells, Pt.slots] at X65 l65 y65 z65 st65 hQ65
  subst l65 y65 z65
  obtain ⟨rfl, Nq65, e65⟩ := hQ65
  have N65 := Fr.app N56 Nq65
  have g66 : n0 ≤ bR57 := Nat.le_trans Z54 (Nat.le_of_eq g57.symm)
  obtain ⟨_, _, ⟨T67, L67, k67, n67⟩, -, X67, ⟨Lc67, hQ67, l67, y67, z67⟩, st67⟩ := X65.specialBack hx (y := yN8) rfl hown (mvT hZ (ow hw 41 rfl)) (mvT hZ (ow hw 42 rfl)) (mvT hZ (ow hw 43 rfl)) (by decide) (backOf (W := 1) (qNNN l Z a0 hw [] bR57 bR23 bR41 h57 n0 Z59 A57 F60 g66 F61 F62 F63 F64) hZ (ow hw 43 rfl) (ow hw 37 rfl) (by decide) (by decide)) (g := (mkF m 115 #[.val (.int pI1), .val (.int pI2), .val (.int pI3), .val (.int pI4), .val (.int ((pI1 &&& (2147483647 : Int32)) % (5 : Int32))), .val (.int ((pI2 &&& (3 : Int32)) % (3 : Int32))), .val (.int ((((pI2.toUInt32 >>> ((2 : Int32) &&& 31).toUInt32).toInt32) &&& (3 : Int32)) % (3 : Int32))), .val (.ref bR5), .val (.ref bR14), .val (.ref bR23), .val (.ref bR41), .val .null, .val .null, .unset, .unset, .unset, .unset] [.null, .null, (.ref bR41), (.ref bR23), .null, (.ref bR57), (.ref bR57)])) rfl (by rw [hml]; rfl) (Steps.refl _) (a := bR57) (argsL := [.null, (.ref bR23), (.ref bR41), .null, .null]) (rest := [(.ref bR57)]) (lenOf pd_8 rfl) rfl (Nat.le_refl _) (hb hby at_115) (fun _ _ => ⟨rfl, e65, (by decide : 7 + 0 ≤ _), (by decide : 17 + 0 ≤ _)⟩)
  dsimp only [Pt.U, Pt.locs, Pt.cells, Pt.slots] at X67 l67 y67 z67 st67 hQ67
  subst l67 y67 z67
  obtain ⟨rfl, Nq67, Kq67, x67_0, x67_1, x67_2, x67_3, x67_4, x67_5⟩ := hQ67
  have N67 := Fr.app N65 Nq67
  obtain ⟨Lh67, X67, N67⟩ := own_hide X67 N67
  have Z69 : n0 ≤ T67.heap.size := (Nat.le_trans Z59 Kq67.1)
  obtain ⟨cq70, kq70, q70a, q70b, q70c⟩ := isOf hZ rfl x67_0
  obtain ⟨_, _, ⟨T70, L70, k70, n70⟩, -, X70, ⟨Lc70, hQ70, l70, y70, z70⟩, st70⟩ := X67.virtualBack hx (y := yN9) (z := yN9) hown (mvT hZ (ow hw 60 rfl)) (mvT hZ (ow hw 61 rfl)) (notFace_of_selects (args := #[]) (mvT hZ (ow hw 63 rfl))) (mvT hZ (ow hw 63 rfl)) (mvT hZ (ow hw 62 rfl)) (by decide) (backOf (W := 0) (hrNN l Z a0 hw [] bR57 T67.heap n0 Z69 x67_4 x67_5) hZ (ow hw 64 rfl) (ow hw 37 rfl) (by decide) (by decide)) q70a q70c (g := (mkF m 171 #[.val (.int pI1), .val (.int pI2), .val (.int pI3), .val (.int pI4), .val (.int ((pI1 &&& (2147483647 : Int32)) % (5 : Int32))), .val (.int ((pI2 &&& (3 : Int32)) % (3 : Int32))), .val (.int ((((pI2.toUInt32 >>> ((2 : Int32) &&& 31).toUInt32).toInt32) &&& (3 : Int32)) % (3 : Int32))), .val (.ref bR5), .val (.ref bR14), .val (.ref bR23), .val (.ref bR41), .val .null, .val .null, .val (.ref bR57), .val (.int 0), .val (.int 0), .val (.int 0)] [(.ref bR57)])) rfl (by rw [hml]; rfl) (Steps.refl _) (argsL := []) (rest := []) (lenOf pd_9 rfl) rfl (Nat.le_refl _) (hb hby at_171) (fun _ _ => ⟨rfl, rfl, (by decide : 7 + 0 ≤ _), (by decide : 17 + 0 ≤ _)⟩)
  dsimp only [Pt.U, Pt.locs, Pt.cells, Pt.slots] at X70 l70 y70 z70 st70 hQ70
  subst l70 y70 z70
  obtain ⟨rfl, Nq70, e70⟩ := hQ70
  have N70 := Fr.app N67 Nq70
  obtain ⟨fs, hr, hrun, hended, hE⟩ := X70.leaveW hS0 (by rw [e70]; exact (Nat.le_trans (Nat.le_trans (Nat.le_trans (Nat.le_trans (Nat.le_trans (Nat.le_trans (Nat.le_trans (Nat.le_trans (Nat.le_trans (Nat.le_trans hk0 E5.1) (Keep.of_wr W11).1) E14.1) (Keep.of_wr W20).1) E23.1) Kq38.1) E41.1) Kq52.1) E57.1) Kq67.1)) (v := some (.int 1)) (fun h => by rw [Bd.returns] at h; cases h)
  refine ⟨_, _, castTop (ef_lawNNN m pI1 pI2 pI3 pI4) ?_, hrun, hended, _, _, rfl, ?_, hE.1, hE.2.1, hE.2.2.1, hE.2.2.2.mono (by decide) (by decide)⟩
  · show oS p e below s₁ m 0 #[.val (.int pI1), .val (.int pI2), .val (.int pI3), .val (.int pI4), .unset, .unset, .unset, .unset, .unset, .unset, .unset, .unset, .unset, .unset, .unset, .unset, .unset] [] _
    refine XS.iloadN X0.here hx rfl (hb hby at_0) rfl ?_
    refine X0.ldcInt hx hown (mvT hZ (ow hw 0 rfl)) (g := (mkF m 1 #[.val (.int pI1), .val (.int pI2), .val (.int pI3), .val (.int pI4), .unset, .unset, .unset, .unset, .unset, .unset, .unset, .unset, .unset, .unset, .unset, .unset, .unset] [(.int pI1)])) rfl (hb hby at_1) _ ?_
    refine XS.iand X0.here hx rfl (hb hby at_3) rfl ?_
    refine XS.iconst X0.here hx rfl (hb hby at_4) ?_
    show Steps p.tables e below (s₁.setTop (mkF m 5 #[.val (.int pI1), .val (.int pI2), .val (.int pI3), .val (.int pI4), .unset, .unset, .unset, .unset, .unset, .unset, .unset, .unset, .unset, .unset, .unset, .unset, .unset] [(.int 5), (.int (pI1 &&& (2147483647 : Int32)))])) _
    refine iremM (g := (mkF m 5 #[.val (.int pI1), .val (.int pI2), .val (.int pI3), .val (.int pI4), .unset, .unset, .unset, .unset, .unset, .unset, .unset, .unset, .unset, .unset, .unset, .unset, .unset] [(.int 5), (.int (pI1 &&& (2147483647 : Int32)))])) X0 hx rfl (hb hby at_5) rfl (by decide) ?_
    refine XS.istore X0.here hx rfl (hb hby at_6) rfl (l' := #[.val (.int pI1), .val (.int pI2), .val (.int pI3), .val (.int pI4), .val (.int ((pI1 &&& (2147483647 : Int32)) % (5 : Int32))), .unset, .unset, .unset, .unset, .unset, .unset, .unset, .unset, .unset, .unset, .unset, .unset]) rfl ?_
    refine XS.iloadN X0.here hx rfl (hb hby at_8) rfl ?_
    refine XS.iconst X0.here hx rfl (hb hby at_9) ?_
    show oS p e below s₁ m 10 #[.val (.int pI1), .val (.int pI2), .val (.int pI3), .val (.int pI4), .val (.int ((pI1 &&& (2147483647 : Int32)) % (5 : Int32))), .unset, .unset, .unset, .unset, .unset, .unset, .unset, .unset, .unset, .unset, .unset, .unset] [(.int 3), (.int pI2)] _
    refine XS.iand X0.here hx rfl (hb hby at_10) rfl ?_
    refine XS.iconst X0.here hx rfl (hb hby at_11) ?_
    show Steps p.tables e below (s₁.setTop (mkF m 12 #[.val (.int pI1), .val (.int pI2), .val (.int pI3), .val (.int pI4), .val (.int ((pI1 &&& (2147483647 : Int32)) % (5 : Int32))), .unset, .unset, .unset, .unset, .unset, .unset, .unset, .unset, .unset, .unset, .unset, .unset] [(.int 3), (.int (pI2 &&& (3 : Int32)))])) _
    refine iremM (g := (mkF m 12 #[.val (.int pI1), .val (.int pI2), .val (.int pI3), .val (.int pI4), .val (.int ((pI1 &&& (2147483647 : Int32)) % (5 : Int32))), .unset, .unset, .unset, .unset, .unset, .unset, .unset, .unset, .unset, .unset, .unset, .unset] [(.int 3), (.int (pI2 &&& (3 : Int32)))])) X0 hx rfl (hb hby at_12) rfl (by decide) ?_
    refine XS.istore X0.here hx rfl (hb hby at_13) rfl (l' := #[.val (.int pI1), .val (.int pI2), .val (.int pI3), .val (.int pI4), .val (.int ((pI1 &&& (2147483647 : Int32)) % (5 : Int32))), .val (.int ((pI2 &&& (3 : Int32)) % (3 : Int32))), .unset, .unset, .unset, .unset, .unset, .unset, .unset, .unset, .unset, .unset, .unset]) rfl ?_
    show oS p e below s₁ m 15 #[.val (.int pI1), .val (.int pI2), .val (.int pI3), .val (.int pI4), .val (.int ((pI1 &&& (2147483647 : Int32)) % (5 : Int32))), .val (.int ((pI2 &&& (3 : Int32)) % (3 : Int32))), .unset, .unset, .unset, .unset, .unset, .unset, .unset, .unset, .unset, .unset, .unset] [] _
    refine XS.iloadN X0.here hx rfl (hb hby at_15) rfl ?_
    refine XS.iconst X0.here hx rfl (hb hby at_16) ?_
    refine XS.iushr X0.here hx rfl (hb hby at_17) rfl ?_
    refine XS.iconst X0.here hx rfl (hb hby at_18) ?_
    show oS p e below s₁ m 19 #[.val (.int pI1), .val (.int pI2), .val (.int pI3), .val (.int pI4), .val (.int ((pI1 &&& (2147483647 : Int32)) % (5 : Int32))), .val (.int ((pI2 &&& (3 : Int32)) % (3 : Int32))), .unset, .unset, .unset, .unset, .unset, .unset, .unset, .unset, .unset, .unset, .unset] [(.int 3), (.int ((pI2.toUInt32 >>> ((2 : Int32) &&& 31).toUInt32).toInt32))] _
    refine XS.iand X0.here hx rfl (hb hby at_19) rfl ?_
    refine XS.iconst X0.here hx rfl (hb hby at_20) ?_
    show Steps p.tables e below (s₁.setTop (mkF m 21 #[.val (.int pI1), .val (.int pI2), .val (.int pI3), .val (.int pI4), .val (.int ((pI1 &&& (2147483647 : Int32)) % (5 : Int32))), .val (.int ((pI2 &&& (3 : Int32)) % (3 : Int32))), .unset, .unset, .unset, .unset, .unset, .unset, .unset, .unset, .unset, .unset, .unset] [(.int 3), (.int (((pI2.toUInt32 >>> ((2 : Int32) &&& 31).toUInt32).toInt32) &&& (3 : Int32)))])) _
    refine iremM (g := (mkF m 21 #[.val (.int pI1), .val (.int pI2), .val (.int pI3), .val (.int pI4), .val (.int ((pI1 &&& (2147483647 : Int32)) % (5 : Int32))), .val (.int ((pI2 &&& (3 : Int32)) % (3 : Int32))), .unset, .unset, .unset, .unset, .unset, .unset, .unset, .unset, .unset, .unset, .unset] [(.int 3), (.int (((pI2.toUInt32 >>> ((2 : Int32) &&& 31).toUInt32).toInt32) &&& (3 : Int32)))])) X0 hx rfl (hb hby at_21) rfl (by decide) ?_
    refine XS.istore X0.here hx rfl (hb hby at_22) rfl (l' := #[.val (.int pI1), .val (.int pI2), .val (.int pI3), .val (.int pI4), .val (.int ((pI1 &&& (2147483647 : Int32)) % (5 : Int32))), .val (.int ((pI2 &&& (3 : Int32)) % (3 : Int32))), .val (.int ((((pI2.toUInt32 >>> ((2 : Int32) &&& 31).toUInt32).toInt32) &&& (3 : Int32)) % (3 : Int32))), .unset, .unset, .unset, .unset, .unset, .unset, .unset, .unset, .unset, .unset]) rfl ?_
    show oS p e below s₁ m 24 #[.val (.int pI1), .val (.int pI2), .val (.int pI3), .val (.int pI4), .val (.int ((pI1 &&& (2147483647 : Int32)) % (5 : Int32))), .val (.int ((pI2 &&& (3 : Int32)) % (3 : Int32))), .val (.int ((((pI2.toUInt32 >>> ((2 : Int32) &&& 31).toUInt32).toInt32) &&& (3 : Int32)) % (3 : Int32))), .unset, .unset, .unset, .unset, .unset, .unset, .unset, .unset, .unset, .unset] [] _
    refine XS.iconst X0.here hx rfl (hb hby at_24) ?_
    refine st5 _ ?_
    refine XS.astore X5.here hx rfl (hb hby at_27) rfl rfl (l' := #[.val (.int pI1), .val (.int pI2), .val (.int pI3), .val (.int pI4), .val (.int ((pI1 &&& (2147483647 : Int32)) % (5 : Int32))), .val (.int ((pI2 &&& (3 : Int32)) % (3 : Int32))), .val (.int ((((pI2.toUInt32 >>> ((2 : Int32) &&& 31).toUInt32).toInt32) &&& (3 : Int32)) % (3 : Int32))), .val (.ref bR5), .unset, .unset, .unset, .unset, .unset, .unset, .unset, .unset, .unset]) rfl ?_
    refine XS.aload X5.here hx rfl (hb hby at_29) rfl rfl ?_
    show oS p e below T5 m 31 #[.val (.int pI1), .val (.int pI2), .val (.int pI3), .val (.int pI4), .val (.int ((pI1 &&& (2147483647 : Int32)) % (5 : Int32))), .val (.int ((pI2 &&& (3 : Int32)) % (3 : Int32))), .val (.int ((((pI2.toUInt32 >>> ((2 : Int32) &&& 31).toUInt32).toInt32) &&& (3 : Int32)) % (3 : Int32))), .val (.ref bR5), .unset, .unset, .unset, .unset, .unset, .unset, .unset, .unset, .unset] [(.ref bR5)] _
    refine XS.iconst X5.here hx rfl (hb hby at_31) ?_
    refine XS.iloadN X5.here hx rfl (hb hby at_32) rfl ?_
    refine XS.sipush X5.here hx rfl (hb hby at_33) ?_
    refine XS.iand X5.here hx rfl (hb hby at_36) rfl ?_
    show oS p e below T5 m 37 #[.val (.int pI1), .val (.int pI2), .val (.int pI3), .val (.int pI4), .val (.int ((pI1 &&& (2147483647 : Int32)) % (5 : Int32))), .val (.int ((pI2 &&& (3 : Int32)) % (3 : Int32))), .val (.int ((((pI2.toUInt32 >>> ((2 : Int32) &&& 31).toUInt32).toInt32) &&& (3 : Int32)) % (3 : Int32))), .val (.ref bR5), .unset, .unset, .unset, .unset, .unset, .unset, .unset, .unset, .unset] [(.int (pI3 &&& (255 : Int32))), (.int 0), (.ref bR5)] _
    refine XS.i2c X5.here hx rfl (hb hby at_37) rfl ?_
    refine st11 _ ?_
    refine XS.iconst X11.here hx rfl (hb hby at_39) ?_
    refine st14 _ ?_
    show oS p e below T14 m 42 #[.val (.int pI1), .val (.int pI2), .val (.int pI3), .val (.int pI4), .val (.int ((pI1 &&& (2147483647 : Int32)) % (5 : Int32))), .val (.int ((pI2 &&& (3 : Int32)) % (3 : Int32))), .val (.int ((((pI2.toUInt32 >>> ((2 : Int32) &&& 31).toUInt32).toInt32) &&& (3 : Int32)) % (3 : Int32))), .val (.ref bR5), .unset, .unset, .unset, .unset, .unset, .unset, .unset, .unset, .unset] [(.ref bR14)] _
    refine XS.astore X14.here hx rfl (hb hby at_42) rfl rfl (l' := #[.val (.int pI1), .val (.int pI2), .val (.int pI3), .val (.int pI4), .val (.int ((pI1 &&& (2147483647 : Int32)) % (5 : Int32))), .val (.int ((pI2 &&& (3 : Int32)) % (3 : Int32))), .val (.int ((((pI2.toUInt32 >>> ((2 : Int32) &&& 31).toUInt32).toInt32) &&& (3 : Int32)) % (3 : Int32))), .val (.ref bR5), .val (.ref bR14), .unset, .unset, .unset, .unset, .unset, .unset, .unset, .unset]) rfl ?_
    refine XS.aload X14.here hx rfl (hb hby at_44) rfl rfl ?_
    refine XS.iconst X14.here hx rfl (hb hby at_46) ?_
    refine XS.iloadN X14.here hx rfl (hb hby at_47) rfl ?_
    show oS p e below T14 m 48 #[.val (.int pI1), .val (.int pI2), .val (.int pI3), .val (.int pI4), .val (.int ((pI1 &&& (2147483647 : Int32)) % (5 : Int32))), .val (.int ((pI2 &&& (3 : Int32)) % (3 : Int32))), .val (.int ((((pI2.toUInt32 >>> ((2 : Int32) &&& 31).toUInt32).toInt32) &&& (3 : Int32)) % (3 : Int32))), .val (.ref bR5), .val (.ref bR14), .unset, .unset, .unset, .unset, .unset, .unset, .unset, .unset] [(.int pI3), (.int 0), (.ref bR14)] _
    refine XS.bipush X14.here hx rfl (hb hby at_48) ?_
    refine XS.iushr X14.here hx rfl (hb hby at_50) rfl ?_
    refine XS.sipush X14.here hx rfl (hb hby at_51) ?_
    refine XS.iand X14.here hx rfl (hb hby at_54) rfl ?_
    show oS p e below T14 m 55 #[.val (.int pI1), .val (.int pI2), .val (.int pI3), .val (.int pI4), .val (.int ((pI1 &&& (2147483647 : Int32)) % (5 : Int32))), .val (.int ((pI2 &&& (3 : Int32)) % (3 : Int32))), .val (.int ((((pI2.toUInt32 >>> ((2 : Int32) &&& 31).toUInt32).toInt32) &&& (3 : Int32)) % (3 : Int32))), .val (.ref bR5), .val (.ref bR14), .unset, .unset, .unset, .unset, .unset, .unset, .unset, .unset] [(.int (((pI3.toUInt32 >>> ((8 : Int32) &&& 31).toUInt32).toInt32) &&& (255 : Int32))), (.int 0), (.ref bR14)] _
    refine XS.i2c X14.here hx rfl (hb hby at_55) rfl ?_
    refine st20 _ ?_
    refine st23 _ ?_
    refine XS.dup X23.here hx rfl (hb hby at_60) rfl rfl ?_
    show oS p e below T23 m 61 #[.val (.int pI1), .val (.int pI2), .val (.int pI3), .val (.int pI4), .val (.int ((pI1 &&& (2147483647 : Int32)) % (5 : Int32))), .val (.int ((pI2 &&& (3 : Int32)) % (3 : Int32))), .val (.int ((((pI2.toUInt32 >>> ((2 : Int32) &&& 31).toUInt32).toInt32) &&& (3 : Int32)) % (3 : Int32))), .val (.ref bR5), .val (.ref bR14), .unset, .unset, .unset, .unset, .unset, .unset, .unset, .unset] [(.ref bR23), (.ref bR23)] _
    refine XS.aload X23.here hx rfl (hb hby at_61) rfl rfl ?_
    refine st38.trans ?_
    refine XS.astore X38.here hx rfl (hb hby at_66) rfl rfl (l' := #[.val (.int pI1), .val (.int pI2), .val (.int pI3), .val (.int pI4), .val (.int ((pI1 &&& (2147483647 : Int32)) % (5 : Int32))), .val (.int ((pI2 &&& (3 : Int32)) % (3 : Int32))), .val (.int ((((pI2.toUInt32 >>> ((2 : Int32) &&& 31).toUInt32).toInt32) &&& (3 : Int32)) % (3 : Int32))), .val (.ref bR5), .val (.ref bR14), .val (.ref bR23), .unset, .unset, .unset, .unset, .unset, .unset, .unset]) rfl ?_
    refine st41 _ ?_
    show oS p e below T41 m 71 #[.val (.int pI1), .val (.int pI2), .val (.int pI3), .val (.int pI4), .val (.int ((pI1 &&& (2147483647 : Int32)) % (5 : Int32))), .val (.int ((pI2 &&& (3 : Int32)) % (3 : Int32))), .val (.int ((((pI2.toUInt32 >>> ((2 : Int32) &&& 31).toUInt32).toInt32) &&& (3 : Int32)) % (3 : Int32))), .val (.ref bR5), .val (.ref bR14), .val (.ref bR23), .unset, .unset, .unset, .unset, .unset, .unset, .unset] [(.ref bR41)] _
    refine XS.dup X41.here hx rfl (hb hby at_71) rfl rfl ?_
    refine XS.aload X41.here hx rfl (hb hby at_72) rfl rfl ?_
    refine st52.trans ?_
    refine XS.astore X52.here hx rfl (hb hby at_77) rfl rfl (l' := #[.val (.int pI1), .val (.int pI2), .val (.int pI3), .val (.int pI4), .val (.int ((pI1 &&& (2147483647 : Int32)) % (5 : Int32))), .val (.int ((pI2 &&& (3 : Int32)) % (3 : Int32))), .val (.int ((((pI2.toUInt32 >>> ((2 : Int32) &&& 31).toUInt32).toInt32) &&& (3 : Int32)) % (3 : Int32))), .val (.ref bR5), .val (.ref bR14), .val (.ref bR23), .val (.ref bR41), .unset, .unset, .unset, .unset, .unset, .unset]) rfl ?_
    show oS p e below T52 m 79 #[.val (.int pI1), .val (.int pI2), .val (.int pI3), .val (.int pI4), .val (.int ((pI1 &&& (2147483647 : Int32)) % (5 : Int32))), .val (.int ((pI2 &&& (3 : Int32)) % (3 : Int32))), .val (.int ((((pI2.toUInt32 >>> ((2 : Int32) &&& 31).toUInt32).toInt32) &&& (3 : Int32)) % (3 : Int32))), .val (.ref bR5), .val (.ref bR14), .val (.ref bR23), .val (.ref bR41), .unset, .unset, .unset, .unset, .unset, .unset] [] _
    refine XS.iload X52.here hx rfl (hb hby at_79) rfl ?_
    refine XS.iloadN X52.here hx rfl (hb hby at_81) rfl ?_
    refine st55 _ ?_
    refine XS.astore X55.here hx rfl (hb hby at_85) rfl rfl (l' := #[.val (.int pI1), .val (.int pI2), .val (.int pI3), .val (.int pI4), .val (.int ((pI1 &&& (2147483647 : Int32)) % (5 : Int32))), .val (.int ((pI2 &&& (3 : Int32)) % (3 : Int32))), .val (.int ((((pI2.toUInt32 >>> ((2 : Int32) &&& 31).toUInt32).toInt32) &&& (3 : Int32)) % (3 : Int32))), .val (.ref bR5), .val (.ref bR14), .val (.ref bR23), .val (.ref bR41), .val .null, .unset, .unset, .unset, .unset, .unset]) rfl ?_
    show oS p e below T55 m 87 #[.val (.int pI1), .val (.int pI2), .val (.int pI3), .val (.int pI4), .val (.int ((pI1 &&& (2147483647 : Int32)) % (5 : Int32))), .val (.int ((pI2 &&& (3 : Int32)) % (3 : Int32))), .val (.int ((((pI2.toUInt32 >>> ((2 : Int32) &&& 31).toUInt32).toInt32) &&& (3 : Int32)) % (3 : Int32))), .val (.ref bR5), .val (.ref bR14), .val (.ref bR23), .val (.ref bR41), .val .null, .unset, .unset, .unset, .unset, .unset] [] _
    refine XS.iload X55.here hx rfl (hb hby at_87) rfl ?_
    refine XS.iloadN X55.here hx rfl (hb hby at_89) rfl ?_
    refine XS.bipush X55.here hx rfl (hb hby at_90) ?_
    refine XS.iushr X55.here hx rfl (hb hby at_92) rfl ?_
    show oS p e below T55 m 93 #[.val (.int pI1), .val (.int pI2), .val (.int pI3), .val (.int pI4), .val (.int ((pI1 &&& (2147483647 : Int32)) % (5 : Int32))), .val (.int ((pI2 &&& (3 : Int32)) % (3 : Int32))), .val (.int ((((pI2.toUInt32 >>> ((2 : Int32) &&& 31).toUInt32).toInt32) &&& (3 : Int32)) % (3 : Int32))), .val (.ref bR5), .val (.ref bR14), .val (.ref bR23), .val (.ref bR41), .val .null, .unset, .unset, .unset, .unset, .unset] [(.int ((pI4.toUInt32 >>> ((8 : Int32) &&& 31).toUInt32).toInt32)), (.int ((((pI2.toUInt32 >>> ((2 : Int32) &&& 31).toUInt32).toInt32) &&& (3 : Int32)) % (3 : Int32)))] _
    refine st56 _ ?_
    refine XS.astore X56.here hx rfl (hb hby at_96) rfl rfl (l' := #[.val (.int pI1), .val (.int pI2), .val (.int pI3), .val (.int pI4), .val (.int ((pI1 &&& (2147483647 : Int32)) % (5 : Int32))), .val (.int ((pI2 &&& (3 : Int32)) % (3 : Int32))), .val (.int ((((pI2.toUInt32 >>> ((2 : Int32) &&& 31).toUInt32).toInt32) &&& (3 : Int32)) % (3 : Int32))), .val (.ref bR5), .val (.ref bR14), .val (.ref bR23), .val (.ref bR41), .val .null, .val .null, .unset, .unset, .unset, .unset]) rfl ?_
    refine st57 _ ?_
    refine XS.dup X57.here hx rfl (hb hby at_101) rfl rfl ?_
    show oS p e below T57 m 102 #[.val (.int pI1), .val (.int pI2), .val (.int pI3), .val (.int pI4), .val (.int ((pI1 &&& (2147483647 : Int32)) % (5 : Int32))), .val (.int ((pI2 &&& (3 : Int32)) % (3 : Int32))), .val (.int ((((pI2.toUInt32 >>> ((2 : Int32) &&& 31).toUInt32).toInt32) &&& (3 : Int32)) % (3 : Int32))), .val (.ref bR5), .val (.ref bR14), .val (.ref bR23), .val (.ref bR41), .val .null, .val .null, .unset, .unset, .unset, .unset] [(.ref bR57), (.ref bR57)] _
    refine XS.iload X57.here hx rfl (hb hby at_102) rfl ?_
    refine st65 _ ?_
    refine XS.aload X65.here hx rfl (hb hby at_107) rfl rfl ?_
    refine XS.aload X65.here hx rfl (hb hby at_109) rfl rfl ?_
    show oS p e below T65 m 111 #[.val (.int pI1), .val (.int pI2), .val (.int pI3), .val (.int pI4), .val (.int ((pI1 &&& (2147483647 : Int32)) % (5 : Int32))), .val (.int ((pI2 &&& (3 : Int32)) % (3 : Int32))), .val (.int ((((pI2.toUInt32 >>> ((2 : Int32) &&& 31).toUInt32).toInt32) &&& (3 : Int32)) % (3 : Int32))), .val (.ref bR5), .val (.ref bR14), .val (.ref bR23), .val (.ref bR41), .val .null, .val .null, .unset, .unset, .unset, .unset] [(.ref bR41), (.ref bR23), .null, (.ref bR57), (.ref bR57)] _
    refine XS.aload X65.here hx rfl (hb hby at_111) rfl rfl ?_
    refine XS.aload X65.here hx rfl (hb hby at_113) rfl rfl ?_
    refine st67.trans ?_
    refine XS.astore X67.here hx rfl (hb hby at_118) rfl rfl (l' := #[.val (.int pI1), .val (.int pI2), .val (.int pI3), .val (.int pI4), .val (.int ((pI1 &&& (2147483647 : Int32)) % (5 : Int32))), .val (.int ((pI2 &&& (3 : Int32)) % (3 : Int32))), .val (.int ((((pI2.toUInt32 >>> ((2 : Int32) &&& 31).toUInt32).toInt32) &&& (3 : Int32)) % (3 : Int32))), .val (.ref bR5), .val (.ref bR14), .val (.ref bR23), .val (.ref bR41), .val .null, .val .null, .val (.ref bR57), .unset, .unset, .unset]) rfl ?_
    show oS p e below T67 m 120 #[.val (.int pI1), .val (.int pI2), .val (.int pI3), .val (.int pI4), .val (.int ((pI1 &&& (2147483647 : Int32)) % (5 : Int32))), .val (.int ((pI2 &&& (3 : Int32)) % (3 : Int32))), .val (.int ((((pI2.toUInt32 >>> ((2 : Int32) &&& 31).toUInt32).toInt32) &&& (3 : Int32)) % (3 : Int32))), .val (.ref bR5), .val (.ref bR14), .val (.ref bR23), .val (.ref bR41), .val .null, .val .null, .val (.ref bR57), .unset, .unset, .unset] [] _
    refine XS.iload X67.here hx rfl (hb hby at_120) rfl ?_
    refine XS.ifYes X67.here hx rfl (pc0 := 122) (pc' := 129) rfl (hb hby at_122) rfl ((if0 _ _).trans (teq hc82).1) (by decide) (by decide) ?_
    refine XS.iconst X67.here hx rfl (hb hby at_129) ?_
    refine XS.istore X67.here hx rfl (hb hby at_130) rfl (l' := #[.val (.int pI1), .val (.int pI2), .val (.int pI3), .val (.int pI4), .val (.int ((pI1 &&& (2147483647 : Int32)) % (5 : Int32))), .val (.int ((pI2 &&& (3 : Int32)) % (3 : Int32))), .val (.int ((((pI2.toUInt32 >>> ((2 : Int32) &&& 31).toUInt32).toInt32) &&& (3 : Int32)) % (3 : Int32))), .val (.ref bR5), .val (.ref bR14), .val (.ref bR23), .val (.ref bR41), .val .null, .val .null, .val (.ref bR57), .val (.int 0), .unset, .unset]) rfl ?_
    show oS p e below T67 m 132 #[.val (.int pI1), .val (.int pI2), .val (.int pI3), .val (.int pI4), .val (.int ((pI1 &&& (2147483647 : Int32)) % (5 : Int32))), .val (.int ((pI2 &&& (3 : Int32)) % (3 : Int32))), .val (.int ((((pI2.toUInt32 >>> ((2 : Int32) &&& 31).toUInt32).toInt32) &&& (3 : Int32)) % (3 : Int32))), .val (.ref bR5), .val (.ref bR14), .val (.ref bR23), .val (.ref bR41), .val .null, .val .null, .val (.ref bR57), .val (.int 0), .unset, .unset] [] _
    refine XS.iload X67.here hx rfl (hb hby at_132) rfl ?_
    refine XS.ifYes X67.here hx rfl (pc0 := 134) (pc' := 141) rfl (hb hby at_134) rfl ((if0 _ _).trans (teq hc93).1) (by decide) (by decide) ?_
    refine XS.iconst X67.here hx rfl (hb hby at_141) ?_
    refine XS.istore X67.here hx rfl (hb hby at_142) rfl (l' := #[.val (.int pI1), .val (.int pI2), .val (.int pI3), .val (.int pI4), .val (.int ((pI1 &&& (2147483647 : Int32)) % (5 : Int32))), .val (.int ((pI2 &&& (3 : Int32)) % (3 : Int32))), .val (.int ((((pI2.toUInt32 >>> ((2 : Int32) &&& 31).toUInt32).toInt32) &&& (3 : Int32)) % (3 : Int32))), .val (.ref bR5), .val (.ref bR14), .val (.ref bR23), .val (.ref bR41), .val .null, .val .null, .val (.ref bR57), .val (.int 0), .val (.int 0), .unset]) rfl ?_
    show oS p e below T67 m 144 #[.val (.int pI1), .val (.int pI2), .val (.int pI3), .val (.int pI4), .val (.int ((pI1 &&& (2147483647 : Int32)) % (5 : Int32))), .val (.int ((pI2 &&& (3 : Int32)) % (3 : Int32))), .val (.int ((((pI2.toUInt32 >>> ((2 : Int32) &&& 31).toUInt32).toInt32) &&& (3 : Int32)) % (3 : Int32))), .val (.ref bR5), .val (.ref bR14), .val (.ref bR23), .val (.ref bR41), .val .null, .val .null, .val (.ref bR57), .val (.int 0), .val (.int 0), .unset] [] _
    refine XS.iload X67.here hx rfl (hb hby at_144) rfl ?_
    refine XS.ifYes X67.here hx rfl (pc0 := 146) (pc' := 155) rfl (hb hby at_146) rfl ((if0 _ _).trans (teq (by decide : (0 : Int32) = (0 : Int32))).1) (by decide) (by decide) ?_
    refine XS.iload X67.here hx rfl (hb hby at_155) rfl ?_
    refine XS.ifYes X67.here hx rfl (pc0 := 157) (pc' := 166) rfl (hb hby at_157) rfl ((if0 _ _).trans (teq (by decide : (0 : Int32) = (0 : Int32))).1) (by decide) (by decide) ?_
    show oS p e below T67 m 166 #[.val (.int pI1), .val (.int pI2), .val (.int pI3), .val (.int pI4), .val (.int ((pI1 &&& (2147483647 : Int32)) % (5 : Int32))), .val (.int ((pI2 &&& (3 : Int32)) % (3 : Int32))), .val (.int ((((pI2.toUInt32 >>> ((2 : Int32) &&& 31).toUInt32).toInt32) &&& (3 : Int32)) % (3 : Int32))), .val (.ref bR5), .val (.ref bR14), .val (.ref bR23), .val (.ref bR41), .val .null, .val .null, .val (.ref bR57), .val (.int 0), .val (.int 0), .unset] [] _
    refine XS.iconst X67.here hx rfl (hb hby at_166) ?_
    refine XS.istore X67.here hx rfl (hb hby at_167) rfl (l' := #[.val (.int pI1), .val (.int pI2), .val (.int pI3), .val (.int pI4), .val (.int ((pI1 &&& (2147483647 : Int32)) % (5 : Int32))), .val (.int ((pI2 &&& (3 : Int32)) % (3 : Int32))), .val (.int ((((pI2.toUInt32 >>> ((2 : Int32) &&& 31).toUInt32).toInt32) &&& (3 : Int32)) % (3 : Int32))), .val (.ref bR5), .val (.ref bR14), .val (.ref bR23), .val (.ref bR41), .val .null, .val .null, .val (.ref bR57), .val (.int 0), .val (.int 0), .val (.int 0)]) rfl ?_
    refine XS.aload X67.here hx rfl (hb hby at_169) rfl rfl ?_
    refine st70.trans ?_
    show oS p e below T70 m 174 #[.val (.int pI1), .val (.int pI2), .val (.int pI3), .val (.int pI4), .val (.int ((pI1 &&& (2147483647 : Int32)) % (5 : Int32))), .val (.int ((pI2 &&& (3 : Int32)) % (3 : Int32))), .val (.int ((((pI2.toUInt32 >>> ((2 : Int32) &&& 31).toUInt32).toInt32) &&& (3 : Int32)) % (3 : Int32))), .val (.ref bR5), .val (.ref bR14), .val (.ref bR23), .val (.ref bR41), .val .null, .val .null, .val (.ref bR57), .val (.int 0), .val (.int 0), .val (.int 0)] [(.int 0)] _
    refine XS.iload X70.here hx rfl (hb hby at_174) rfl ?_
    refine XS.icmpNo X70.here hx rfl (hb hby at_176) rfl (teq (by decide : (0 : Int32) = (0 : Int32))).2 ?_
    refine XS.iconst X70.here hx rfl (hb hby at_179) ?_
    refine XS.goto X70.here hx rfl (pc0 := 180) (pc' := 184) rfl (hb hby at_180) (by decide) (by decide) ?_
    show oS p e below T70 m 184 #[.val (.int pI1), .val (.int pI2), .val (.int pI3), .val (.int pI4), .val (.int ((pI1 &&& (2147483647 : Int32)) % (5 : Int32))), .val (.int ((pI2 &&& (3 : Int32)) % (3 : Int32))), .val (.int ((((pI2.toUInt32 >>> ((2 : Int32) &&& 31).toUInt32).toInt32) &&& (3 : Int32)) % (3 : Int32))), .val (.ref bR5), .val (.ref bR14), .val (.ref bR23), .val (.ref bR41), .val .null, .val .null, .val (.ref bR57), .val (.int 0), .val (.int 0), .val (.int 0)] [(.int 1)] _
    exact retN X70 hx (t := .boolean) Bd.returns (by simp) (hb hby at_184) hr
  · show QlawNNN Z pI1 pI2 pI3 pI4 pI31 h0 n0 _ T70.heap _
    rw [e70]
    exact ⟨rfl, N70⟩
theorem ef_lawNNR (m : MethodId) (pI1 : Int32) (pI2 : Int32) (pI3 : Int32) (pI4 : Int32) : entryFrame m #[(.int pI1), (.int pI2), (.int pI3), (.int pI4)] maxLocals = mkF m 0 #[.val (.int pI1), .val (.int pI2), .val (.int pI3), .val (.int pI4), .unset, .unset, .unset, .unset, .unset, .unset, .unset, .unset, .unset, .unset, .unset, .unset, .unset] [] := by first | (simp [entryFrame, mkF, argsToLocals, Value.category, maxLocals]; done) | rfl
def QlawNNR (Z : State) (pI1 : Int32) (pI2 : Int32) (pI3 : Int32) (pI4 : Int32) (pI31 : Int32) (h0 : Heap) (n0 : Nat) (v : Option Value) (h : Heap) (L : List Loc) : Prop := v = some (.int 1) ∧ Fr n0 L
set_option maxRecDepth 65536 in
set_option maxHeartbeats 40000000 in
theorem lawNNR (l : Launch) (Z : State) (a0 : Array Value) (hw : ∀ d ∈ tables_1, d.before a0 Z = true) (ws : List Jvm.Cond) (pI1 : Int32) (pI2 : Int32) (pI3 : Int32) (pI4 : Int32) (pI31 : Int32) (h0 : Heap) (n0 : Nat) (Z0 : n0 ≤ h0.size) (S_String_COMPACT_STRINGS : Sta Z h0 "java/lang/String" "COMPACT_STRINGS" "Z" (.int pI31)) (hc63 : ¬ (pI31 = (0 : Int32))) (hc82 : ((pI2 &&& (3 : Int32)) % (3 : Int32)) = (0 : Int32)) (hc93 : ¬ (((((pI2.toUInt32 >>> ((2 : Int32) &&& 31).toUInt32).toInt32) &&& (3 : Int32)) % (3 : Int32)) = (0 : Int32))) (hc104 : ((pI1 &&& (2147483647 : Int32)) % (5 : Int32)) = (0 : Int32)) :
    oMW l x code maxLocals ret ws room_1 #[(.int pI1), (.int pI2), (.int pI3), (.int pI4)] Z h0 (QlawNNR Z pI1 pI2 pI3 pI4 pI31 h0 n0) := by
  refine MetFree.of_bodySF (plainFor_of_name pn_2) hisR ?_
  intro p e s m args below meth c s₁ Bd hml0 hP hK
  obtain ⟨rfl, hZ, hh⟩ := hP
  have hx := Bd.exec
  have hby := Bd.bytes
  have hml : c.maxLocals = 17 := hml0
  have hown : s.vm.findClass "com/example/pergamena/pergamena/build/QuantityHasRangePinLaw" = some m.cls := findClass_of_methodNamed Bd.named
  have hnm := (name_of_methodNamed Bd.named Bd.method).1
  have X0 : Stand p l e room_1 s m #[(.int pI1), (.int pI2), (.int pI3), (.int pI4)] below meth c s₁ [] 0 0 := Stand.of_body Bd
  have e0 : s₁.heap = h0 := by rw [← hh, Bd.state]; rfl
  have N0 := Fr.nil n0
  have X0 : Stand p l e room_1 (s.setVm s.vm) m #[(.int pI1), (.int pI2), (.int pI3), (.int pI4)] below meth c s₁ [] 0 0 := X0
  have hS0 : s.Since s.vm 0 := (State.WarmedH.refl s).since 0
  have hk0 : 0 ≤ h0.size := Nat.zero_le _
  have hZ : Z.Warmed39 (s.setVm s.vm).vm := hZ
  have hown : (s.setVm s.vm).vm.findClass "com/example/pergamena/pergamena/build/QuantityHasRangePinLaw" = some m.cls := hown
  obtain ⟨T5, h5, k5, X5, e5, E5, A5, st5⟩ := newP X0 hx hZ (ow hw 1 rfl) e0 (g := (mkF m 25 #[.val (.int pI1), .val (.int pI2), .val (.int pI3), .val (.int pI4), .val (.int ((pI1 &&& (2147483647 : Int32)) % (5 : Int32))), .val (.int ((pI2 &&& (3 : Int32)) % (3 : Int32))), .val (.int ((((pI2.toUInt32 >>> ((2 : Int32) &&& 31).toUInt32).toInt32) &&& (3 : Int32)) % (3 : Int32))), .unset, .unset, .unset, .unset, .unset, .unset, .unset, .unset, .unset, .unset] [(.int 1)])) rfl (hb hby at_25) rfl (by decide) (cap := 1) (by decide) (by decide) (by decide) (by decide)
  obtain ⟨bR5, g5⟩ : ∃ z, z = h0.size := ⟨_, rfl⟩
  rw [← g5] at A5 st5
  have Z7 : n0 ≤ h5.size := (Nat.le_trans Z0 E5.1)
  have V5 : Arv Z h5 bR5 k5 .char (1 : Int32) [(.int 0)] (.int (0 : Int32)) := (Arv.new A5 (by decide)).pad (pad_rep [] (.int (0 : Int32)) 1)
  have g8 : n0 ≤ bR5 := Nat.le_trans Z0 (Nat.le_of_eq g5.symm)
  obtain ⟨clq9, Arq9, Akq9, Asq9, Anq9, Ahq9, Agq9⟩ := id V5
  have hin10 : ¬ ((0 : Int32) < 0 ∨ clq9.slots.size ≤ ((0 : Int32)).toNatClampNeg) := inb_of Asq9 ⟨by decide, by decide⟩
  obtain ⟨T11, h11, X11, e11, W11, st11⟩ := stC X5 hx hZ e5 Arq9 (j := (0 : Int32)) hin10 (g := (mkF m 38 #[.val (.int pI1), .val (.int pI2), .val (.int pI3), .val (.int pI4), .val (.int ((pI1 &&& (2147483647 : Int32)) % (5 : Int32))), .val (.int ((pI2 &&& (3 : Int32)) % (3 : Int32))), .val (.int ((((pI2.toUInt32 >>> ((2 : Int32) &&& 31).toUInt32).toInt32) &&& (3 : Int32)) % (3 : Int32))), .val (.ref bR5), .unset, .unset, .unset, .unset, .unset, .unset, .unset, .unset, .unset] [(.int ((pI3 &&& (255 : Int32)).toUInt32.toUInt16.toUInt32.toInt32)), (.int 0), (.ref bR5)])) rfl rfl (hb hby at_38)
  rw [own_narc (own_c255 _)] at W11
  have Z13 : n0 ≤ h11.size := (Nat.le_trans Z7 (Keep.of_wr W11).1)
  have N11 := Fr.snoc X11 N0 g8
  obtain ⟨Lh11, X11, N11⟩ := own_hide X11 N11
  have V11 : Arv Z h11 bR5 k5 .char (1 : Int32) [(.int ((pI3 &&& (255 : Int32)).toUInt32.toUInt16.toUInt32.toInt32))] (.int (0 : Int32)) := Arv.set Arq9 Akq9 Asq9 Anq9 Ahq9 Agq9 (own_fitc (own_c255 _)) W11 0 rfl (Nat.le_of_ble_eq_true rfl)
  obtain ⟨T14, h14, k14, X14, e14, E14, A14, st14⟩ := newP X11 hx hZ (ow hw 1 rfl) e11 (g := (mkF m 40 #[.val (.int pI1), .val (.int pI2), .val (.int pI3), .val (.int pI4), .val (.int ((pI1 &&& (2147483647 : Int32)) % (5 : Int32))), .val (.int ((pI2 &&& (3 : Int32)) % (3 : Int32))), .val (.int ((((pI2.toUInt32 >>> ((2 : Int32) &&& 31).toUInt32).toInt32) &&& (3 : Int32)) % (3 : Int32))), .val (.ref bR5), .unset, .unset, .unset, .unset, .unset, .unset, .unset, .unset, .unset] [(.int 1)])) rfl (hb hby at_40) rfl (by decide) (cap := 1) (by decide) (by decide) (by decide) (by decide)
  obtain ⟨bR14, g14⟩ : ∃ z, z = h11.size := ⟨_, rfl⟩
  rw [← g14] at A14 st14
  have Z16 : n0 ≤ h14.size := (Nat.le_trans Z13 E14.1)
  have V14 : Arv Z h14 bR14 k14 .char (1 : Int32) [(.int 0)] (.int (0 : Int32)) := (Arv.new A14 (by decide)).pad (pad_rep [] (.int (0 : Int32)) 1)
  have g17 : n0 ≤ bR14 := Nat.le_trans Z13 (Nat.le_of_eq g14.symm)
  obtain ⟨clq18, Arq18, Akq18, Asq18, Anq18, Ahq18, Agq18⟩ := id V14
  have hin19 : ¬ ((0 : Int32) < 0 ∨ clq18.slots.size ≤ ((0 : Int32)).toNatClampNeg) := inb_of Asq18 ⟨by decide, by decide⟩
  obtain ⟨T20, h20, X20, e20, W20, st20⟩ := stC X14 hx hZ e14 Arq18 (j := (0 : Int32)) hin19 (g := (mkF m 56 #[.val (.int pI1), .val (.int pI2), .val (.int pI3), .val (.int pI4), .val (.int ((pI1 &&& (2147483647 : Int32)) % (5 : Int32))), .val (.int ((pI2 &&& (3 : Int32)) % (3 : Int32))), .val (.int ((((pI2.toUInt32 >>> ((2 : Int32) &&& 31).toUInt32).toInt32) &&& (3 : Int32)) % (3 : Int32))), .val (.ref bR5), .val (.ref bR14), .unset, .unset, .unset, .unset, .unset, .unset, .unset, .unset] [(.int ((((pI3.toUInt32 >>> ((8 : Int32) &&& 31).toUInt32).toInt32) &&& (255 : Int32)).toUInt32.toUInt16.toUInt32.toInt32)), (.int 0), (.ref bR14)])) rfl rfl (hb hby at_56)
  rw [own_narc (own_c255 _)] at W20
  have Z22 : n0 ≤ h20.size := (Nat.le_trans Z16 (Keep.of_wr W20).1)
  have N20 := Fr.snoc X20 N11 g17
  obtain ⟨Lh20, X20, N20⟩ := own_hide X20 N20
  have V20 : Arv Z h20 bR14 k14 .char (1 : Int32) [(.int ((((pI3.toUInt32 >>> ((8 : Int32) &&& 31).toUInt32).toInt32) &&& (255 : Int32)).toUInt32.toUInt16.toUInt32.toInt32))] (.int (0 : Int32)) := Arv.set Arq18 Akq18 Asq18 Anq18 Ahq18 Agq18 (own_fitc (own_c255 _)) W20 0 rfl (Nat.le_of_ble_eq_true rfl)
  obtain ⟨T23, h23, X23, e23, E23, A23, D23, U23, st23⟩ := newO X20 hx hZ hown (ow hw 2 rfl) (ow hw 3 rfl) (ow hw 4 rfl) e20 (g := (mkF m 57 #[.val (.int pI1), .val (.int pI2), .val (.int pI3), .val (.int pI4), .val (.int ((pI1 &&& (2147483647 : Int32)) % (5 : Int32))), .val (.int ((pI2 &&& (3 : Int32)) % (3 : Int32))), .val (.int ((((pI2.toUInt32 >>> ((2 : Int32) &&& 31).toUInt32).toInt32) &&& (3 : Int32)) % (3 : Int32))), .val (.ref bR5), .val (.ref bR14), .unset, .unset, .unset, .unset, .unset, .unset, .unset, .unset] [])) rfl (hb hby at_57) (by decide) (by decide)
  obtain ⟨bR23, g23⟩ : ∃ z, z = h20.size := ⟨_, rfl⟩
  rw [← g23] at A23 D23 U23 st23
  have Z25 : n0 ≤ h23.size := (Nat.le_trans Z22 E23.1)
  have F26 : Fld Z h23 bR23 "java/lang/String" "coder" "B" (.int 0) := D23 (Or.inr (ow hw 28 rfl)) (ty := .byte) (by decide)
  have F27 : Fld Z h23 bR23 "java/lang/String" "value" "[B" .null := D23 (Or.inr (ow hw 30 rfl)) (ty := (.array .byte)) (by decide)
  have c28 : Arv Z h14 bR5 k5 .char (1 : Int32) [(.int ((pI3 &&& (255 : Int32)).toUInt32.toUInt16.toUInt32.toInt32))] (.int (0 : Int32)) := V11.ext E14
  have c29 : Arv Z h20 bR5 k5 .char (1 : Int32) [(.int ((pI3 &&& (255 : Int32)).toUInt32.toUInt16.toUInt32.toInt32))] (.int (0 : Int32)) := c28.other W20 (Nat.ne_of_lt (Nat.lt_of_lt_of_le V11.lt (Nat.le_of_eq g14.symm)))
  have c30 : Arv Z h23 bR5 k5 .char (1 : Int32) [(.int ((pI3 &&& (255 : Int32)).toUInt32.toUInt16.toUInt32.toInt32))] (.int (0 : Int32)) := c29.ext E23
  have c32 : Sta Z h5 "java/lang/String" "COMPACT_STRINGS" "Z" (.int pI31) := S_String_COMPACT_STRINGS.ext E5
  have c33 : Sta Z h11 "java/lang/String" "COMPACT_STRINGS" "Z" (.int pI31) := c32.wr W11
  have c34 : Sta Z h14 "java/lang/String" "COMPACT_STRINGS" "Z" (.int pI31) := c33.ext E14
  have c35 : Sta Z h20 "java/lang/String" "COMPACT_STRINGS" "Z" (.int pI31) := c34.wr W20
  have c36 : Sta Z h23 "java/lang/String" "COMPACT_STRINGS" "Z" (.int pI31) := c35.ext E23
  have g37 : n0 ≤ bR23 := Nat.le_trans Z22 (Nat.le_of_eq g23.symm)
  obtain ⟨_, _, ⟨T38, L38, k38, n38⟩, -, X38, ⟨Lc38, hQ38, l38, y38, z38⟩, st38⟩ := X23.specialBack hx (y := yN4) rfl hown (mvT hZ (ow hw 5 rfl)) (mvT hZ (ow hw 6 rfl)) (mvT hZ (ow hw 7 rfl)) (by decide) (backOf (W := 1) (str l Z a0 hw [] bR23 bR5 ((pI3 &&& (255 : Int32)).toUInt32.toUInt16.toUInt32.toInt32) k5 pI31 h23 n0 Z25 c30 c36 A23 F26 g37 F27 hc63 (own_l255 _ : ¬ ((255 : Int32) < ((pI3 &&& (255 : Int32)).toUInt32.toUInt16.toUInt32.toInt32)))) hZ (ow hw 7 rfl) (ow hw 4 rfl) (by decide) (by decide)) (g := (mkF m 63 #[.val (.int pI1), .val (.int pI2), .val (.int pI3), .val (.int pI4), .val (.int ((pI1 &&& (2147483647 : Int32)) % (5 : Int32))), .val (.int ((pI2 &&& (3 : Int32)) % (3 : Int32))), .val (.int ((((pI2.toUInt32 >>> ((2 : Int32) &&& 31).toUInt32).toInt32) &&& (3 : Int32)) % (3 : Int32))), .val (.ref bR5), .val (.ref bR14), .unset, .unset, .unset, .unset, .unset, .unset, .unset, .unset] [(.ref bR5), (.ref bR23), (.ref bR23)])) rfl (by rw [hml]; rfl) (Steps.refl _) (a := bR23) (argsL := [(.ref bR5)]) (rest := [(.ref bR23)]) (lenOf pd_4 rfl) rfl (Nat.le_refl _) (hb hby at_63) (fun _ _ => ⟨rfl, e23, (by decide : 3 + 1 ≤ _), (by decide : 6 + 1 ≤ _)⟩)
  dsimp only [Pt.U, Pt.locs, Pt.cells, Pt.slots] at X38 l38 y38 z38 st38 hQ38
  subst l38 y38 z38
  obtain ⟨bR38_0, kK38_0, rfl, Nq38, Kq38, sz38_0, x38_0, x38_1, x38_2, x38_3⟩ := hQ38
  have N38 := Fr.app N20 Nq38
  obtain ⟨Lh38, X38, N38⟩ := own_hide X38 N38
  have Z40 : n0 ≤ T38.heap.size := (Nat.le_trans Z25 Kq38.1)
  obtain ⟨T41, h41, X41, e41, E41, A41, D41, U41, st41⟩ := newO X38 hx hZ hown (ow hw 2 rfl) (ow hw 3 rfl) (ow hw 4 rfl) rfl (g := (mkF m 68 #[.val (.int pI1), .val (.int pI2), .val (.int pI3), .val (.int pI4), .val (.int ((pI1 &&& (2147483647 : Int32)) % (5 : Int32))), .val (.int ((pI2 &&& (3 : Int32)) % (3 : Int32))), .val (.int ((((pI2.toUInt32 >>> ((2 : Int32) &&& 31).toUInt32).toInt32) &&& (3 : Int32)) % (3 : Int32))), .val (.ref bR5), .val (.ref bR14), .val (.ref bR23), .unset, .unset, .unset, .unset, .unset, .unset, .unset] [])) rfl (hb hby at_68) (by decide) (by decide)
  obtain ⟨bR41, g41⟩ : ∃ z, z = T38.heap.size := ⟨_, rfl⟩
  rw [← g41] at A41 D41 U41 st41
  have Z43 : n0 ≤ h41.size := (Nat.le_trans Z40 E41.1)
  have F44 : Fld Z h41 bR41 "java/lang/String" "coder" "B" (.int 0) := D41 (Or.inr (ow hw 28 rfl)) (ty := .byte) (by decide)
  have F45 : Fld Z h41 bR41 "java/lang/String" "value" "[B" .null := D41 (Or.inr (ow hw 30 rfl)) (ty := (.array .byte)) (by decide)
  have c46 : Arv Z h23 bR14 k14 .char (1 : Int32) [(.int ((((pI3.toUInt32 >>> ((8 : Int32) &&& 31).toUInt32).toInt32) &&& (255 : Int32)).toUInt32.toUInt16.toUInt32.toInt32))] (.int (0 : Int32)) := V20.ext E23
  have c47 : Arv Z T38.heap bR14 k14 .char (1 : Int32) [(.int ((((pI3.toUInt32 >>> ((8 : Int32) &&& 31).toUInt32).toInt32) &&& (255 : Int32)).toUInt32.toUInt16.toUInt32.toInt32))] (.int (0 : Int32)) := c46.keep Kq38 (ninS (Nat.ne_of_lt (Nat.lt_of_lt_of_le V20.lt (Nat.le_of_eq g23.symm))) nin0)
  have c48 : Arv Z h41 bR14 k14 .char (1 : Int32) [(.int ((((pI3.toUInt32 >>> ((8 : Int32) &&& 31).toUInt32).toInt32) &&& (255 : Int32)).toUInt32.toUInt16.toUInt32.toInt32))] (.int (0 : Int32)) := c47.ext E41
  have c49 : Sta Z T38.heap "java/lang/String" "COMPACT_STRINGS" "Z" (.int pI31) := own_sta_keep c36 Kq38 (allS (own_plain_E A23) all0)
  have c50 : Sta Z h41 "java/lang/String" "COMPACT_STRINGS" "Z" (.int pI31) := c49.ext E41
  have g51 : n0 ≤ bR41 := Nat.le_trans Z40 (Nat.le_of_eq g41.symm)
  obtain ⟨_, _, ⟨T52, L52, k52, n52⟩, -, X52, ⟨Lc52, hQ52, l52, y52, z52⟩, st52⟩ := X41.specialBack hx (y := yN4) rfl hown (mvT hZ (ow hw 5 rfl)) (mvT hZ (ow hw 6 rfl)) (mvT hZ (ow hw 7 rfl)) (by decide) (backOf (W := 1) (str l Z a0 hw [] bR41 bR14 ((((pI3.toUInt32 >>> ((8 : Int32) &&& 31).toUInt32).toInt32) &&& (255 : Int32)).toUInt32.toUInt16.toUInt32.toInt32) k14 pI31 h41 n0 Z43 c48 c50 A41 F44 g51 F45 hc63 (own_l255 _ : ¬ ((255 : Int32) < ((((pI3.toUInt32 >>> ((8 : Int32) &&& 31).toUInt32).toInt32) &&& (255 : Int32)).toUInt32.toUInt16.toUInt32.toInt32)))) hZ (ow hw 7 rfl) (ow hw 4 rfl) (by decide) (by decide)) (g := (mkF m 74 #[.val (.int pI1), .val (.int pI2), .val (.int pI3), .val (.int pI4), .val (.int ((pI1 &&& (2147483647 : Int32)) % (5 : Int32))), .val (.int ((pI2 &&& (3 : Int32)) % (3 : Int32))), .val (.int ((((pI2.toUInt32 >>> ((2 : Int32) &&& 31).toUInt32).toInt32) &&& (3 : Int32)) % (3 : Int32))), .val (.ref bR5), .val (.ref bR14), .val (.ref bR23), .unset, .unset, .unset, .unset, .unset, .unset, .unset] [(.ref bR14), (.ref bR41), (.ref bR41)])) rfl (by rw [hml]; rfl) (Steps.refl _) (a := bR41) (argsL := [(.ref bR14)]) (rest := [(.ref bR41)]) (lenOf pd_4 rfl) rfl (Nat.le_refl _) (hb hby at_74) (fun _ _ => ⟨rfl, e41, (by decide : 5 + 1 ≤ _), (by decide : 11 + 1 ≤ _)⟩)
  dsimp only [Pt.U, Pt.locs, Pt.cells, Pt.slots] at X52 l52 y52 z52 st52 hQ52
  subst l52 y52 z52
  obtain ⟨bR52_0, kK52_0, rfl, Nq52, Kq52, sz52_0, x52_0, x52_1, x52_2, x52_3⟩ := hQ52
  have N52 := Fr.app N38 Nq52
  obtain ⟨Lh52, X52, N52⟩ := own_hide X52 N52
  have Z54 : n0 ≤ T52.heap.size := (Nat.le_trans Z43 Kq52.1)
  obtain ⟨_, _, ⟨T55, L55, k55, n55⟩, -, X55, ⟨Lc55, hQ55, l55, y55, z55⟩, st55⟩ := Jvm.LawKit.callS X52 hx (y := yN5) hown (mvT hZ (ow hw 31 rfl)) (mvT hZ (ow hw 32 rfl)) (mvT hZ (ow hw 33 rfl)) (mvT hZ (ow hw 34 rfl)) (by decide) (backOf (W := 0) (endN l Z a0 hw [] ((pI2 &&& (3 : Int32)) % (3 : Int32)) pI4 T52.heap n0 Z54 hc82) hZ (ow hw 34 rfl) (ow hw 33 rfl) (by decide) (by decide)) (g := (mkF m 82 #[.val (.int pI1), .val (.int pI2), .val (.int pI3), .val (.int pI4), .val (.int ((pI1 &&& (2147483647 : Int32)) % (5 : Int32))), .val (.int ((pI2 &&& (3 : Int32)) % (3 : Int32))), .val (.int ((((pI2.toUInt32 >>> ((2 : Int32) &&& 31).toUInt32).toInt32) &&& (3 : Int32)) % (3 : Int32))), .val (.ref bR5), .val (.ref bR14), .val (.ref bR23), .val (.ref bR41), .unset, .unset, .unset, .unset, .unset, .unset] [(.int pI4), (.int ((pI2 &&& (3 : Int32)) % (3 : Int32)))])) rfl (by rw [hml]; rfl) (argsL := [(.int ((pI2 &&& (3 : Int32)) % (3 : Int32))), (.int pI4)]) (rest := []) (lenOf pd_6 rfl) rfl (Nat.le_refl _) (hb hby at_82) (fun _ _ => ⟨rfl, rfl, (by decide : 6 + 0 ≤ _), (by decide : 12 + 0 ≤ _)⟩)
  dsimp only [Pt.U, Pt.locs, Pt.cells, Pt.slots] at X55 l55 y55 z55 st55 hQ55
  subst l55 y55 z55
  obtain ⟨rfl, Nq55, e55⟩ := hQ55
  have N55 := Fr.app N52 Nq55
  have c56 : Sta Z T52.heap "java/lang/String" "COMPACT_STRINGS" "Z" (.int pI31) := own_sta_keep c50 Kq52 (allS (own_plain_E A41) all0)
  obtain ⟨_, _, ⟨T57, L57, k57, n57⟩, -, X57, hs257, hg257, ⟨Lc57, hQ57, l57, y57, z57⟩, st57⟩ := callSS X55 hx (y := yN5) hown (mvT hZ (ow hw 31 rfl)) (mvT hZ (ow hw 32 rfl)) (mvT hZ (ow hw 33 rfl)) (mvT hZ (ow hw 34 rfl)) (by decide) (backOfS (s := s.setVm s.vm) (W := 0) (endR l Z a0 hw [] ((((pI2.toUInt32 >>> ((2 : Int32) &&& 31).toUInt32).toInt32) &&& (3 : Int32)) % (3 : Int32)) ((pI4.toUInt32 >>> ((8 : Int32) &&& 31).toUInt32).toInt32) pI31 T52.heap n0 Z54 c56 hc93 hc63) hZ (ow hw 34 rfl) (ow hw 33 rfl) (by decide) (by decide)) (g := (mkF m 93 #[.val (.int pI1), .val (.int pI2), .val (.int pI3), .val (.int pI4), .val (.int ((pI1 &&& (2147483647 : Int32)) % (5 : Int32))), .val (.int ((pI2 &&& (3 : Int32)) % (3 : Int32))), .val (.int ((((pI2.toUInt32 >>> ((2 : Int32) &&& 31).toUInt32).toInt32) &&& (3 : Int32)) % (3 : Int32))), .val (.ref bR5), .val (.ref bR14), .val (.ref bR23), .val (.ref bR41), .val .null, .unset, .unset, .unset, .unset, .unset] [(.int ((pI4.toUInt32 >>> ((8 : Int32) &&& 31).toUInt32).toInt32)), (.int ((((pI2.toUInt32 >>> ((2 : Int32) &&& 31).toUInt32).toInt32) &&& (3 : Int32)) % (3 : Int32)))])) rfl (by rw [hml]; rfl) (argsL := [(.int ((((pI2.toUInt32 >>> ((2 : Int32) &&& 31).toUInt32).toInt32) &&& (3 : Int32)) % (3 : Int32))), (.int ((pI4.toUInt32 >>> ((8 : Int32) &&& 31).toUInt32).toInt32))]) (rest := []) (lenOf pd_6 rfl) rfl (Nat.le_refl _) (hb hby at_93) (fun _ _ => ⟨rfl, e55, (by decide : 6 + 3 ≤ _), (by decide : 12 + 6 ≤ _)⟩)
  dsimp only [Pt.U, Pt.locs, Pt.cells, Pt.slots] at X57 l57 y57 z57 st57 hQ57 hs257 hg257
  subst l57 y57 z57
  have X57 := own_refold X57
  have hS57 := foldS hS0 (by rw [e55]; exact (Nat.le_trans (Nat.le_trans (Nat.le_trans (Nat.le_trans (Nat.le_trans (Nat.le_trans (Nat.le_trans (Nat.le_trans hk0 E5.1) (Keep.of_wr W11).1) E14.1) (Keep.of_wr W20).1) E23.1) Kq38.1) E41.1) Kq52.1)) hs257 hg257
  have hk57 : T57.heap.size ≤ T57.heap.size := Nat.le_refl _
  have hZ57 : Z.Warmed39 (s.setVm T57.vm).vm := State.Warmed39.trans (t := s.setVm s.vm) hZ hs257.1
  have ho57 : (s.setVm T57.vm).vm.findClass "com/example/pergamena/pergamena/build/QuantityHasRangePinLaw" = some m.cls := by rw [show (s.setVm T57.vm).vm = T57.vm from rfl, hs257.1.alike.findClass]; exact hown
  obtain ⟨bR57_0, rfl, Nq57, Kq57⟩ := hQ57
  have N57 := Fr.app N55 Nq57
  obtain ⟨Lh57, X57, N57⟩ := own_hide X57 N57
  have Z59 : n0 ≤ T57.heap.size := (Nat.le_trans Z54 Kq57.1)
  obtain ⟨T60, h60, X60, e60, E60, A60, D60, U60, st60⟩ := newO X57 hx hZ57 ho57 (ow hw 35 rfl) (ow hw 36 rfl) (ow hw 37 rfl) rfl (g := (mkF m 98 #[.val (.int pI1), .val (.int pI2), .val (.int pI3), .val (.int pI4), .val (.int ((pI1 &&& (2147483647 : Int32)) % (5 : Int32))), .val (.int ((pI2 &&& (3 : Int32)) % (3 : Int32))), .val (.int ((((pI2.toUInt32 >>> ((2 : Int32) &&& 31).toUInt32).toInt32) &&& (3 : Int32)) % (3 : Int32))), .val (.ref bR5), .val (.ref bR14), .val (.ref bR23), .val (.ref bR41), .val .null, .val (.ref bR57_0), .unset, .unset, .unset, .unset] [])) rfl (hb hby at_98) (by decide) (by decide)
  obtain ⟨bR60, g60⟩ : ∃ z, z = T57.heap.size := ⟨_, rfl⟩
  rw [← g60] at A60 D60 U60 st60
  have Z62 : n0 ≤ h60.size := (Nat.le_trans Z59 E60.1)
  have F63 : Fld Z h60 bR60 "com/example/pergamena/pergamena/build/LabResults$Quantity" "comparator" "Lcom/example/pergamena/pergamena/build/LabResults$Comparator;" .null := D60 (Or.inr (ow hw 51 rfl)) (ty := (.object "com/example/pergamena/pergamena/build/LabResults$Comparator")) (by decide)
  have F64 : Fld Z h60 bR60 "com/example/pergamena/pergamena/build/LabResults$Quantity" "number" "Ljava/lang/String;" .null := D60 (Or.inr (ow hw 53 rfl)) (ty := (.object "java/lang/String")) (by decide)
  have F65 : Fld Z h60 bR60 "com/example/pergamena/pergamena/build/LabResults$Quantity" "unit" "Ljava/lang/String;" .null := D60 (Or.inr (ow hw 55 rfl)) (ty := (.object "java/lang/String")) (by decide)
  have F66 : Fld Z h60 bR60 "com/example/pergamena/pergamena/build/LabResults$Quantity" "low" "Ljava/lang/String;" .null := D60 (Or.inr (ow hw 57 rfl)) (ty := (.object "java/lang/String")) (by decide)
  have F67 : Fld Z h60 bR60 "com/example/pergamena/pergamena/build/LabResults$Quantity" "high" "Ljava/lang/String;" .null := D60 (Or.inr (ow hw 59 rfl)) (ty := (.object "java/lang/String")) (by decide)
  obtain ⟨_, _, ⟨T68, L68, k68, n68⟩, -, X68, ⟨Lc68, hQ68, l68, y68, z68⟩, st68⟩ := Jvm.LawKit.callS X60 hx (y := yN6) ho57 (mvT hZ57 (ow hw 38 rfl)) (mvT hZ57 (ow hw 39 rfl)) (mvT hZ57 (ow hw 33 rfl)) (mvT hZ57 (ow hw 40 rfl)) (by decide) (backOf (W := 2) (comN l Z a0 hw [] ((pI1 &&& (2147483647 : Int32)) % (5 : Int32)) h60 n0 Z62 hc104) hZ57 (ow hw 40 rfl) (ow hw 33 rfl) (by decide) (by decide)) (g := (mkF m 104 #[.val (.int pI1), .val (.int pI2), .val (.int pI3), .val (.int pI4), .val (.int ((pI1 &&& (2147483647 : Int32)) % (5 : Int32))), .val (.int ((pI2 &&& (3 : Int32)) % (3 : Int32))), .val (.int ((((pI2.toUInt32 >>> ((2 : Int32) &&& 31).toUInt32).toInt32) &&& (3 : Int32)) % (3 : Int32))), .val (.ref bR5), .val (.ref bR14), .val (.ref bR23), .val (.ref bR41), .val .null, .val (.ref bR57_0), .unset, .unset, .unset, .unset] [(.int ((pI1 &&& (2147483647 : Int32)) % (5 : Int32))), (.ref bR60), (.ref bR60)])) rfl (by rw [hml]; rfl) (argsL := [(.int ((pI1 &&& (2147483647 : Int32)) % (5 : Int32)))]) (rest := [(.ref bR60), (.ref bR60)]) (lenOf pd_7 rfl) rfl (Nat.le_refl _) (hb hby at_104) (fun _ _ => ⟨rfl, e60, (by decide : 10 + 0 ≤ _), (by decide : 23 + 0 ≤ _)⟩)
  dsimp only [Pt.U, Pt.locs, Pt.cells, Pt.slots] at X68 l68 y68 z68 st68 hQ68
  subst l68 y68 z68
  obtain ⟨rfl, Nq68, e68⟩ := hQ68
  have N68 := Fr.app N57 Nq68
  have g69 : n0 ≤ bR60 := Nat.le_trans Z59 (Nat.le_of_eq g60.symm)
  obtain ⟨_, _, ⟨T70, L70, k70, n70⟩, -, X70, ⟨Lc70, hQ70, l70, y70, z70⟩, st70⟩ := X68.specialBack hx (y := yN8) rfl ho57 (mvT hZ57 (ow hw 41 rfl)) (mvT hZ57 (ow hw 42 rfl)) (mvT hZ57 (ow hw 43 rfl)) (by decide) (backOf (W := 1) (qNNR l Z a0 hw [] bR60 bR23 bR41 bR57_0 h60 n0 Z62 A60 F63 g69 F64 F65 F66 F67) hZ57 (ow hw 43 rfl) (ow hw 37 rfl) (by decide) (by decide)) (g := (mkF m 115 #[.val (.int pI1), .val (.int pI2), .val (.int pI3), .val (.int pI4), .val (.int ((pI1 &&& (2147483647 : Int32)) % (5 : Int32))), .val (.int ((pI2 &&& (3 : Int32)) % (3 : Int32))), .val (.int ((((pI2.toUInt32 >>> ((2 : Int32) &&& 31).toUInt32).toInt32) &&& (3 : Int32)) % (3 : Int32))), .val (.ref bR5), .val (.ref bR14), .val (.ref bR23), .val (.ref bR41), .val .null, .val (.ref bR57_0), .unset, .unset, .unset, .unset] [(.ref bR57_0), .null, (.ref bR41), (.ref bR23), .null, (.ref bR60), (.ref bR60)])) rfl (by rw [hml]; rfl) (Steps.refl _) (a := bR60) (argsL := [.null, (.ref bR23), (.ref bR41), .null, (.ref bR57_0)]) (rest := [(.ref bR60)]) (lenOf pd_8 rfl) rfl (Nat.le_refl _) (hb hby at_115) (fun _ _ => ⟨rfl, e68, (by decide : 10 + 0 ≤ _), (by decide : 23 + 0 ≤ _)⟩)
  dsimp only [Pt.U, Pt.locs, Pt.cells, Pt.slots] at X70 l70 y70 z70 st70 hQ70
  subst l70 y70 z70
  obtain ⟨rfl, Nq70, Kq70, x70_0, x70_1, x70_2, x70_3, x70_4, x70_5⟩ := hQ70
  have N70 := Fr.app N68 Nq70
  obtain ⟨Lh70, X70, N70⟩ := own_hide X70 N70
  have Z72 : n0 ≤ T70.heap.size := (Nat.le_trans Z62 Kq70.1)
  obtain ⟨cq73, kq73, q73a, q73b, q73c⟩ := isOf hZ57 rfl x70_0
  obtain ⟨_, _, ⟨T73, L73, k73, n73⟩, -, X73, ⟨Lc73, hQ73, l73, y73, z73⟩, st73⟩ := X70.virtualBack hx (y := yN9) (z := yN9) ho57 (mvT hZ57 (ow hw 60 rfl)) (mvT hZ57 (ow hw 61 rfl)) (notFace_of_selects (args := #[]) (mvT hZ57 (ow hw 63 rfl))) (mvT hZ57 (ow hw 63 rfl)) (mvT hZ57 (ow hw 62 rfl)) (by decide) (backOf (W := 0) (hrNR l Z a0 hw [] bR60 bR57_0 T70.heap n0 Z72 x70_4 x70_5) hZ57 (ow hw 64 rfl) (ow hw 37 rfl) (by decide) (by decide)) q73a q73c (g := (mkF m 171 #[.val (.int pI1), .val (.int pI2), .val (.int pI3), .val (.int pI4), .val (.int ((pI1 &&& (2147483647 : Int32)) % (5 : Int32))), .val (.int ((pI2 &&& (3 : Int32)) % (3 : Int32))), .val (.int ((((pI2.toUInt32 >>> ((2 : Int32) &&& 31).toUInt32).toInt32) &&& (3 : Int32)) % (3 : Int32))), .val (.ref bR5), .val (.ref bR14), .val (.ref bR23), .val (.ref bR41), .val .null, .val (.ref bR57_0), .val (.ref bR60), .val (.int 0), .val (.int 1), .val (.int 1)] [(.ref bR60)])) rfl (by rw [hml]; rfl) (Steps.refl _) (argsL := []) (rest := []) (lenOf pd_9 rfl) rfl (Nat.le_refl _) (hb hby at_171) (fun _ _ => ⟨rfl, rfl, (by decide : 10 + 0 ≤ _), (by decide : 23 + 0 ≤ _)⟩)
  dsimp only [Pt.U, Pt.locs, Pt.cells, Pt.slots] at X73 l73 y73 z73 st73 hQ73
  subst l73 y73 z73
  obtain ⟨rfl, Nq73, e73⟩ := hQ73
  have N73 := Fr.app N70 Nq73
  obtain ⟨fs, hr, hrun, hended, hE⟩ := X73.leaveW hS57 (by rw [e73]; exact (Nat.le_trans (Nat.le_trans hk57 E60.1) Kq70.1)) (v := some (.int 1)) (fun h => by rw [Bd.returns] at h; cases h)
  refine ⟨_, _, castTop (ef_lawNNR m pI1 pI2 pI3 pI4) ?_, hrun, hended, _, _, rfl, ?_, hE.1, hE.2.1, hE.2.2.1, hE.2.2.2.mono (by decide) (by decide)⟩
  · show oS p e below s₁ m 0 #[.val (.int pI1), .val (.int pI2), .val (.int pI3), .val (.int pI4), .unset, .unset, .unset, .unset, .unset, .unset, .unset, .unset, .unset, .unset, .unset, .unset, .unset] [] _
    refine XS.iloadN X0.here hx rfl (hb hby at_0) rfl ?_
    refine X0.ldcInt hx hown (mvT hZ (ow hw 0 rfl)) (g := (mkF m 1 #[.val (.int pI1), .val (.int pI2), .val (.int pI3), .val (.int pI4), .unset, .unset, .unset, .unset, .unset, .unset, .unset, .unset, .unset, .unset, .unset, .unset, .unset] [(.int pI1)])) rfl (hb hby at_1) _ ?_
    refine XS.iand X0.here hx rfl (hb hby at_3) rfl ?_
    refine XS.iconst X0.here hx rfl (hb hby at_4) ?_
    show Steps p.tables e below (s₁.setTop (mkF m 5 #[.val (.int pI1), .val (.int pI2), .val (.int pI3), .val (.int pI4), .unset, .unset, .unset, .unset, .unset, .unset, .unset, .unset, .unset, .unset, .unset, .unset, .unset] [(.int 5), (.int (pI1 &&& (2147483647 : Int32)))])) _
    refine iremM (g := (mkF m 5 #[.val (.int pI1), .val (.int pI2), .val (.int pI3), .val (.int pI4), .unset, .unset, .unset, .unset, .unset, .unset, .unset, .unset, .unset, .unset, .unset, .unset, .unset] [(.int 5), (.int (pI1 &&& (2147483647 : Int32)))])) X0 hx rfl (hb hby at_5) rfl (by decide) ?_
    refine XS.istore X0.here hx rfl (hb hby at_6) rfl (l' := #[.val (.int pI1), .val (.int pI2), .val (.int pI3), .val (.int pI4), .val (.int ((pI1 &&& (2147483647 : Int32)) % (5 : Int32))), .unset, .unset, .unset, .unset, .unset, .unset, .unset, .unset, .unset, .unset, .unset, .unset]) rfl ?_
    refine XS.iloadN X0.here hx rfl (hb hby at_8) rfl ?_
    refine XS.iconst X0.here hx rfl (hb hby at_9) ?_
    show oS p e below s₁ m 10 #[.val (.int pI1), .val (.int pI2), .val (.int pI3), .val (.int pI4), .val (.int ((pI1 &&& (2147483647 : Int32)) % (5 : Int32))), .unset, .unset, .unset, .unset, .unset, .unset, .unset, .unset, .unset, .unset, .unset, .unset] [(.int 3), (.int pI2)] _
    refine XS.iand X0.here hx rfl (hb hby at_10) rfl ?_
    refine XS.iconst X0.here hx rfl (hb hby at_11) ?_
    show Steps p.tables e below (s₁.setTop (mkF m 12 #[.val (.int pI1), .val (.int pI2), .val (.int pI3), .val (.int pI4), .val (.int ((pI1 &&& (2147483647 : Int32)) % (5 : Int32))), .unset, .unset, .unset, .unset, .unset, .unset, .unset, .unset, .unset, .unset, .unset, .unset] [(.int 3), (.int (pI2 &&& (3 : Int32)))])) _
    refine iremM (g := (mkF m 12 #[.val (.int pI1), .val (.int pI2), .val (.int pI3), .val (.int pI4), .val (.int ((pI1 &&& (2147483647 : Int32)) % (5 : Int32))), .unset, .unset, .unset, .unset, .unset, .unset, .unset, .unset, .unset, .unset, .unset, .unset] [(.int 3), (.int (pI2 &&& (3 : Int32)))])) X0 hx rfl (hb hby at_12) rfl (by decide) ?_
    refine XS.istore X0.here hx rfl (hb hby at_13) rfl (l' := #[.val (.int pI1), .val (.int pI2), .val (.int pI3), .val (.int pI4), .val (.int ((pI1 &&& (2147483647 : Int32)) % (5 : Int32))), .val (.int ((pI2 &&& (3 : Int32)) % (3 : Int32))), .unset, .unset, .unset, .unset, .unset, .unset, .unset, .unset, .unset, .unset, .unset]) rfl ?_
    show oS p e below s₁ m 15 #[.val (.int pI1), .val (.int pI2), .val (.int pI3), .val (.int pI4), .val (.int ((pI1 &&& (2147483647 : Int32)) % (5 : Int32))), .val (.int ((pI2 &&& (3 : Int32)) % (3 : Int32))), .unset, .unset, .unset, .unset, .unset, .unset, .unset, .unset, .unset, .unset, .unset] [] _
    refine XS.iloadN X0.here hx rfl (hb hby at_15) rfl ?_
    refine XS.iconst X0.here hx rfl (hb hby at_16) ?_
    refine XS.iushr X0.here hx rfl (hb hby at_17) rfl ?_
    refine XS.iconst X0.here hx rfl (hb hby at_18) ?_
    show oS p e below s₁ m 19 #[.val (.int pI1), .val (.int pI2), .val (.int pI3), .val (.int pI4), .val (.int ((pI1 &&& (2147483647 : Int32)) % (5 : Int32))), .val (.int ((pI2 &&& (3 : Int32)) % (3 : Int32))), .unset, .unset, .unset, .unset, .unset, .unset, .unset, .unset, .unset, .unset, .unset] [(.int 3), (.int ((pI2.toUInt32 >>> ((2 : Int32) &&& 31).toUInt32).toInt32))] _
    refine XS.iand X0.here hx rfl (hb hby at_19) rfl ?_
    refine XS.iconst X0.here hx rfl (hb hby at_20) ?_
    show Steps p.tables e below (s₁.setTop (mkF m 21 #[.val (.int pI1), .val (.int pI2), .val (.int pI3), .val (.int pI4), .val (.int ((pI1 &&& (2147483647 : Int32)) % (5 : Int32))), .val (.int ((pI2 &&& (3 : Int32)) % (3 : Int32))), .unset, .unset, .unset, .unset, .unset, .unset, .unset, .unset, .unset, .unset, .unset] [(.int 3), (.int (((pI2.toUInt32 >>> ((2 : Int32) &&& 31).toUInt32).toInt32) &&& (3 : Int32)))])) _
    refine iremM (g := (mkF m 21 #[.val (.int pI1), .val (.int pI2), .val (.int pI3), .val (.int pI4), .val (.int ((pI1 &&& (2147483647 : Int32)) % (5 : Int32))), .val (.int ((pI2 &&& (3 : Int32)) % (3 : Int32))), .unset, .unset, .unset, .unset, .unset, .unset, .unset, .unset, .unset, .unset, .unset] [(.int 3), (.int (((pI2.toUInt32 >>> ((2 : Int32) &&& 31).toUInt32).toInt32) &&& (3 : Int32)))])) X0 hx rfl (hb hby at_21) rfl (by decide) ?_
    refine XS.istore X0.here hx rfl (hb hby at_22) rfl (l' := #[.val (.int pI1), .val (.int pI2), .val (.int pI3), .val (.int pI4), .val (.int ((pI1 &&& (2147483647 : Int32)) % (5 : Int32))), .val (.int ((pI2 &&& (3 : Int32)) % (3 : Int32))), .val (.int ((((pI2.toUInt32 >>> ((2 : Int32) &&& 31).toUInt32).toInt32) &&& (3 : Int32)) % (3 : Int32))), .unset, .unset, .unset, .unset, .unset, .unset, .unset, .unset, .unset, .unset]) rfl ?_
    show oS p e below s₁ m 24 #[.val (.int pI1), .val (.int pI2), .val (.int pI3), .val (.int pI4), .val (.int ((pI1 &&& (2147483647 : Int32)) % (5 : Int32))), .val (.int ((pI2 &&& (3 : Int32)) % (3 : Int32))), .val (.int ((((pI2.toUInt32 >>> ((2 : Int32) &&& 31).toUInt32).toInt32) &&& (3 : Int32)) % (3 : Int32))), .unset, .unset, .unset, .unset, .unset, .unset, .unset, .unset, .unset, .unset] [] _
    refine XS.iconst X0.here hx rfl (hb hby at_24) ?_
    refine st5 _ ?_
    refine XS.astore X5.here hx rfl (hb hby at_27) rfl rfl (l' := #[.val (.int pI1), .val (.int pI2), .val (.int pI3), .val (.int pI4), .val (.int ((pI1 &&& (2147483647 : Int32)) % (5 : Int32))), .val (.int ((pI2 &&& (3 : Int32)) % (3 : Int32))), .val (.int ((((pI2.toUInt32 >>> ((2 : Int32) &&& 31).toUInt32).toInt32) &&& (3 : Int32)) % (3 : Int32))), .val (.ref bR5), .unset, .unset, .unset, .unset, .unset, .unset, .unset, .unset, .unset]) rfl ?_
    refine XS.aload X5.here hx rfl (hb hby at_29) rfl rfl ?_
    show oS p e below T5 m 31 #[.val (.int pI1), .val (.int pI2), .val (.int pI3), .val (.int pI4), .val (.int ((pI1 &&& (2147483647 : Int32)) % (5 : Int32))), .val (.int ((pI2 &&& (3 : Int32)) % (3 : Int32))), .val (.int ((((pI2.toUInt32 >>> ((2 : Int32) &&& 31).toUInt32).toInt32) &&& (3 : Int32)) % (3 : Int32))), .val (.ref bR5), .unset, .unset, .unset, .unset, .unset, .unset, .unset, .unset, .unset] [(.ref bR5)] _
    refine XS.iconst X5.here hx rfl (hb hby at_31) ?_
    refine XS.iloadN X5.here hx rfl (hb hby at_32) rfl ?_
    refine XS.sipush X5.here hx rfl (hb hby at_33) ?_
    refine XS.iand X5.here hx rfl (hb hby at_36) rfl ?_
    show oS p e below T5 m 37 #[.val (.int pI1), .val (.int pI2), .val (.int pI3), .val (.int pI4), .val (.int ((pI1 &&& (2147483647 : Int32)) % (5 : Int32))), .val (.int ((pI2 &&& (3 : Int32)) % (3 : Int32))), .val (.int ((((pI2.toUInt32 >>> ((2 : Int32) &&& 31).toUInt32).toInt32) &&& (3 : Int32)) % (3 : Int32))), .val (.ref bR5), .unset, .unset, .unset, .unset, .unset, .unset, .unset, .unset, .unset] [(.int (pI3 &&& (255 : Int32))), (.int 0), (.ref bR5)] _
    refine XS.i2c X5.here hx rfl (hb hby at_37) rfl ?_
    refine st11 _ ?_
    refine XS.iconst X11.here hx rfl (hb hby at_39) ?_
    refine st14 _ ?_
    show oS p e below T14 m 42 #[.val (.int pI1), .val (.int pI2), .val (.int pI3), .val (.int pI4), .val (.int ((pI1 &&& (2147483647 : Int32)) % (5 : Int32))), .val (.int ((pI2 &&& (3 : Int32)) % (3 : Int32))), .val (.int ((((pI2.toUInt32 >>> ((2 : Int32) &&& 31).toUInt32).toInt32) &&& (3 : Int32)) % (3 : Int32))), .val (.ref bR5), .unset, .unset, .unset, .unset, .unset, .unset, .unset, .unset, .unset] [(.ref bR14)] _
    refine XS.astore X14.here hx rfl (hb hby at_42) rfl rfl (l' := #[.val (.int pI1), .val (.int pI2), .val (.int pI3), .val (.int pI4), .val (.int ((pI1 &&& (2147483647 : Int32)) % (5 : Int32))), .val (.int ((pI2 &&& (3 : Int32)) % (3 : Int32))), .val (.int ((((pI2.toUInt32 >>> ((2 : Int32) &&& 31).toUInt32).toInt32) &&& (3 : Int32)) % (3 : Int32))), .val (.ref bR5), .val (.ref bR14), .unset, .unset, .unset, .unset, .unset, .unset, .unset, .unset]) rfl ?_
    refine XS.aload X14.here hx rfl (hb hby at_44) rfl rfl ?_
    refine XS.iconst X14.here hx rfl (hb hby at_46) ?_
    refine XS.iloadN X14.here hx rfl (hb hby at_47) rfl ?_
    show oS p e below T14 m 48 #[.val (.int pI1), .val (.int pI2), .val (.int pI3), .val (.int pI4), .val (.int ((pI1 &&& (2147483647 : Int32)) % (5 : Int32))), .val (.int ((pI2 &&& (3 : Int32)) % (3 : Int32))), .val (.int ((((pI2.toUInt32 >>> ((2 : Int32) &&& 31).toUInt32).toInt32) &&& (3 : Int32)) % (3 : Int32))), .val (.ref bR5), .val (.ref bR14), .unset, .unset, .unset, .unset, .unset, .unset, .unset, .unset] [(.int pI3), (.int 0), (.ref bR14)] _
    refine XS.bipush X14.here hx rfl (hb hby at_48) ?_
    refine XS.iushr X14.here hx rfl (hb hby at_50) rfl ?_
    refine XS.sipush X14.here hx rfl (hb hby at_51) ?_
    refine XS.iand X14.here hx rfl (hb hby at_54) rfl ?_
    show oS p e below T14 m 55 #[.val (.int pI1), .val (.int pI2), .val (.int pI3), .val (.int pI4), .val (.int ((pI1 &&& (2147483647 : Int32)) % (5 : Int32))), .val (.int ((pI2 &&& (3 : Int32)) % (3 : Int32))), .val (.int ((((pI2.toUInt32 >>> ((2 : Int32) &&& 31).toUInt32).toInt32) &&& (3 : Int32)) % (3 : Int32))), .val (.ref bR5), .val (.ref bR14), .unset, .unset, .unset, .unset, .unset, .unset, .unset, .unset] [(.int (((pI3.toUInt32 >>> ((8 : Int32) &&& 31).toUInt32).toInt32) &&& (255 : Int32))), (.int 0), (.ref bR14)] _
    refine XS.i2c X14.here hx rfl (hb hby at_55) rfl ?_
    refine st20 _ ?_
    refine st23 _ ?_
    refine XS.dup X23.here hx rfl (hb hby at_60) rfl rfl ?_
    show oS p e below T23 m 61 #[.val (.int pI1), .val (.int pI2), .val (.int pI3), .val (.int pI4), .val (.int ((pI1 &&& (2147483647 : Int32)) % (5 : Int32))), .val (.int ((pI2 &&& (3 : Int32)) % (3 : Int32))), .val (.int ((((pI2.toUInt32 >>> ((2 : Int32) &&& 31).toUInt32).toInt32) &&& (3 : Int32)) % (3 : Int32))), .val (.ref bR5), .val (.ref bR14), .unset, .unset, .unset, .unset, .unset, .unset, .unset, .unset] [(.ref bR23), (.ref bR23)] _
    refine XS.aload X23.here hx rfl (hb hby at_61) rfl rfl ?_
    refine st38.trans ?_
    refine XS.astore X38.here hx rfl (hb hby at_66) rfl rfl (l' := #[.val (.int pI1), .val (.int pI2), .val (.int pI3), .val (.int pI4), .val (.int ((pI1 &&& (2147483647 : Int32)) % (5 : Int32))), .val (.int ((pI2 &&& (3 : Int32)) % (3 : Int32))), .val (.int ((((pI2.toUInt32 >>> ((2 : Int32) &&& 31).toUInt32).toInt32) &&& (3 : Int32)) % (3 : Int32))), .val (.ref bR5), .val (.ref bR14), .val (.ref bR23), .unset, .unset, .unset, .unset, .unset, .unset, .unset]) rfl ?_
    refine st41 _ ?_
    show oS p e below T41 m 71 #[.val (.int pI1), .val (.int pI2), .val (.int pI3), .val (.int pI4), .val (.int ((pI1 &&& (2147483647 : Int32)) % (5 : Int32))), .val (.int ((pI2 &&& (3 : Int32)) % (3 : Int32))), .val (.int ((((pI2.toUInt32 >>> ((2 : Int32) &&& 31).toUInt32).toInt32) &&& (3 : Int32)) % (3 : Int32))), .val (.ref bR5), .val (.ref bR14), .val (.ref bR23), .unset, .unset, .unset, .unset, .unset, .unset, .unset] [(.ref bR41)] _
    refine XS.dup X41.here hx rfl (hb hby at_71) rfl rfl ?_
    refine XS.aload X41.here hx rfl (hb hby at_72) rfl rfl ?_
    refine st52.trans ?_
    refine XS.astore X52.here hx rfl (hb hby at_77) rfl rfl (l' := #[.val (.int pI1), .val (.int pI2), .val (.int pI3), .val (.int pI4), .val (.int ((pI1 &&& (2147483647 : Int32)) % (5 : Int32))), .val (.int ((pI2 &&& (3 : Int32)) % (3 : Int32))), .val (.int ((((pI2.toUInt32 >>> ((2 : Int32) &&& 31).toUInt32).toInt32) &&& (3 : Int32)) % (3 : Int32))), .val (.ref bR5), .val (.ref bR14), .val (.ref bR23), .val (.ref bR41), .unset, .unset, .unset, .unset, .unset, .unset]) rfl ?_
    show oS p e below T52 m 79 #[.val (.int pI1), .val (.int pI2), .val (.int pI3), .val (.int pI4), .val (.int ((pI1 &&& (2147483647 : Int32)) % (5 : Int32))), .val (.int ((pI2 &&& (3 : Int32)) % (3 : Int32))), .val (.int ((((pI2.toUInt32 >>> ((2 : Int32) &&& 31).toUInt32).toInt32) &&& (3 : Int32)) % (3 : Int32))), .val (.ref bR5), .val (.ref bR14), .val (.ref bR23), .val (.ref bR41), .unset, .unset, .unset, .unset, .unset, .unset] [] _
    refine XS.iload X52.here hx rfl (hb hby at_79) rfl ?_
    refine XS.iloadN X52.here hx rfl (hb hby at_81) rfl ?_
    refine st55 _ ?_
    refine XS.astore X55.here hx rfl (hb hby at_85) rfl rfl (l' := #[.val (.int pI1), .val (.int pI2), .val (.int pI3), .val (.int pI4), .val (.int ((pI1 &&& (2147483647 : Int32)) % (5 : Int32))), .val (.int ((pI2 &&& (3 : Int32)) % (3 : Int32))), .val (.int ((((pI2.toUInt32 >>> ((2 : Int32) &&& 31).toUInt32).toInt32) &&& (3 : Int32)) % (3 : Int32))), .val (.ref bR5), .val (.ref bR14), .val (.ref bR23), .val (.ref bR41), .val .null, .unset, .unset, .unset, .unset, .unset]) rfl ?_
    show oS p e below T55 m 87 #[.val (.int pI1), .val (.int pI2), .val (.int pI3), .val (.int pI4), .val (.int ((pI1 &&& (2147483647 : Int32)) % (5 : Int32))), .val (.int ((pI2 &&& (3 : Int32)) % (3 : Int32))), .val (.int ((((pI2.toUInt32 >>> ((2 : Int32) &&& 31).toUInt32).toInt32) &&& (3 : Int32)) % (3 : Int32))), .val (.ref bR5), .val (.ref bR14), .val (.ref bR23), .val (.ref bR41), .val .null, .unset, .unset, .unset, .unset, .unset] [] _
    refine XS.iload X55.here hx rfl (hb hby at_87) rfl ?_
    refine XS.iloadN X55.here hx rfl (hb hby at_89) rfl ?_
    refine XS.bipush X55.here hx rfl (hb hby at_90) ?_
    refine XS.iushr X55.here hx rfl (hb hby at_92) rfl ?_
    show oS p e below T55 m 93 #[.val (.int pI1), .val (.int pI2), .val (.int pI3), .val (.int pI4), .val (.int ((pI1 &&& (2147483647 : Int32)) % (5 : Int32))), .val (.int ((pI2 &&& (3 : Int32)) % (3 : Int32))), .val (.int ((((pI2.toUInt32 >>> ((2 : Int32) &&& 31).toUInt32).toInt32) &&& (3 : Int32)) % (3 : Int32))), .val (.ref bR5), .val (.ref bR14), .val (.ref bR23), .val (.ref bR41), .val .null, .unset, .unset, .unset, .unset, .unset] [(.int ((pI4.toUInt32 >>> ((8 : Int32) &&& 31).toUInt32).toInt32)), (.int ((((pI2.toUInt32 >>> ((2 : Int32) &&& 31).toUInt32).toInt32) &&& (3 : Int32)) % (3 : Int32)))] _
    refine st57.trans ?_
    refine XS.astore X57.here hx rfl (hb hby at_96) rfl rfl (l' := #[.val (.int pI1), .val (.int pI2), .val (.int pI3), .val (.int pI4), .val (.int ((pI1 &&& (2147483647 : Int32)) % (5 : Int32))), .val (.int ((pI2 &&& (3 : Int32)) % (3 : Int32))), .val (.int ((((pI2.toUInt32 >>> ((2 : Int32) &&& 31).toUInt32).toInt32) &&& (3 : Int32)) % (3 : Int32))), .val (.ref bR5), .val (.ref bR14), .val (.ref bR23), .val (.ref bR41), .val .null, .val (.ref bR57_0), .unset, .unset, .unset, .unset]) rfl ?_
    refine st60 _ ?_
    refine XS.dup X60.here hx rfl (hb hby at_101) rfl rfl ?_
    show oS p e below T60 m 102 #[.val (.int pI1), .val (.int pI2), .val (.int pI3), .val (.int pI4), .val (.int ((pI1 &&& (2147483647 : Int32)) % (5 : Int32))), .val (.int ((pI2 &&& (3 : Int32)) % (3 : Int32))), .val (.int ((((pI2.toUInt32 >>> ((2 : Int32) &&& 31).toUInt32).toInt32) &&& (3 : Int32)) % (3 : Int32))), .val (.ref bR5), .val (.ref bR14), .val (.ref bR23), .val (.ref bR41), .val .null, .val (.ref bR57_0), .unset, .unset, .unset, .unset] [(.ref bR60), (.ref bR60)] _
    refine XS.iload X60.here hx rfl (hb hby at_102) rfl ?_
    refine st68 _ ?_
    refine XS.aload X68.here hx rfl (hb hby at_107) rfl rfl ?_
    refine XS.aload X68.here hx rfl (hb hby at_109) rfl rfl ?_
    show oS p e below T68 m 111 #[.val (.int pI1), .val (.int pI2), .val (.int pI3), .val (.int pI4), .val (.int ((pI1 &&& (2147483647 : Int32)) % (5 : Int32))), .val (.int ((pI2 &&& (3 : Int32)) % (3 : Int32))), .val (.int ((((pI2.toUInt32 >>> ((2 : Int32) &&& 31).toUInt32).toInt32) &&& (3 : Int32)) % (3 : Int32))), .val (.ref bR5), .val (.ref bR14), .val (.ref bR23), .val (.ref bR41), .val .null, .val (.ref bR57_0), .unset, .unset, .unset, .unset] [(.ref bR41), (.ref bR23), .null, (.ref bR60), (.ref bR60)] _
    refine XS.aload X68.here hx rfl (hb hby at_111) rfl rfl ?_
    refine XS.aload X68.here hx rfl (hb hby at_113) rfl rfl ?_
    refine st70.trans ?_
    refine XS.astore X70.here hx rfl (hb hby at_118) rfl rfl (l' := #[.val (.int pI1), .val (.int pI2), .val (.int pI3), .val (.int pI4), .val (.int ((pI1 &&& (2147483647 : Int32)) % (5 : Int32))), .val (.int ((pI2 &&& (3 : Int32)) % (3 : Int32))), .val (.int ((((pI2.toUInt32 >>> ((2 : Int32) &&& 31).toUInt32).toInt32) &&& (3 : Int32)) % (3 : Int32))), .val (.ref bR5), .val (.ref bR14), .val (.ref bR23), .val (.ref bR41), .val .null, .val (.ref bR57_0), .val (.ref bR60), .unset, .unset, .unset]) rfl ?_
    show oS p e below T70 m 120 #[.val (.int pI1), .val (.int pI2), .val (.int pI3), .val (.int pI4), .val (.int ((pI1 &&& (2147483647 : Int32)) % (5 : Int32))), .val (.int ((pI2 &&& (3 : Int32)) % (3 : Int32))), .val (.int ((((pI2.toUInt32 >>> ((2 : Int32) &&& 31).toUInt32).toInt32) &&& (3 : Int32)) % (3 : Int32))), .val (.ref bR5), .val (.ref bR14), .val (.ref bR23), .val (.ref bR41), .val .null, .val (.ref bR57_0), .val (.ref bR60), .unset, .unset, .unset] [] _
    refine XS.iload X70.here hx rfl (hb hby at_120) rfl ?_
    refine XS.ifYes X70.here hx rfl (pc0 := 122) (pc' := 129) rfl (hb hby at_122) rfl ((if0 _ _).trans (teq hc82).1) (by decide) (by decide) ?_
    refine XS.iconst X70.here hx rfl (hb hby at_129) ?_
    refine XS.istore X70.here hx rfl (hb hby at_130) rfl (l' := #[.val (.int pI1), .val (.int pI2), .val (.int pI3), .val (.int pI4), .val (.int ((pI1 &&& (2147483647 : Int32)) % (5 : Int32))), .val (.int ((pI2 &&& (3 : Int32)) % (3 : Int32))), .val (.int ((((pI2.toUInt32 >>> ((2 : Int32) &&& 31).toUInt32).toInt32) &&& (3 : Int32)) % (3 : Int32))), .val (.ref bR5), .val (.ref bR14), .val (.ref bR23), .val (.ref bR41), .val .null, .val (.ref bR57_0), .val (.ref bR60), .val (.int 0), .unset, .unset]) rfl ?_
    show oS p e below T70 m 132 #[.val (.int pI1), .val (.int pI2), .val (.int pI3), .val (.int pI4), .val (.int ((pI1 &&& (2147483647 : Int32)) % (5 : Int32))), .val (.int ((pI2 &&& (3 : Int32)) % (3 : Int32))), .val (.int ((((pI2.toUInt32 >>> ((2 : Int32) &&& 31).toUInt32).toInt32) &&& (3 : Int32)) % (3 : Int32))), .val (.ref bR5), .val (.ref bR14), .val (.ref bR23), .val (.ref bR41), .val .null, .val (.ref bR57_0), .val (.ref bR60), .val (.int 0), .unset, .unset] [] _
    refine XS.iload X70.here hx rfl (hb hby at_132) rfl ?_
    refine XS.ifNo X70.here hx rfl (hb hby at_134) rfl ((if0 _ _).trans (feq hc93).1) ?_
    refine XS.iconst X70.here hx rfl (hb hby at_137) ?_
    refine XS.goto X70.here hx rfl (pc0 := 138) (pc' := 142) rfl (hb hby at_138) (by decide) (by decide) ?_
    show oS p e below T70 m 142 #[.val (.int pI1), .val (.int pI2), .val (.int pI3), .val (.int pI4), .val (.int ((pI1 &&& (2147483647 : Int32)) % (5 : Int32))), .val (.int ((pI2 &&& (3 : Int32)) % (3 : Int32))), .val (.int ((((pI2.toUInt32 >>> ((2 : Int32) &&& 31).toUInt32).toInt32) &&& (3 : Int32)) % (3 : Int32))), .val (.ref bR5), .val (.ref bR14), .val (.ref bR23), .val (.ref bR41), .val .null, .val (.ref bR57_0), .val (.ref bR60), .val (.int 0), .unset, .unset] [(.int 1)] _
    refine XS.istore X70.here hx rfl (hb hby at_142) rfl (l' := #[.val (.int pI1), .val (.int pI2), .val (.int pI3), .val (.int pI4), .val (.int ((pI1 &&& (2147483647 : Int32)) % (5 : Int32))), .val (.int ((pI2 &&& (3 : Int32)) % (3 : Int32))), .val (.int ((((pI2.toUInt32 >>> ((2 : Int32) &&& 31).toUInt32).toInt32) &&& (3 : Int32)) % (3 : Int32))), .val (.ref bR5), .val (.ref bR14), .val (.ref bR23), .val (.ref bR41), .val .null, .val (.ref bR57_0), .val (.ref bR60), .val (.int 0), .val (.int 1), .unset]) rfl ?_
    refine XS.iload X70.here hx rfl (hb hby at_144) rfl ?_
    refine XS.ifYes X70.here hx rfl (pc0 := 146) (pc' := 155) rfl (hb hby at_146) rfl ((if0 _ _).trans (teq (by decide : (0 : Int32) = (0 : Int32))).1) (by decide) (by decide) ?_
    refine XS.iload X70.here hx rfl (hb hby at_155) rfl ?_
    show oS p e below T70 m 157 #[.val (.int pI1), .val (.int pI2), .val (.int pI3), .val (.int pI4), .val (.int ((pI1 &&& (2147483647 : Int32)) % (5 : Int32))), .val (.int ((pI2 &&& (3 : Int32)) % (3 : Int32))), .val (.int ((((pI2.toUInt32 >>> ((2 : Int32) &&& 31).toUInt32).toInt32) &&& (3 : Int32)) % (3 : Int32))), .val (.ref bR5), .val (.ref bR14), .val (.ref bR23), .val (.ref bR41), .val .null, .val (.ref bR57_0), .val (.ref bR60), .val (.int 0), .val (.int 1), .unset] [(.int 1)] _
    refine XS.ifNo X70.here hx rfl (hb hby at_157) rfl ((if0 _ _).trans (feq (by decide : ¬ ((1 : Int32) = (0 : Int32)))).1) ?_
    refine XS.iconst X70.here hx rfl (hb hby at_160) ?_
    refine XS.istore X70.here hx rfl (hb hby at_161) rfl (l' := #[.val (.int pI1), .val (.int pI2), .val (.int pI3), .val (.int pI4), .val (.int ((pI1 &&& (2147483647 : Int32)) % (5 : Int32))), .val (.int ((pI2 &&& (3 : Int32)) % (3 : Int32))), .val (.int ((((pI2.toUInt32 >>> ((2 : Int32) &&& 31).toUInt32).toInt32) &&& (3 : Int32)) % (3 : Int32))), .val (.ref bR5), .val (.ref bR14), .val (.ref bR23), .val (.ref bR41), .val .null, .val (.ref bR57_0), .val (.ref bR60), .val (.int 0), .val (.int 1), .val (.int 1)]) rfl ?_
    refine XS.goto X70.here hx rfl (pc0 := 163) (pc' := 169) rfl (hb hby at_163) (by decide) (by decide) ?_
    show oS p e below T70 m 169 #[.val (.int pI1), .val (.int pI2), .val (.int pI3), .val (.int pI4), .val (.int ((pI1 &&& (2147483647 : Int32)) % (5 : Int32))), .val (.int ((pI2 &&& (3 : Int32)) % (3 : Int32))), .val (.int ((((pI2.toUInt32 >>> ((2 : Int32) &&& 31).toUInt32).toInt32) &&& (3 : Int32)) % (3 : Int32))), .val (.ref bR5), .val (.ref bR14), .val (.ref bR23), .val (.ref bR41), .val .null, .val (.ref bR57_0), .val (.ref bR60), .val (.int 0), .val (.int 1), .val (.int 1)] [] _
    refine XS.aload X70.here hx rfl (hb hby at_169) rfl rfl ?_
    refine st73.trans ?_
    refine XS.iload X73.here hx rfl (hb hby at_174) rfl ?_
    refine XS.icmpNo X73.here hx rfl (hb hby at_176) rfl (teq (by decide : (1 : Int32) = (1 : Int32))).2 ?_
    show oS p e below T73 m 179 #[.val (.int pI1), .val (.int pI2), .val (.int pI3), .val (.int pI4), .val (.int ((pI1 &&& (2147483647 : Int32)) % (5 : Int32))), .val (.int ((pI2 &&& (3 : Int32)) % (3 : Int32))), .val (.int ((((pI2.toUInt32 >>> ((2 : Int32) &&& 31).toUInt32).toInt32) &&& (3 : Int32)) % (3 : Int32))), .val (.ref bR5), .val (.ref bR14), .val (.ref bR23), .val (.ref bR41), .val .null, .val (.ref bR57_0), .val (.ref bR60), .val (.int 0), .val (.int 1), .val (.int 1)] [] _
    refine XS.iconst X73.here hx rfl (hb hby at_179) ?_
    refine XS.goto X73.here hx rfl (pc0 := 180) (pc' := 184) rfl (hb hby at_180) (by decide) (by decide) ?_
    exact retN X73 hx (t := .boolean) Bd.returns (by simp) (hb hby at_184) hr
  · show QlawNNR Z pI1 pI2 pI3 pI4 pI31 h0 n0 _ T73.heap _
    rw [e73]
    exact ⟨rfl, N73⟩
theorem ef_lawNRN (m : MethodId) (pI1 : Int32) (pI2 : Int32) (pI3 : Int32) (pI4 : Int32) : entryFrame m #[(.int pI1), (.int pI2), (.int pI3), (.int pI4)] maxLocals = mkF m 0 #[.val (.int pI1), .val (.int pI2), .val (.int pI3), .val (.int pI4), .unset, .unset, .unset, .unset, .unset, .unset, .unset, .unset, .unset, .unset, .unset, .unset, .unset] [] := by first | (simp [entryFrame, mkF, argsToLocals, Value.category, maxLocals]; done) | rfl
def QlawNRN (Z : State) (pI1 : Int32) (pI2 : Int32) (pI3 : Int32) (pI4 : Int32) (pI31 : Int32) (h0 : Heap) (n0 : Nat) (v : Option Value) (h : Heap) (L : List Loc) : Prop := v = some (.int 1) ∧ Fr n0 L
set_option maxRecDepth 65536 in
set_option maxHeartbeats 40000000 in
theorem lawNRN (l : Launch) (Z : State) (a0 : Array Value) (hw : ∀ d ∈ tables_1, d.before a0 Z = true) (ws : List Jvm.Cond) (pI1 : Int32) (pI2 : Int32) (pI3 : Int32) (pI4 : Int32) (pI31 : Int32) (h0 : Heap) (n0 : Nat) (Z0 : n0 ≤ h0.size) (S_String_COMPACT_STRINGS : Sta Z h0 "java/lang/String" "COMPACT_STRINGS" "Z" (.int pI31)) (hc63 : ¬ (pI31 = (0 : Int32))) (hc82 : ¬ (((pI2 &&& (3 : Int32)) % (3 : Int32)) = (0 : Int32))) (hc93 : ((((pI2.toUInt32 >>> ((2 : Int32) &&& 31).toUInt32).toInt32) &&& (3 : Int32)) % (3 : Int32)) = (0 : Int32)) (hc104 : ((pI1 &&& (2147483647 : Int32)) % (5 : Int32)) = (0 : Int32)) :
    oMW l x code maxLocals ret ws room_1 #[(.int pI1), (.int pI2), (.int pI3), (.int pI4)] Z h0 (QlawNRN Z pI1 pI2 pI3 pI4 pI31 h0 n0) := by
  refine MetFree.of_bodySF (plainFor_of_name pn_2) hisR ?_
  intro p e s m args below meth c s₁ Bd hml0 hP hK
  obtain ⟨rfl, hZ, hh⟩ := hP
  have hx := Bd.exec
  have hby := Bd.bytes
  have hml : c.maxLocals = 17 := hml0
  have hown : s.vm.findClass "com/example/pergamena/pergamena/build/QuantityHasRangePinLaw" = some m.cls := findClass_of_methodNamed Bd.named
  have hnm := (name_of_methodNamed Bd.named Bd.method).1
  have X0 : Stand p l e room_1 s m #[(.int pI1), (.int pI2), (.int pI3), (.int pI4)] below meth c s₁ [] 0 0 := Stand.of_body Bd
  have e0 : s₁.heap = h0 := by rw [← hh, Bd.state]; rfl
  have N0 := Fr.nil n0
  have X0 : Stand p l e room_1 (s.setVm s.vm) m #[(.int pI1), (.int pI2), (.int pI3), (.int pI4)] below meth c s₁ [] 0 0 := X0
  have hS0 : s.Since s.vm 0 := (State.WarmedH.refl s).since 0
  have hk0 : 0 ≤ h0.size := Nat.zero_le _
  have hZ : Z.Warmed39 (s.setVm s.vm).vm := hZ
  have hown : (s.setVm s.vm).vm.findClass "com/example/pergamena/pergamena/build/QuantityHasRangePinLaw" = some m.cls := hown
  obtain ⟨T5, h5, k5, X5, e5, E5, A5, st5⟩ := newP X0 hx hZ (ow hw 1 rfl) e0 (g := (mkF m 25 #[.val (.int pI1), .val (.int pI2), .val (.int pI3), .val (.int pI4), .val (.int ((pI1 &&& (2147483647 : Int32)) % (5 : Int32))), .val (.int ((pI2 &&& (3 : Int32)) % (3 : Int32))), .val (.int ((((pI2.toUInt32 >>> ((2 : Int32) &&& 31).toUInt32).toInt32) &&& (3 : Int32)) % (3 : Int32))), .unset, .unset, .unset, .unset, .unset, .unset, .unset, .unset, .unset, .unset] [(.int 1)])) rfl (hb hby at_25) rfl (by decide) (cap := 1) (by decide) (by decide) (by decide) (by decide)
  obtain ⟨bR5, g5⟩ : ∃ z, z = h0.size := ⟨_, rfl⟩
  rw [← g5] at A5 st5
  have Z7 : n0 ≤ h5.size := (Nat.le_trans Z0 E5.1)
  have V5 : Arv Z h5 bR5 k5 .char (1 : Int32) [(.int 0)] (.int (0 : Int32)) := (Arv.new A5 (by decide)).pad (pad_rep [] (.int (0 : Int32)) 1)
  have g8 : n0 ≤ bR5 := Nat.le_trans Z0 (Nat.le_of_eq g5.symm)
  obtain ⟨clq9, Arq9, Akq9, Asq9, Anq9, Ahq9, Agq9⟩ := id V5
  have hin10 : ¬ ((0 : Int32) < 0 ∨ clq9.slots.size ≤ ((0 : Int32)).toNatClampNeg) := inb_of Asq9 ⟨by decide, by decide⟩
  obtain ⟨T11, h11, X11, e11, W11, st11⟩ := stC X5 hx hZ e5 Arq9 (j := (0 : Int32)) hin10 (g := (mkF m 38 #[.val (.int pI1), .val (.int pI2), .val (.int pI3), .val (.int pI4), .val (.int ((pI1 &&& (2147483647 : Int32)) % (5 : Int32))), .val (.int ((pI2 &&& (3 : Int32)) % (3 : Int32))), .val (.int ((((pI2.toUInt32 >>> ((2 : Int32) &&& 31).toUInt32).toInt32) &&& (3 : Int32)) % (3 : Int32))), .val (.ref bR5), .unset, .unset, .unset, .unset, .unset, .unset, .unset, .unset, .unset] [(.int ((pI3 &&& (255 : Int32)).toUInt32.toUInt16.toUInt32.toInt32)), (.int 0), (.ref bR5)])) rfl rfl (hb hby at_38)
  rw [own_narc (own_c255 _)] at W11
  have Z13 : n0 ≤ h11.size := (Nat.le_trans Z7 (Keep.of_wr W11).1)
  have N11 := Fr.snoc X11 N0 g8
  obtain ⟨Lh11, X11, N11⟩ := own_hide X11 N11
  have V11 : Arv Z h11 bR5 k5 .char (1 : Int32) [(.int ((pI3 &&& (255 : Int32)).toUInt32.toUInt16.toUInt32.toInt32))] (.int (0 : Int32)) := Arv.set Arq9 Akq9 Asq9 Anq9 Ahq9 Agq9 (own_fitc (own_c255 _)) W11 0 rfl (Nat.le_of_ble_eq_true rfl)
  obtain ⟨T14, h14, k14, X14, e14, E14, A14, st14⟩ := newP X11 hx hZ (ow hw 1 rfl) e11 (g := (mkF m 40 #[.val (.int pI1), .val (.int pI2), .val (.int pI3), .val (.int pI4), .val (.int ((pI1 &&& (2147483647 : Int32)) % (5 : Int32))), .val (.int ((pI2 &&& (3 : Int32)) % (3 : Int32))), .val (.int ((((pI2.toUInt32 >>> ((2 : Int32) &&& 31).toUInt32).toInt32) &&& (3 : Int32)) % (3 : Int32))), .val (.ref bR5), .unset, .unset, .unset, .unset, .unset, .unset, .unset, .unset, .unset] [(.int 1)])) rfl (hb hby at_40) rfl (by decide) (cap := 1) (by decide) (by decide) (by decide) (by decide)
  obtain ⟨bR14, g14⟩ : ∃ z, z = h11.size := ⟨_, rfl⟩
  rw [← g14] at A14 st14
  have Z16 : n0 ≤ h14.size := (Nat.le_trans Z13 E14.1)
  have V14 : Arv Z h14 bR14 k14 .char (1 : Int32) [(.int 0)] (.int (0 : Int32)) := (Arv.new A14 (by decide)).pad (pad_rep [] (.int (0 : Int32)) 1)
  have g17 : n0 ≤ bR14 := Nat.le_trans Z13 (Nat.le_of_eq g14.symm)
  obtain ⟨clq18, Arq18, Akq18, Asq18, Anq18, Ahq18, Agq18⟩ := id V14
  have hin19 : ¬ ((0 : Int32) < 0 ∨ clq18.slots.size ≤ ((0 : Int32)).toNatClampNeg) := inb_of Asq18 ⟨by decide, by decide⟩
  obtain ⟨T20, h20, X20, e20, W20, st20⟩ := stC X14 hx hZ e14 Arq18 (j := (0 : Int32)) hin19 (g := (mkF m 56 #[.val (.int pI1), .val (.int pI2), .val (.int pI3), .val (.int pI4), .val (.int ((pI1 &&& (2147483647 : Int32)) % (5 : Int32))), .val (.int ((pI2 &&& (3 : Int32)) % (3 : Int32))), .val (.int ((((pI2.toUInt32 >>> ((2 : Int32) &&& 31).toUInt32).toInt32) &&& (3 : Int32)) % (3 : Int32))), .val (.ref bR5), .val (.ref bR14), .unset, .unset, .unset, .unset, .unset, .unset, .unset, .unset] [(.int ((((pI3.toUInt32 >>> ((8 : Int32) &&& 31).toUInt32).toInt32) &&& (255 : Int32)).toUInt32.toUInt16.toUInt32.toInt32)), (.int 0), (.ref bR14)])) rfl rfl (hb hby at_56)
  rw [own_narc (own_c255 _)] at W20
  have Z22 : n0 ≤ h20.size := (Nat.le_trans Z16 (Keep.of_wr W20).1)
  have N20 := Fr.snoc X20 N11 g17
  obtain ⟨Lh20, X20, N20⟩ := own_hide X20 N20
  have V20 : Arv Z h20 bR14 k14 .char (1 : Int32) [(.int ((((pI3.toUInt32 >>> ((8 : Int32) &&& 31).toUInt32).toInt32) &&& (255 : Int32)).toUInt32.toUInt16.toUInt32.toInt32))] (.int (0 : Int32)) := Arv.set Arq18 Akq18 Asq18 Anq18 Ahq18 Agq18 (own_fitc (own_c255 _)) W20 0 rfl (Nat.le_of_ble_eq_true rfl)
  obtain ⟨T23, h23, X23, e23, E23, A23, D23, U23, st23⟩ := newO X20 hx hZ hown (ow hw 2 rfl) (ow hw 3 rfl) (ow hw 4 rfl) e20 (g := (mkF m 57 #[.val (.int pI1), .val (.int pI2), .val (.int pI3), .val (.int pI4), .val (.int ((pI1 &&& (2147483647 : Int32)) % (5 : Int32))), .val (.int ((pI2 &&& (3 : Int32)) % (3 : Int32))), .val (.int ((((pI2.toUInt32 >>> ((2 : Int32) &&& 31).toUInt32).toInt32) &&& (3 : Int32)) % (3 : Int32))), .val (.ref bR5), .val (.ref bR14), .unset, .unset, .unset, .unset, .unset, .unset, .unset, .unset] [])) rfl (hb hby at_57) (by decide) (by decide)
  obtain ⟨bR23, g23⟩ : ∃ z, z = h20.size := ⟨_, rfl⟩
  rw [← g23] at A23 D23 U23 st23
  have Z25 : n0 ≤ h23.size := (Nat.le_trans Z22 E23.1)
  have F26 : Fld Z h23 bR23 "java/lang/String" "coder" "B" (.int 0) := D23 (Or.inr (ow hw 28 rfl)) (ty := .byte) (by decide)
  have F27 : Fld Z h23 bR23 "java/lang/String" "value" "[B" .null := D23 (Or.inr (ow hw 30 rfl)) (ty := (.array .byte)) (by decide)
  have c28 : Arv Z h14 bR5 k5 .char (1 : Int32) [(.int ((pI3 &&& (255 : Int32)).toUInt32.toUInt16.toUInt32.toInt32))] (.int (0 : Int32)) := V11.ext E14
  have c29 : Arv Z h20 bR5 k5 .char (1 : Int32) [(.int ((pI3 &&& (255 : Int32)).toUInt32.toUInt16.toUInt32.toInt32))] (.int (0 : Int32)) := c28.other W20 (Nat.ne_of_lt (Nat.lt_of_lt_of_le V11.lt (Nat.le_of_eq g14.symm)))
  have c30 : Arv Z h23 bR5 k5 .char (1 : Int32) [(.int ((pI3 &&& (255 : Int32)).toUInt32.toUInt16.toUInt32.toInt32))] (.int (0 : Int32)) := c29.ext E23
  have c32 : Sta Z h5 "java/lang/String" "COMPACT_STRINGS" "Z" (.int pI31) := S_String_COMPACT_STRINGS.ext E5
  have c33 : Sta Z h11 "java/lang/String" "COMPACT_STRINGS" "Z" (.int pI31) := c32.wr W11
  have c34 : Sta Z h14 "java/lang/String" "COMPACT_STRINGS" "Z" (.int pI31) := c33.ext E14
  have c35 : Sta Z h20 "java/lang/String" "COMPACT_STRINGS" "Z" (.int pI31) := c34.wr W20
  have c36 : Sta Z h23 "java/lang/String" "COMPACT_STRINGS" "Z" (.int pI31) := c35.ext E23
  have g37 : n0 ≤ bR23 := Nat.le_trans Z22 (Nat.le_of_eq g23.symm)
  obtain ⟨_, _, ⟨T38, L38, k38, n38⟩, -, X38, ⟨Lc38, hQ38, l38, y38, z38⟩, st38⟩ := X23.specialBack hx (y := yN4) rfl hown (mvT hZ (ow hw 5 rfl)) (mvT hZ (ow hw 6 rfl)) (mvT hZ (ow hw 7 rfl)) (by decide) (backOf (W := 1) (str l Z a0 hw [] bR23 bR5 ((pI3 &&& (255 : Int32)).toUInt32.toUInt16.toUInt32.toInt32) k5 pI31 h23 n0 Z25 c30 c36 A23 F26 g37 F27 hc63 (own_l255 _ : ¬ ((255 : Int32) < ((pI3 &&& (255 : Int32)).toUInt32.toUInt16.toUInt32.toInt32)))) hZ (ow hw 7 rfl) (ow hw 4 rfl) (by decide) (by decide)) (g := (mkF m 63 #[.val (.int pI1), .val (.int pI2), .val (.int pI3), .val (.int pI4), .val (.int ((pI1 &&& (2147483647 : Int32)) % (5 : Int32))), .val (.int ((pI2 &&& (3 : Int32)) % (3 : Int32))), .val (.int ((((pI2.toUInt32 >>> ((2 : Int32) &&& 31).toUInt32).toInt32) &&& (3 : Int32)) % (3 : Int32))), .val (.ref bR5), .val (.ref bR14), .unset, .unset, .unset, .unset, .unset, .unset, .unset, .unset] [(.ref bR5), (.ref bR23), (.ref bR23)])) rfl (by rw [hml]; rfl) (Steps.refl _) (a := bR23) (argsL := [(.ref bR5)]) (rest := [(.ref bR23)]) (lenOf pd_4 rfl) rfl (Nat.le_refl _) (hb hby at_63) (fun _ _ => ⟨rfl, e23, (by decide : 3 + 1 ≤ _), (by decide : 6 + 1 ≤ _)⟩)
  dsimp only [Pt.U, Pt.locs, Pt.cells, Pt.slots] at X38 l38 y38 z38 st38 hQ38
  subst l38 y38 z38
  obtain ⟨bR38_0, kK38_0, rfl, Nq38, Kq38, sz38_0, x38_0, x38_1, x38_2, x38_3⟩ := hQ38
  have N38 := Fr.app N20 Nq38
  obtain ⟨Lh38, X38, N38⟩ := own_hide X38 N38
  have Z40 : n0 ≤ T38.heap.size := (Nat.le_trans Z25 Kq38.1)
  obtain ⟨T41, h41, X41, e41, E41, A41, D41, U41, st41⟩ := newO X38 hx hZ hown (ow hw 2 rfl) (ow hw 3 rfl) (ow hw 4 rfl) rfl (g := (mkF m 68 #[.val (.int pI1), .val (.int pI2), .val (.int pI3), .val (.int pI4), .val (.int ((pI1 &&& (2147483647 : Int32)) % (5 : Int32))), .val (.int ((pI2 &&& (3 : Int32)) % (3 : Int32))), .val (.int ((((pI2.toUInt32 >>> ((2 : Int32) &&& 31).toUInt32).toInt32) &&& (3 : Int32)) % (3 : Int32))), .val (.ref bR5), .val (.ref bR14), .val (.ref bR23), .unset, .unset, .unset, .unset, .unset, .unset, .unset] [])) rfl (hb hby at_68) (by decide) (by decide)
  obtain ⟨bR41, g41⟩ : ∃ z, z = T38.heap.size := ⟨_, rfl⟩
  rw [← g41] at A41 D41 U41 st41
  have Z43 : n0 ≤ h41.size := (Nat.le_trans Z40 E41.1)
  have F44 : Fld Z h41 bR41 "java/lang/String" "coder" "B" (.int 0) := D41 (Or.inr (ow hw 28 rfl)) (ty := .byte) (by decide)
  have F45 : Fld Z h41 bR41 "java/lang/String" "value" "[B" .null := D41 (Or.inr (ow hw 30 rfl)) (ty := (.array .byte)) (by decide)
  have c46 : Arv Z h23 bR14 k14 .char (1 : Int32) [(.int ((((pI3.toUInt32 >>> ((8 : Int32) &&& 31).toUInt32).toInt32) &&& (255 : Int32)).toUInt32.toUInt16.toUInt32.toInt32))] (.int (0 : Int32)) := V20.ext E23
  have c47 : Arv Z T38.heap bR14 k14 .char (1 : Int32) [(.int ((((pI3.toUInt32 >>> ((8 : Int32) &&& 31).toUInt32).toInt32) &&& (255 : Int32)).toUInt32.toUInt16.toUInt32.toInt32))] (.int (0 : Int32)) := c46.keep Kq38 (ninS (Nat.ne_of_lt (Nat.lt_of_lt_of_le V20.lt (Nat.le_of_eq g23.symm))) nin0)
  have c48 : Arv Z h41 bR14 k14 .char (1 : Int32) [(.int ((((pI3.toUInt32 >>> ((8 : Int32) &&& 31).toUInt32).toInt32) &&& (255 : Int32)).toUInt32.toUInt16.toUInt32.toInt32))] (.int (0 : Int32)) := c47.ext E41
  have c49 : Sta Z T38.heap "java/lang/String" "COMPACT_STRINGS" "Z" (.int pI31) := own_sta_keep c36 Kq38 (allS (own_plain_E A23) all0)
  have c50 : Sta Z h41 "java/lang/String" "COMPACT_STRINGS" "Z" (.int pI31) := c49.ext E41
  have g51 : n0 ≤ bR41 := Nat.le_trans Z40 (Nat.le_of_eq g41.symm)
  obtain ⟨_, _, ⟨T52, L52, k52, n52⟩, -, X52, ⟨Lc52, hQ52, l52, y52, z52⟩, st52⟩ := X41.specialBack hx (y := yN4) rfl hown (mvT hZ (ow hw 5 rfl)) (mvT hZ (ow hw 6 rfl)) (mvT hZ (ow hw 7 rfl)) (by decide) (backOf (W := 1) (str l Z a0 hw [] bR41 bR14 ((((pI3.toUInt32 >>> ((8 : Int32) &&& 31).toUInt32).toInt32) &&& (255 : Int32)).toUInt32.toUInt16.toUInt32.toInt32) k14 pI31 h41 n0 Z43 c48 c50 A41 F44 g51 F45 hc63 (own_l255 _ : ¬ ((255 : Int32) < ((((pI3.toUInt32 >>> ((8 : Int32) &&& 31).toUInt32).toInt32) &&& (255 : Int32)).toUInt32.toUInt16.toUInt32.toInt32)))) hZ (ow hw 7 rfl) (ow hw 4 rfl) (by decide) (by decide)) (g := (mkF m 74 #[.val (.int pI1), .val (.int pI2), .val (.int pI3), .val (.int pI4), .val (.int ((pI1 &&& (2147483647 : Int32)) % (5 : Int32))), .val (.int ((pI2 &&& (3 : Int32)) % (3 : Int32))), .val (.int ((((pI2.toUInt32 >>> ((2 : Int32) &&& 31).toUInt32).toInt32) &&& (3 : Int32)) % (3 : Int32))), .val (.ref bR5), .val (.ref bR14), .val (.ref bR23), .unset, .unset, .unset, .unset, .unset, .unset, .unset] [(.ref bR14), (.ref bR41), (.ref bR41)])) rfl (by rw [hml]; rfl) (Steps.refl _) (a := bR41) (argsL := [(.ref bR14)]) (rest := [(.ref bR41)]) (lenOf pd_4 rfl) rfl (Nat.le_refl _) (hb hby at_74) (fun _ _ => ⟨rfl, e41, (by decide : 5 + 1 ≤ _), (by decide : 11 + 1 ≤ _)⟩)
  dsimp only [Pt.U, Pt.locs, Pt.cells, Pt.slots] at X52 l52 y52 z52 st52 hQ52
  subst l52 y52 z52
  obtain ⟨bR52_0, kK52_0, rfl, Nq52, Kq52, sz52_0, x52_0, x52_1, x52_2, x52_3⟩ := hQ52
  have N52 := Fr.app N38 Nq52
  obtain ⟨Lh52, X52, N52⟩ := own_hide X52 N52
  have Z54 : n0 ≤ T52.heap.size := (Nat.le_trans Z43 Kq52.1)
  have c55 : Sta Z T52.heap "java/lang/String" "COMPACT_STRINGS" "Z" (.int pI31) := own_sta_keep c50 Kq52 (allS (own_plain_E A41) all0)
  obtain ⟨_, _, ⟨T56, L56, k56, n56⟩, -, X56, hs256, hg256, ⟨Lc56, hQ56, l56, y56, z56⟩, st56⟩ := callSS X52 hx (y := yN5) hown (mvT hZ (ow hw 31 rfl)) (mvT hZ (ow hw 32 rfl)) (mvT hZ (ow hw 33 rfl)) (mvT hZ (ow hw 34 rfl)) (by decide) (backOfS (s := s.setVm s.vm) (W := 0) (endR l Z a0 hw [] ((pI2 &&& (3 : Int32)) % (3 : Int32)) pI4 pI31 T52.heap n0 Z54 c55 hc82 hc63) hZ (ow hw 34 rfl) (ow hw 33 rfl) (by decide) (by decide)) (g := (mkF m 82 #[.val (.int pI1), .val (.int pI2), .val (.int pI3), .val (.int pI4), .val (.int ((pI1 &&& (2147483647 : Int32)) % (5 : Int32))), .val (.int ((pI2 &&& (3 : Int32)) % (3 : Int32))), .val (.int ((((pI2.toUInt32 >>> ((2 : Int32) &&& 31).toUInt32).toInt32) &&& (3 : Int32)) % (3 : Int32))), .val (.ref bR5), .val (.ref bR14), .val (.ref bR23), .val (.ref bR41), .unset, .unset, .unset, .unset, .unset, .unset] [(.int pI4), (.int ((pI2 &&& (3 : Int32)) % (3 : Int32)))])) rfl (by rw [hml]; rfl) (argsL := [(.int ((pI2 &&& (3 : Int32)) % (3 : Int32))), (.int pI4)]) (rest := []) (lenOf pd_6 rfl) rfl (Nat.le_refl _) (hb hby at_82) (fun _ _ => ⟨rfl, rfl, (by decide : 6 + 3 ≤ _), (by decide : 12 + 6 ≤ _)⟩)
  dsimp only [Pt.U, Pt.locs, Pt.cells, Pt.slots] at X56 l56 y56 z56 st56 hQ56 hs256 hg256
  subst l56 y56 z56
  have X56 := own_refold X56
  have hS56 := foldS hS0 (Nat.le_trans (Nat.le_trans (Nat.le_trans (Nat.le_trans (Nat.le_trans (Nat.le_trans (Nat.le_trans (Nat.le_trans hk0 E5.1) (Keep.of_wr W11).1) E14.1) (Keep.of_wr W20).1) E23.1) Kq38.1) E41.1) Kq52.1) hs256 hg256
  have hk56 : T56.heap.size ≤ T56.heap.size := Nat.le_refl _
  have hZ56 : Z.Warmed39 (s.setVm T56.vm).vm := State.Warmed39.trans (t := s.setVm s.vm) hZ hs256.1
  have ho56 : (s.setVm T56.vm).vm.findClass "com/example/pergamena/pergamena/build/QuantityHasRangePinLaw" = some m.cls := by rw [show (s.setVm T56.vm).vm = T56.vm from rfl, hs256.1.alike.findClass]; exact hown
  obtain ⟨bR56_0, rfl, Nq56, Kq56⟩ := hQ56
  have N56 := Fr.app N52 Nq56
  obtain ⟨Lh56, X56, N56⟩ := own_hide X56 N56
  have Z58 : n0 ≤ T56.heap.size := (Nat.le_trans Z54 Kq56.1)
  obtain ⟨_, _, ⟨T59, L59, k59, n59⟩, -, X59, ⟨Lc59, hQ59, l59, y59, z59⟩, st59⟩ := Jvm.LawKit.callS X56 hx (y := yN5) ho56 (mvT hZ56 (ow hw 31 rfl)) (mvT hZ56 (ow hw 32 rfl)) (mvT hZ56 (ow hw 33 rfl)) (mvT hZ56 (ow hw 34 rfl)) (by decide) (backOf (W := 0) (endN l Z a0 hw [] ((((pI2.toUInt32 >>> ((2 : Int32) &&& 31).toUInt32).toInt32) &&& (3 : Int32)) % (3 : Int32)) ((pI4.toUInt32 >>> ((8 : Int32) &&& 31).toUInt32).toInt32) T56.heap n0 Z58 hc93) hZ56 (ow hw 34 rfl) (ow hw 33 rfl) (by decide) (by decide)) (g := (mkF m 93 #[.val (.int pI1), .val (.int pI2), .val (.int pI3), .val (.int pI4), .val (.int ((pI1 &&& (2147483647 : Int32)) % (5 : Int32))), .val (.int ((pI2 &&& (3 : Int32)) % (3 : Int32))), .val (.int ((((pI2.toUInt32 >>> ((2 : Int32) &&& 31).toUInt32).toInt32) &&& (3 : Int32)) % (3 : Int32))), .val (.ref bR5), .val (.ref bR14), .val (.ref bR23), .val (.ref bR41), .val (.ref bR56_0), .unset, .unset, .unset, .unset, .unset] [(.int ((pI4.toUInt32 >>> ((8 : Int32) &&& 31).toUInt32).toInt32)), (.int ((((pI2.toUInt32 >>> ((2 : Int32) &&& 31).toUInt32).toInt32) &&& (3 : Int32)) % (3 : Int32)))])) rfl (by rw [hml]; rfl) (argsL := [(.int ((((pI2.toUInt32 >>> ((2 : Int32) &&& 31).toUInt32).toInt32) &&& (3 : Int32)) % (3 : Int32))), (.int ((pI4.toUInt32 >>> ((8 : Int32) &&& 31).toUInt32).toInt32))]) (rest := []) (lenOf pd_6 rfl) rfl (Nat.le_refl _) (hb hby at_93) (fun _ _ => ⟨rfl, rfl, (by decide : 9 + 0 ≤ _), (by decide : 18 + 0 ≤ _)⟩)
  dsimp only [Pt.U, Pt.locs, Pt.cells, Pt.slots] at X59 l59 y59 z59 st59 hQ59
  subst l59 y59 z59
  obtain ⟨rfl, Nq59, e59⟩ := hQ59
  have N59 := Fr.app N56 Nq59
  obtain ⟨T60, h60, X60, e60, E60, A60, D60, U60, st60⟩ := newO X59 hx hZ56 ho56 (ow hw 35 rfl) (ow hw 36 rfl) (ow hw 37 rfl) e59 (g := (mkF m 98 #[.val (.int pI1), .val (.int pI2), .val (.int pI3), .val (.int pI4), .val (.int ((pI1 &&& (2147483647 : Int32)) % (5 : Int32))), .val (.int ((pI2 &&& (3 : Int32)) % (3 : Int32))), .val (.int ((((pI2.toUInt32 >>> ((2 : Int32) &&& 31).toUInt32).toInt32) &&& (3 : Int32)) % (3 : Int32))), .val (.ref bR5), .val (.ref bR14), .val (.ref bR23), .val (.ref bR41), .val (.ref bR56_0), .val .null, .unset, .unset, .unset, .unset] [])) rfl (hb hby at_98) (by decide) (by decide)
  obtain ⟨bR60, g60⟩ : ∃ z, z = T56.heap.size := ⟨_, rfl⟩
  rw [← g60] at A60 D60 U60 st60
  have Z62 : n0 ≤ h60.size := (Nat.le_trans Z58 E60.1)
  have F63 : Fld Z h60 bR60 "com/example/pergamena/pergamena/build/LabResults$Quantity" "comparator" "Lcom/example/pergamena/pergamena/build/LabResults$Comparator;" .null := D60 (Or.inr (ow hw 51 rfl)) (ty := (.object "com/example/pergamena/pergamena/build/LabResults$Comparator")) (by decide)
  have F64 : Fld Z h60 bR60 "com/example/pergamena/pergamena/build/LabResults$Quantity" "number" "Ljava/lang/String;" .null := D60 (Or.inr (ow hw 53 rfl)) (ty := (.object "java/lang/String")) (by decide)
  have F65 : Fld Z h60 bR60 "com/example/pergamena/pergamena/build/LabResults$Quantity" "unit" "Ljava/lang/String;" .null := D60 (Or.inr (ow hw 55 rfl)) (ty := (.object "java/lang/String")) (by decide)
  have F66 : Fld Z h60 bR60 "com/example/pergamena/pergamena/build/LabResults$Quantity" "low" "Ljava/lang/String;" .null := D60 (Or.inr (ow hw 57 rfl)) (ty := (.object "java/lang/String")) (by decide)
  have F67 : Fld Z h60 bR60 "com/example/pergamena/pergamena/build/LabResults$Quantity" "high" "Ljava/lang/String;" .null := D60 (Or.inr (ow hw 59 rfl)) (ty := (.object "java/lang/String")) (by decide)
  obtain ⟨_, _, ⟨T68, L68, k68, n68⟩, -, X68, ⟨Lc68, hQ68, l68, y68, z68⟩, st68⟩ := Jvm.LawKit.callS X60 hx (y := yN6) ho56 (mvT hZ56 (ow hw 38 rfl)) (mvT hZ56 (ow hw 39 rfl)) (mvT hZ56 (ow hw 33 rfl)) (mvT hZ56 (ow hw 40 rfl)) (by decide) (backOf (W := 2) (comN l Z a0 hw [] ((pI1 &&& (2147483647 : Int32)) % (5 : Int32)) h60 n0 Z62 hc104) hZ56 (ow hw 40 rfl) (ow hw 33 rfl) (by decide) (by decide)) (g := (mkF m 104 #[.val (.int pI1), .val (.int pI2), .val (.int pI3), .val (.int pI4), .val (.int ((pI1 &&& (2147483647 : Int32)) % (5 : Int32))), .val (.int ((pI2 &&& (3 : Int32)) % (3 : Int32))), .val (.int ((((pI2.toUInt32 >>> ((2 : Int32) &&& 31).toUInt32).toInt32) &&& (3 : Int32)) % (3 : Int32))), .val (.ref bR5), .val (.ref bR14), .val (.ref bR23), .val (.ref bR41), .val (.ref bR56_0), .val .null, .unset, .unset, .unset, .unset] [(.int ((pI1 &&& (2147483647 : Int32)) % (5 : Int32))), (.ref bR60), (.ref bR60)])) rfl (by rw [hml]; rfl) (argsL := [(.int ((pI1 &&& (2147483647 : Int32)) % (5 : Int32)))]) (rest := [(.ref bR60), (.ref bR60)]) (lenOf pd_7 rfl) rfl (Nat.le_refl _) (hb hby at_104) (fun _ _ => ⟨rfl, e60, (by decide : 10 + 0 ≤ _), (by decide : 23 + 0 ≤ _)⟩)
  dsimp only [Pt.U, Pt.locs, Pt.cells, Pt.slots] at X68 l68 y68 z68 st68 hQ68
  subst l68 y68 z68
  obtain ⟨rfl, Nq68, e68⟩ := hQ68
  have N68 := Fr.app N59 Nq68
  have g69 : n0 ≤ bR60 := Nat.le_trans Z58 (Nat.le_of_eq g60.symm)
  obtain ⟨_, _, ⟨T70, L70, k70, n70⟩, -, X70, ⟨Lc70, hQ70, l70, y70, z70⟩, st70⟩ := X68.specialBack hx (y := yN8) rfl ho56 (mvT hZ56 (ow hw 41 rfl)) (mvT hZ56 (ow hw 42 rfl)) (mvT hZ56 (ow hw 43 rfl)) (by decide) (backOf (W := 1) (qNRN l Z a0 hw [] bR60 bR23 bR41 bR56_0 h60 n0 Z62 A60 F63 g69 F64 F65 F66 F67) hZ56 (ow hw 43 rfl) (ow hw 37 rfl) (by decide) (by decide)) (g := (mkF m 115 #[.val (.int pI1), .val (.int pI2), .val (.int pI3), .val (.int pI4), .val (.int ((pI1 &&& (2147483647 : Int32)) % (5 : Int32))), .val (.int ((pI2 &&& (3 : Int32)) % (3 : Int32))), .val (.int ((((pI2.toUInt32 >>> ((2 : Int32) &&& 31).toUInt32).toInt32) &&& (3 : Int32)) % (3 : Int32))), .val (.ref bR5), .val (.ref bR14), .val (.ref bR23), .val (.ref bR41), .val (.ref bR56_0), .val .null, .unset, .unset, .unset, .unset] [.null, (.ref bR56_0), (.ref bR41), (.ref bR23), .null, (.ref bR60), (.ref bR60)])) rfl (by rw [hml]; rfl) (Steps.refl _) (a := bR60) (argsL := [.null, (.ref bR23), (.ref bR41), (.ref bR56_0), .null]) (rest := [(.ref bR60)]) (lenOf pd_8 rfl) rfl (Nat.le_refl _) (hb hby at_115) (fun _ _ => ⟨rfl, e68, (by decide : 10 + 0 ≤ _), (by decide : 23 + 0 ≤ _)⟩)
  dsimp only [Pt.U, Pt.locs, Pt.cells, Pt.slots] at X70 l70 y70 z70 st70 hQ70
  subst l70 y70 z70
  obtain ⟨rfl, Nq70, Kq70, x70_0, x70_1, x70_2, x70_3, x70_4, x70_5⟩ := hQ70
  have N70 := Fr.app N68 Nq70
  obtain ⟨Lh70, X70, N70⟩ := own_hide X70 N70
  have Z72 : n0 ≤ T70.heap.size := (Nat.le_trans Z62 Kq70.1)
  obtain ⟨cq73, kq73, q73a, q73b, q73c⟩ := isOf hZ56 rfl x70_0
  obtain ⟨_, _, ⟨T73, L73, k73, n73⟩, -, X73, ⟨Lc73, hQ73, l73, y73, z73⟩, st73⟩ := X70.virtualBack hx (y := yN9) (z := yN9) ho56 (mvT hZ56 (ow hw 60 rfl)) (mvT hZ56 (ow hw 61 rfl)) (notFace_of_selects (args := #[]) (mvT hZ56 (ow hw 63 rfl))) (mvT hZ56 (ow hw 63 rfl)) (mvT hZ56 (ow hw 62 rfl)) (by decide) (backOf (W := 0) (hrR l Z a0 hw [] bR60 bR56_0 T70.heap n0 Z72 x70_4) hZ56 (ow hw 64 rfl) (ow hw 37 rfl) (by decide) (by decide)) q73a q73c (g := (mkF m 171 #[.val (.int pI1), .val (.int pI2), .val (.int pI3), .val (.int pI4), .val (.int ((pI1 &&& (2147483647 : Int32)) % (5 : Int32))), .val (.int ((pI2 &&& (3 : Int32)) % (3 : Int32))), .val (.int ((((pI2.toUInt32 >>> ((2 : Int32) &&& 31).toUInt32).toInt32) &&& (3 : Int32)) % (3 : Int32))), .val (.ref bR5), .val (.ref bR14), .val (.ref bR23), .val (.ref bR41), .val (.ref bR56_0), .val .null, .val (.ref bR60), .val (.int 1), .val (.int 0), .val (.int 1)] [(.ref bR60)])) rfl (by rw [hml]; rfl) (Steps.refl _) (argsL := []) (rest := []) (lenOf pd_9 rfl) rfl (Nat.le_refl _) (hb hby at_171) (fun _ _ => ⟨rfl, rfl, (by decide : 10 + 0 ≤ _), (by decide : 23 + 0 ≤ _)⟩)
  dsimp only [Pt.U, Pt.locs, Pt.cells, Pt.slots] at X73 l73 y73 z73 st73 hQ73
  subst l73 y73 z73
  obtain ⟨rfl, Nq73, e73⟩ := hQ73
  have N73 := Fr.app N70 Nq73
  obtain ⟨fs, hr, hrun, hended, hE⟩ := X73.leaveW hS56 (by rw [e73]; exact (Nat.le_trans (Nat.le_trans hk56 E60.1) Kq70.1)) (v := some (.int 1)) (fun h => by rw [Bd.returns] at h; cases h)
  refine ⟨_, _, castTop (ef_lawNRN m pI1 pI2 pI3 pI4) ?_, hrun, hended, _, _, rfl, ?_, hE.1, hE.2.1, hE.2.2.1, hE.2.2.2.mono (by decide) (by decide)⟩
  · show oS p e below s₁ m 0 #[.val (.int pI1), .val (.int pI2), .val (.int pI3), .val (.int pI4), .unset, .unset, .unset, .unset, .unset, .unset, .unset, .unset, .unset, .unset, .unset, .unset, .unset] [] _
    refine XS.iloadN X0.here hx rfl (hb hby at_0) rfl ?_
    refine X0.ldcInt hx hown (mvT hZ (ow hw 0 rfl)) (g := (mkF m 1 #[.val (.int pI1), .val (.int pI2), .val (.int pI3), .val (.int pI4), .unset, .unset, .unset, .unset, .unset, .unset, .unset, .unset, .unset, .unset, .unset, .unset, .unset] [(.int pI1)])) rfl (hb hby at_1) _ ?_
    refine XS.iand X0.here hx rfl (hb hby at_3) rfl ?_
    refine XS.iconst X0.here hx rfl (hb hby at_4) ?_
    show Steps p.tables e below (s₁.setTop (mkF m 5 #[.val (.int pI1), .val (.int pI2), .val (.int pI3), .val (.int pI4), .unset, .unset, .unset, .unset, .unset, .unset, .unset, .unset, .unset, .unset, .unset, .unset, .unset] [(.int 5), (.int (pI1 &&& (2147483647 : Int32)))])) _
    refine iremM (g := (mkF m 5 #[.val (.int pI1), .val (.int pI2), .val (.int pI3), .val (.int pI4), .unset, .unset, .unset, .unset, .unset, .unset, .unset, .unset, .unset, .unset, .unset, .unset, .unset] [(.int 5), (.int (pI1 &&& (2147483647 : Int32)))])) X0 hx rfl (hb hby at_5) rfl (by decide) ?_
    refine XS.istore X0.here hx rfl (hb hby at_6) rfl (l' := #[.val (.int pI1), .val (.int pI2), .val (.int pI3), .val (.int pI4), .val (.int ((pI1 &&& (2147483647 : Int32)) % (5 : Int32))), .unset, .unset, .unset, .unset, .unset, .unset, .unset, .unset, .unset, .unset, .unset, .unset]) rfl ?_
    refine XS.iloadN X0.here hx rfl (hb hby at_8) rfl ?_
    refine XS.iconst X0.here hx rfl (hb hby at_9) ?_
    show oS p e below s₁ m 10 #[.val (.int pI1), .val (.int pI2), .val (.int pI3), .val (.int pI4), .val (.int ((pI1 &&& (2147483647 : Int32)) % (5 : Int32))), .unset, .unset, .unset, .unset, .unset, .unset, .unset, .unset, .unset, .unset, .unset, .unset] [(.int 3), (.int pI2)] _
    refine XS.iand X0.here hx rfl (hb hby at_10) rfl ?_
    refine XS.iconst X0.here hx rfl (hb hby at_11) ?_
    show Steps p.tables e below (s₁.setTop (mkF m 12 #[.val (.int pI1), .val (.int pI2), .val (.int pI3), .val (.int pI4), .val (.int ((pI1 &&& (2147483647 : Int32)) % (5 : Int32))), .unset, .unset, .unset, .unset, .unset, .unset, .unset, .unset, .unset, .unset, .unset, .unset] [(.int 3), (.int (pI2 &&& (3 : Int32)))])) _
    refine iremM (g := (mkF m 12 #[.val (.int pI1), .val (.int pI2), .val (.int pI3), .val (.int pI4), .val (.int ((pI1 &&& (2147483647 : Int32)) % (5 : Int32))), .unset, .unset, .unset, .unset, .unset, .unset, .unset, .unset, .unset, .unset, .unset, .unset] [(.int 3), (.int (pI2 &&& (3 : Int32)))])) X0 hx rfl (hb hby at_12) rfl (by decide) ?_
    refine XS.istore X0.here hx rfl (hb hby at_13) rfl (l' := #[.val (.int pI1), .val (.int pI2), .val (.int pI3), .val (.int pI4), .val (.int ((pI1 &&& (2147483647 : Int32)) % (5 : Int32))), .val (.int ((pI2 &&& (3 : Int32)) % (3 : Int32))), .unset, .unset, .unset, .unset, .unset, .unset, .unset, .unset, .unset, .unset, .unset]) rfl ?_
    show oS p e below s₁ m 15 #[.val (.int pI1), .val (.int pI2), .val (.int pI3), .val (.int pI4), .val (.int ((pI1 &&& (2147483647 : Int32)) % (5 : Int32))), .val (.int ((pI2 &&& (3 : Int32)) % (3 : Int32))), .unset, .unset, .unset, .unset, .unset, .unset, .unset, .unset, .unset, .unset, .unset] [] _
    refine XS.iloadN X0.here hx rfl (hb hby at_15) rfl ?_
    refine XS.iconst X0.here hx rfl (hb hby at_16) ?_
    refine XS.iushr X0.here hx rfl (hb hby at_17) rfl ?_
    refine XS.iconst X0.here hx rfl (hb hby at_18) ?_
    show oS p e below s₁ m 19 #[.val (.int pI1), .val (.int pI2), .val (.int pI3), .val (.int pI4), .val (.int ((pI1 &&& (2147483647 : Int32)) % (5 : Int32))), .val (.int ((pI2 &&& (3 : Int32)) % (3 : Int32))), .unset, .unset, .unset, .unset, .unset, .unset, .unset, .unset, .unset, .unset, .unset] [(.int 3), (.int ((pI2.toUInt32 >>> ((2 : Int32) &&& 31).toUInt32).toInt32))] _
    refine XS.iand X0.here hx rfl (hb hby at_19) rfl ?_
    refine XS.iconst X0.here hx rfl (hb hby at_20) ?_
    show Steps p.tables e below (s₁.setTop (mkF m 21 #[.val (.int pI1), .val (.int pI2), .val (.int pI3), .val (.int pI4), .val (.int ((pI1 &&& (2147483647 : Int32)) % (5 : Int32))), .val (.int ((pI2 &&& (3 : Int32)) % (3 : Int32))), .unset, .unset, .unset, .unset, .unset, .unset, .unset, .unset, .unset, .unset, .unset] [(.int 3), (.int (((pI2.toUInt32 >>> ((2 : Int32) &&& 31).toUInt32).toInt32) &&& (3 : Int32)))])) _
    refine iremM (g := (mkF m 21 #[.val (.int pI1), .val (.int pI2), .val (.int pI3), .val (.int pI4), .val (.int ((pI1 &&& (2147483647 : Int32)) % (5 : Int32))), .val (.int ((pI2 &&& (3 : Int32)) % (3 : Int32))), .unset, .unset, .unset, .unset, .unset, .unset, .unset, .unset, .unset, .unset, .unset] [(.int 3), (.int (((pI2.toUInt32 >>> ((2 : Int32) &&& 31).toUInt32).toInt32) &&& (3 : Int32)))])) X0 hx rfl (hb hby at_21) rfl (by decide) ?_
    refine XS.istore X0.here hx rfl (hb hby at_22) rfl (l' := #[.val (.int pI1), .val (.int pI2), .val (.int pI3), .val (.int pI4), .val (.int ((pI1 &&& (2147483647 : Int32)) % (5 : Int32))), .val (.int ((pI2 &&& (3 : Int32)) % (3 : Int32))), .val (.int ((((pI2.toUInt32 >>> ((2 : Int32) &&& 31).toUInt32).toInt32) &&& (3 : Int32)) % (3 : Int32))), .unset, .unset, .unset, .unset, .unset, .unset, .unset, .unset, .unset, .unset]) rfl ?_
    show oS p e below s₁ m 24 #[.val (.int pI1), .val (.int pI2), .val (.int pI3), .val (.int pI4), .val (.int ((pI1 &&& (2147483647 : Int32)) % (5 : Int32))), .val (.int ((pI2 &&& (3 : Int32)) % (3 : Int32))), .val (.int ((((pI2.toUInt32 >>> ((2 : Int32) &&& 31).toUInt32).toInt32) &&& (3 : Int32)) % (3 : Int32))), .unset, .unset, .unset, .unset, .unset, .unset, .unset, .unset, .unset, .unset] [] _
    refine XS.iconst X0.here hx rfl (hb hby at_24) ?_
    refine st5 _ ?_
    refine XS.astore X5.here hx rfl (hb hby at_27) rfl rfl (l' := #[.val (.int pI1), .val (.int pI2), .val (.int pI3), .val (.int pI4), .val (.int ((pI1 &&& (2147483647 : Int32)) % (5 : Int32))), .val (.int ((pI2 &&& (3 : Int32)) % (3 : Int32))), .val (.int ((((pI2.toUInt32 >>> ((2 : Int32) &&& 31).toUInt32).toInt32) &&& (3 : Int32)) % (3 : Int32))), .val (.ref bR5), .unset, .unset, .unset, .unset, .unset, .unset, .unset, .unset, .unset]) rfl ?_
    refine XS.aload X5.here hx rfl (hb hby at_29) rfl rfl ?_
    show oS p e below T5 m 31 #[.val (.int pI1), .val (.int pI2), .val (.int pI3), .val (.int pI4), .val (.int ((pI1 &&& (2147483647 : Int32)) % (5 : Int32))), .val (.int ((pI2 &&& (3 : Int32)) % (3 : Int32))), .val (.int ((((pI2.toUInt32 >>> ((2 : Int32) &&& 31).toUInt32).toInt32) &&& (3 : Int32)) % (3 : Int32))), .val (.ref bR5), .unset, .unset, .unset, .unset, .unset, .unset, .unset, .unset, .unset] [(.ref bR5)] _
    refine XS.iconst X5.here hx rfl (hb hby at_31) ?_
    refine XS.iloadN X5.here hx rfl (hb hby at_32) rfl ?_
    refine XS.sipush X5.here hx rfl (hb hby at_33) ?_
    refine XS.iand X5.here hx rfl (hb hby at_36) rfl ?_
    show oS p e below T5 m 37 #[.val (.int pI1), .val (.int pI2), .val (.int pI3), .val (.int pI4), .val (.int ((pI1 &&& (2147483647 : Int32)) % (5 : Int32))), .val (.int ((pI2 &&& (3 : Int32)) % (3 : Int32))), .val (.int ((((pI2.toUInt32 >>> ((2 : Int32) &&& 31).toUInt32).toInt32) &&& (3 : Int32)) % (3 : Int32))), .val (.ref bR5), .unset, .unset, .unset, .unset, .unset, .unset, .unset, .unset, .unset] [(.int (pI3 &&& (255 : Int32))), (.int 0), (.ref bR5)] _
    refine XS.i2c X5.here hx rfl (hb hby at_37) rfl ?_
    refine st11 _ ?_
    refine XS.iconst X11.here hx rfl (hb hby at_39) ?_
    refine st14 _ ?_
    show oS p e below T14 m 42 #[.val (.int pI1), .val (.int pI2), .val (.int pI3), .val (.int pI4), .val (.int ((pI1 &&& (2147483647 : Int32)) % (5 : Int32))), .val (.int ((pI2 &&& (3 : Int32)) % (3 : Int32))), .val (.int ((((pI2.toUInt32 >>> ((2 : Int32) &&& 31).toUInt32).toInt32) &&& (3 : Int32)) % (3 : Int32))), .val (.ref bR5), .unset, .unset, .unset, .unset, .unset, .unset, .unset, .unset, .unset] [(.ref bR14)] _
    refine XS.astore X14.here hx rfl (hb hby at_42) rfl rfl (l' := #[.val (.int pI1), .val (.int pI2), .val (.int pI3), .val (.int pI4), .val (.int ((pI1 &&& (2147483647 : Int32)) % (5 : Int32))), .val (.int ((pI2 &&& (3 : Int32)) % (3 : Int32))), .val (.int ((((pI2.toUInt32 >>> ((2 : Int32) &&& 31).toUInt32).toInt32) &&& (3 : Int32)) % (3 : Int32))), .val (.ref bR5), .val (.ref bR14), .unset, .unset, .unset, .unset, .unset, .unset, .unset, .unset]) rfl ?_
    refine XS.aload X14.here hx rfl (hb hby at_44) rfl rfl ?_
    refine XS.iconst X14.here hx rfl (hb hby at_46) ?_
    refine XS.iloadN X14.here hx rfl (hb hby at_47) rfl ?_
    show oS p e below T14 m 48 #[.val (.int pI1), .val (.int pI2), .val (.int pI3), .val (.int pI4), .val (.int ((pI1 &&& (2147483647 : Int32)) % (5 : Int32))), .val (.int ((pI2 &&& (3 : Int32)) % (3 : Int32))), .val (.int ((((pI2.toUInt32 >>> ((2 : Int32) &&& 31).toUInt32).toInt32) &&& (3 : Int32)) % (3 : Int32))), .val (.ref bR5), .val (.ref bR14), .unset, .unset, .unset, .unset, .unset, .unset, .unset, .unset] [(.int pI3), (.int 0), (.ref bR14)] _
    refine XS.bipush X14.here hx rfl (hb hby at_48) ?_
    refine XS.iushr X14.here hx rfl (hb hby at_50) rfl ?_
    refine XS.sipush X14.here hx rfl (hb hby at_51) ?_
    refine XS.iand X14.here hx rfl (hb hby at_54) rfl ?_
    show oS p e below T14 m 55 #[.val (.int pI1), .val (.int pI2), .val (.int pI3), .val (.int pI4), .val (.int ((pI1 &&& (2147483647 : Int32)) % (5 : Int32))), .val (.int ((pI2 &&& (3 : Int32)) % (3 : Int32))), .val (.int ((((pI2.toUInt32 >>> ((2 : Int32) &&& 31).toUInt32).toInt32) &&& (3 : Int32)) % (3 : Int32))), .val (.ref bR5), .val (.ref bR14), .unset, .unset, .unset, .unset, .unset, .unset, .unset, .unset] [(.int (((pI3.toUInt32 >>> ((8 : Int32) &&& 31).toUInt32).toInt32) &&& (255 : Int32))), (.int 0), (.ref bR14)] _
    refine XS.i2c X14.here hx rfl (hb hby at_55) rfl ?_
    refine st20 _ ?_
    refine st23 _ ?_
    refine XS.dup X23.here hx rfl (hb hby at_60) rfl rfl ?_
    show oS p e below T23 m 61 #[.val (.int pI1), .val (.int pI2), .val (.int pI3), .val (.int pI4), .val (.int ((pI1 &&& (2147483647 : Int32)) % (5 : Int32))), .val (.int ((pI2 &&& (3 : Int32)) % (3 : Int32))), .val (.int ((((pI2.toUInt32 >>> ((2 : Int32) &&& 31).toUInt32).toInt32) &&& (3 : Int32)) % (3 : Int32))), .val (.ref bR5), .val (.ref bR14), .unset, .unset, .unset, .unset, .unset, .unset, .unset, .unset] [(.ref bR23), (.ref bR23)] _
    refine XS.aload X23.here hx rfl (hb hby at_61) rfl rfl ?_
    refine st38.trans ?_
    refine XS.astore X38.here hx rfl (hb hby at_66) rfl rfl (l' := #[.val (.int pI1), .val (.int pI2), .val (.int pI3), .val (.int pI4), .val (.int ((pI1 &&& (2147483647 : Int32)) % (5 : Int32))), .val (.int ((pI2 &&& (3 : Int32)) % (3 : Int32))), .val (.int ((((pI2.toUInt32 >>> ((2 : Int32) &&& 31).toUInt32).toInt32) &&& (3 : Int32)) % (3 : Int32))), .val (.ref bR5), .val (.ref bR14), .val (.ref bR23), .unset, .unset, .unset, .unset, .unset, .unset, .unset]) rfl ?_
    refine st41 _ ?_
    show oS p e below T41 m 71 #[.val (.int pI1), .val (.int pI2), .val (.int pI3), .val (.int pI4), .val (.int ((pI1 &&& (2147483647 : Int32)) % (5 : Int32))), .val (.int ((pI2 &&& (3 : Int32)) % (3 : Int32))), .val (.int ((((pI2.toUInt32 >>> ((2 : Int32) &&& 31).toUInt32).toInt32) &&& (3 : Int32)) % (3 : Int32))), .val (.ref bR5), .val (.ref bR14), .val (.ref bR23), .unset, .unset, .unset, .unset, .unset, .unset, .unset] [(.ref bR41)] _
    refine XS.dup X41.here hx rfl (hb hby at_71) rfl rfl ?_
    refine XS.aload X41.here hx rfl (hb hby at_72) rfl rfl ?_
    refine st52.trans ?_
    refine XS.astore X52.here hx rfl (hb hby at_77) rfl rfl (l' := #[.val (.int pI1), .val (.int pI2), .val (.int pI3), .val (.int pI4), .val (.int ((pI1 &&& (2147483647 : Int32)) % (5 : Int32))), .val (.int ((pI2 &&& (3 : Int32)) % (3 : Int32))), .val (.int ((((pI2.toUInt32 >>> ((2 : Int32) &&& 31).toUInt32).toInt32) &&& (3 : Int32)) % (3 : Int32))), .val (.ref bR5), .val (.ref bR14), .val (.ref bR23), .val (.ref bR41), .unset, .unset, .unset, .unset, .unset, .unset]) rfl ?_
    show oS p e below T52 m 79 #[.val (.int pI1), .val (.int pI2), .val (.int pI3), .val (.int pI4), .val (.int ((pI1 &&& (2147483647 : Int32)) % (5 : Int32))), .val (.int ((pI2 &&& (3 : Int32)) % (3 : Int32))), .val (.int ((((pI2.toUInt32 >>> ((2 : Int32) &&& 31).toUInt32).toInt32) &&& (3 : Int32)) % (3 : Int32))), .val (.ref bR5), .val (.ref bR14), .val (.ref bR23), .val (.ref bR41), .unset, .unset, .unset, .unset, .unset, .unset] [] _
    refine XS.iload X52.here hx rfl (hb hby at_79) rfl ?_
    refine XS.iloadN X52.here hx rfl (hb hby at_81) rfl ?_
    refine st56.trans ?_
    refine XS.astore X56.here hx rfl (hb hby at_85) rfl rfl (l' := #[.val (.int pI1), .val (.int pI2), .val (.int pI3), .val (.int pI4), .val (.int ((pI1 &&& (2147483647 : Int32)) % (5 : Int32))), .val (.int ((pI2 &&& (3 : Int32)) % (3 : Int32))), .val (.int ((((pI2.toUInt32 >>> ((2 : Int32) &&& 31).toUInt32).toInt32) &&& (3 : Int32)) % (3 : Int32))), .val (.ref bR5), .val (.ref bR14), .val (.ref bR23), .val (.ref bR41), .val (.ref bR56_0), .unset, .unset, .unset, .unset, .unset]) rfl ?_
    show oS p e below T56 m 87 #[.val (.int pI1), .val (.int pI2), .val (.int pI3), .val (.int pI4), .val (.int ((pI1 &&& (2147483647 : Int32)) % (5 : Int32))), .val (.int ((pI2 &&& (3 : Int32)) % (3 : Int32))), .val (.int ((((pI2.toUInt32 >>> ((2 : Int32) &&& 31).toUInt32).toInt32) &&& (3 : Int32)) % (3 : Int32))), .val (.ref bR5), .val (.ref bR14), .val (.ref bR23), .val (.ref bR41), .val (.ref bR56_0), .unset, .unset, .unset, .unset, .unset] [] _
    refine XS.iload X56.here hx rfl (hb hby at_87) rfl ?_
    refine XS.iloadN X56.here hx rfl (hb hby at_89) rfl ?_
    refine XS.bipush X56.here hx rfl (hb hby at_90) ?_
    refine XS.iushr X56.here hx rfl (hb hby at_92) rfl ?_
    show oS p e below T56 m 93 #[.val (.int pI1), .val (.int pI2), .val (.int pI3), .val (.int pI4), .val (.int ((pI1 &&& (2147483647 : Int32)) % (5 : Int32))), .val (.int ((pI2 &&& (3 : Int32)) % (3 : Int32))), .val (.int ((((pI2.toUInt32 >>> ((2 : Int32) &&& 31).toUInt32).toInt32) &&& (3 : Int32)) % (3 : Int32))), .val (.ref bR5), .val (.ref bR14), .val (.ref bR23), .val (.ref bR41), .val (.ref bR56_0), .unset, .unset, .unset, .unset, .unset] [(.int ((pI4.toUInt32 >>> ((8 : Int32) &&& 31).toUInt32).toInt32)), (.int ((((pI2.toUInt32 >>> ((2 : Int32) &&& 31).toUInt32).toInt32) &&& (3 : Int32)) % (3 : Int32)))] _
    refine st59 _ ?_
    refine XS.astore X59.here hx rfl (hb hby at_96) rfl rfl (l' := #[.val (.int pI1), .val (.int pI2), .val (.int pI3), .val (.int pI4), .val (.int ((pI1 &&& (2147483647 : Int32)) % (5 : Int32))), .val (.int ((pI2 &&& (3 : Int32)) % (3 : Int32))), .val (.int ((((pI2.toUInt32 >>> ((2 : Int32) &&& 31).toUInt32).toInt32) &&& (3 : Int32)) % (3 : Int32))), .val (.ref bR5), .val (.ref bR14), .val (.ref bR23), .val (.ref bR41), .val (.ref bR56_0), .val .null, .unset, .unset, .unset, .unset]) rfl ?_
    refine st60 _ ?_
    refine XS.dup X60.here hx rfl (hb hby at_101) rfl rfl ?_
    show oS p e below T60 m 102 #[.val (.int pI1), .val (.int pI2), .val (.int pI3), .val (.int pI4), .val (.int ((pI1 &&& (2147483647 : Int32)) % (5 : Int32))), .val (.int ((pI2 &&& (3 : Int32)) % (3 : Int32))), .val (.int ((((pI2.toUInt32 >>> ((2 : Int32) &&& 31).toUInt32).toInt32) &&& (3 : Int32)) % (3 : Int32))), .val (.ref bR5), .val (.ref bR14), .val (.ref bR23), .val (.ref bR41), .val (.ref bR56_0), .val .null, .unset, .unset, .unset, .unset] [(.ref bR60), (.ref bR60)] _
    refine XS.iload X60.here hx rfl (hb hby at_102) rfl ?_
    refine st68 _ ?_
    refine XS.aload X68.here hx rfl (hb hby at_107) rfl rfl ?_
    refine XS.aload X68.here hx rfl (hb hby at_109) rfl rfl ?_
    show oS p e below T68 m 111 #[.val (.int pI1), .val (.int pI2), .val (.int pI3), .val (.int pI4), .val (.int ((pI1 &&& (2147483647 : Int32)) % (5 : Int32))), .val (.int ((pI2 &&& (3 : Int32)) % (3 : Int32))), .val (.int ((((pI2.toUInt32 >>> ((2 : Int32) &&& 31).toUInt32).toInt32) &&& (3 : Int32)) % (3 : Int32))), .val (.ref bR5), .val (.ref bR14), .val (.ref bR23), .val (.ref bR41), .val (.ref bR56_0), .val .null, .unset, .unset, .unset, .unset] [(.ref bR41), (.ref bR23), .null, (.ref bR60), (.ref bR60)] _
    refine XS.aload X68.here hx rfl (hb hby at_111) rfl rfl ?_
    refine XS.aload X68.here hx rfl (hb hby at_113) rfl rfl ?_
    refine st70.trans ?_
    refine XS.astore X70.here hx rfl (hb hby at_118) rfl rfl (l' := #[.val (.int pI1), .val (.int pI2), .val (.int pI3), .val (.int pI4), .val (.int ((pI1 &&& (2147483647 : Int32)) % (5 : Int32))), .val (.int ((pI2 &&& (3 : Int32)) % (3 : Int32))), .val (.int ((((pI2.toUInt32 >>> ((2 : Int32) &&& 31).toUInt32).toInt32) &&& (3 : Int32)) % (3 : Int32))), .val (.ref bR5), .val (.ref bR14), .val (.ref bR23), .val (.ref bR41), .val (.ref bR56_0), .val .null, .val (.ref bR60), .unset, .unset, .unset]) rfl ?_
    show oS p e below T70 m 120 #[.val (.int pI1), .val (.int pI2), .val (.int pI3), .val (.int pI4), .val (.int ((pI1 &&& (2147483647 : Int32)) % (5 : Int32))), .val (.int ((pI2 &&& (3 : Int32)) % (3 : Int32))), .val (.int ((((pI2.toUInt32 >>> ((2 : Int32) &&& 31).toUInt32).toInt32) &&& (3 : Int32)) % (3 : Int32))), .val (.ref bR5), .val (.ref bR14), .val (.ref bR23), .val (.ref bR41), .val (.ref bR56_0), .val .null, .val (.ref bR60), .unset, .unset, .unset] [] _
    refine XS.iload X70.here hx rfl (hb hby at_120) rfl ?_
    refine XS.ifNo X70.here hx rfl (hb hby at_122) rfl ((if0 _ _).trans (feq hc82).1) ?_
    refine XS.iconst X70.here hx rfl (hb hby at_125) ?_
    refine XS.goto X70.here hx rfl (pc0 := 126) (pc' := 130) rfl (hb hby at_126) (by decide) (by decide) ?_
    show oS p e below T70 m 130 #[.val (.int pI1), .val (.int pI2), .val (.int pI3), .val (.int pI4), .val (.int ((pI1 &&& (2147483647 : Int32)) % (5 : Int32))), .val (.int ((pI2 &&& (3 : Int32)) % (3 : Int32))), .val (.int ((((pI2.toUInt32 >>> ((2 : Int32) &&& 31).toUInt32).toInt32) &&& (3 : Int32)) % (3 : Int32))), .val (.ref bR5), .val (.ref bR14), .val (.ref bR23), .val (.ref bR41), .val (.ref bR56_0), .val .null, .val (.ref bR60), .unset, .unset, .unset] [(.int 1)] _
    refine XS.istore X70.here hx rfl (hb hby at_130) rfl (l' := #[.val (.int pI1), .val (.int pI2), .val (.int pI3), .val (.int pI4), .val (.int ((pI1 &&& (2147483647 : Int32)) % (5 : Int32))), .val (.int ((pI2 &&& (3 : Int32)) % (3 : Int32))), .val (.int ((((pI2.toUInt32 >>> ((2 : Int32) &&& 31).toUInt32).toInt32) &&& (3 : Int32)) % (3 : Int32))), .val (.ref bR5), .val (.ref bR14), .val (.ref bR23), .val (.ref bR41), .val (.ref bR56_0), .val .null, .val (.ref bR60), .val (.int 1), .unset, .unset]) rfl ?_
    refine XS.iload X70.here hx rfl (hb hby at_132) rfl ?_
    refine XS.ifYes X70.here hx rfl (pc0 := 134) (pc' := 141) rfl (hb hby at_134) rfl ((if0 _ _).trans (teq hc93).1) (by decide) (by decide) ?_
    refine XS.iconst X70.here hx rfl (hb hby at_141) ?_
    show oS p e below T70 m 142 #[.val (.int pI1), .val (.int pI2), .val (.int pI3), .val (.int pI4), .val (.int ((pI1 &&& (2147483647 : Int32)) % (5 : Int32))), .val (.int ((pI2 &&& (3 : Int32)) % (3 : Int32))), .val (.int ((((pI2.toUInt32 >>> ((2 : Int32) &&& 31).toUInt32).toInt32) &&& (3 : Int32)) % (3 : Int32))), .val (.ref bR5), .val (.ref bR14), .val (.ref bR23), .val (.ref bR41), .val (.ref bR56_0), .val .null, .val (.ref bR60), .val (.int 1), .unset, .unset] [(.int 0)] _
    refine XS.istore X70.here hx rfl (hb hby at_142) rfl (l' := #[.val (.int pI1), .val (.int pI2), .val (.int pI3), .val (.int pI4), .val (.int ((pI1 &&& (2147483647 : Int32)) % (5 : Int32))), .val (.int ((pI2 &&& (3 : Int32)) % (3 : Int32))), .val (.int ((((pI2.toUInt32 >>> ((2 : Int32) &&& 31).toUInt32).toInt32) &&& (3 : Int32)) % (3 : Int32))), .val (.ref bR5), .val (.ref bR14), .val (.ref bR23), .val (.ref bR41), .val (.ref bR56_0), .val .null, .val (.ref bR60), .val (.int 1), .val (.int 0), .unset]) rfl ?_
    refine XS.iload X70.here hx rfl (hb hby at_144) rfl ?_
    refine XS.ifNo X70.here hx rfl (hb hby at_146) rfl ((if0 _ _).trans (feq (by decide : ¬ ((1 : Int32) = (0 : Int32)))).1) ?_
    refine XS.iconst X70.here hx rfl (hb hby at_149) ?_
    show oS p e below T70 m 150 #[.val (.int pI1), .val (.int pI2), .val (.int pI3), .val (.int pI4), .val (.int ((pI1 &&& (2147483647 : Int32)) % (5 : Int32))), .val (.int ((pI2 &&& (3 : Int32)) % (3 : Int32))), .val (.int ((((pI2.toUInt32 >>> ((2 : Int32) &&& 31).toUInt32).toInt32) &&& (3 : Int32)) % (3 : Int32))), .val (.ref bR5), .val (.ref bR14), .val (.ref bR23), .val (.ref bR41), .val (.ref bR56_0), .val .null, .val (.ref bR60), .val (.int 1), .val (.int 0), .unset] [(.int 1)] _
    refine XS.istore X70.here hx rfl (hb hby at_150) rfl (l' := #[.val (.int pI1), .val (.int pI2), .val (.int pI3), .val (.int pI4), .val (.int ((pI1 &&& (2147483647 : Int32)) % (5 : Int32))), .val (.int ((pI2 &&& (3 : Int32)) % (3 : Int32))), .val (.int ((((pI2.toUInt32 >>> ((2 : Int32) &&& 31).toUInt32).toInt32) &&& (3 : Int32)) % (3 : Int32))), .val (.ref bR5), .val (.ref bR14), .val (.ref bR23), .val (.ref bR41), .val (.ref bR56_0), .val .null, .val (.ref bR60), .val (.int 1), .val (.int 0), .val (.int 1)]) rfl ?_
    refine XS.goto X70.here hx rfl (pc0 := 152) (pc' := 169) rfl (hb hby at_152) (by decide) (by decide) ?_
    refine XS.aload X70.here hx rfl (hb hby at_169) rfl rfl ?_
    refine st73.trans ?_
    show oS p e below T73 m 174 #[.val (.int pI1), .val (.int pI2), .val (.int pI3), .val (.int pI4), .val (.int ((pI1 &&& (2147483647 : Int32)) % (5 : Int32))), .val (.int ((pI2 &&& (3 : Int32)) % (3 : Int32))), .val (.int ((((pI2.toUInt32 >>> ((2 : Int32) &&& 31).toUInt32).toInt32) &&& (3 : Int32)) % (3 : Int32))), .val (.ref bR5), .val (.ref bR14), .val (.ref bR23), .val (.ref bR41), .val (.ref bR56_0), .val .null, .val (.ref bR60), .val (.int 1), .val (.int 0), .val (.int 1)] [(.int 1)] _
    refine XS.iload X73.here hx rfl (hb hby at_174) rfl ?_
    refine XS.icmpNo X73.here hx rfl (hb hby at_176) rfl (teq (by decide : (1 : Int32) = (1 : Int32))).2 ?_
    refine XS.iconst X73.here hx rfl (hb hby at_179) ?_
    refine XS.goto X73.here hx rfl (pc0 := 180) (pc' := 184) rfl (hb hby at_180) (by decide) (by decide) ?_
    show oS p e below T73 m 184 #[.val (.int pI1), .val (.int pI2), .val (.int pI3), .val (.int pI4), .val (.int ((pI1 &&& (2147483647 : Int32)) % (5 : Int32))), .val (.int ((pI2 &&& (3 : Int32)) % (3 : Int32))), .val (.int ((((pI2.toUInt32 >>> ((2 : Int32) &&& 31).toUInt32).toInt32) &&& (3 : Int32)) % (3 : Int32))), .val (.ref bR5), .val (.ref bR14), .val (.ref bR23), .val (.ref bR41), .val (.ref bR56_0), .val .null, .val (.ref bR60), .val (.int 1), .val (.int 0), .val (.int 1)] [(.int 1)] _
    exact retN X73 hx (t := .boolean) Bd.returns (by simp) (hb hby at_184) hr
  · show QlawNRN Z pI1 pI2 pI3 pI4 pI31 h0 n0 _ T73.heap _
    rw [e73]
    exact ⟨rfl, N73⟩
theorem ef_lawNRR (m : MethodId) (pI1 : Int32) (pI2 : Int32) (pI3 : Int32) (pI4 : Int32) : entryFrame m #[(.int pI1), (.int pI2), (.int pI3), (.int pI4)] maxLocals = mkF m 0 #[.val (.int pI1), .val (.int pI2), .val (.int pI3), .val (.int pI4), .unset, .unset, .unset, .unset, .unset, .unset, .unset, .unset, .unset, .unset, .unset, .unset, .unset] [] := by first | (simp [entryFrame, mkF, argsToLocals, Value.category, maxLocals]; done) | rfl
def QlawNRR (Z : State) (pI1 : Int32) (pI2 : Int32) (pI3 : Int32) (pI4 : Int32) (pI31 : Int32) (h0 : Heap) (n0 : Nat) (v : Option Value) (h : Heap) (L : List Loc) : Prop := v = some (.int 1) ∧ Fr n0 L
set_option maxRecDepth 65536 in
set_option maxHeartbeats 40000000 in
theorem lawNRR (l : Launch) (Z : State) (a0 : Array Value) (hw : ∀ d ∈ tables_1, d.before a0 Z = true) (ws : List Jvm.Cond) (pI1 : Int32) (pI2 : Int32) (pI3 : Int32) (pI4 : Int32) (pI31 : Int32) (h0 : Heap) (n0 : Nat) (Z0 : n0 ≤ h0.size) (S_String_COMPACT_STRINGS : Sta Z h0 "java/lang/String" "COMPACT_STRINGS" "Z" (.int pI31)) (hc63 : ¬ (pI31 = (0 : Int32))) (hc82 : ¬ (((pI2 &&& (3 : Int32)) % (3 : Int32)) = (0 : Int32))) (hc93 : ¬ (((((pI2.toUInt32 >>> ((2 : Int32) &&& 31).toUInt32).toInt32) &&& (3 : Int32)) % (3 : Int32)) = (0 : Int32))) (hc104 : ((pI1 &&& (2147483647 : Int32)) % (5 : Int32)) = (0 : Int32)) :
    oMW l x code maxLocals ret ws room_1 #[(.int pI1), (.int pI2), (.int pI3), (.int pI4)] Z h0 (QlawNRR Z pI1 pI2 pI3 pI4 pI31 h0 n0) := by
  refine MetFree.of_bodySF (plainFor_of_name pn_2) hisR ?_
  intro p e s m args below meth c s₁ Bd hml0 hP hK
  obtain ⟨rfl, hZ, hh⟩ := hP
  have hx := Bd.exec
  have hby := Bd.bytes
  have hml : c.maxLocals = 17 := hml0
  have hown : s.vm.findClass "com/example/pergamena/pergamena/build/QuantityHasRangePinLaw" = some m.cls := findClass_of_methodNamed Bd.named
  have hnm := (name_of_methodNamed Bd.named Bd.method).1
  have X0 : Stand p l e room_1 s m #[(.int pI1), (.int pI2), (.int pI3), (.int pI4)] below meth c s₁ [] 0 0 := Stand.of_body Bd
  have e0 : s₁.heap = h0 := by rw [← hh, Bd.state]; rfl
  have N0 := Fr.nil n0
  have X0 : Stand p l e room_1 (s.setVm s.vm) m #[(.int pI1), (.int pI2), (.int pI3), (.int pI4)] below meth c s₁ [] 0 0 := X0
  have hS0 : s.Since s.vm 0 := (State.WarmedH.refl s).since 0
  have hk0 : 0 ≤ h0.size := Nat.zero_le _
  have hZ : Z.Warmed39 (s.setVm s.vm).vm := hZ
  have hown : (s.setVm s.vm).vm.findClass "com/example/pergamena/pergamena/build/QuantityHasRangePinLaw" = some m.cls := hown
  obtain ⟨T5, h5, k5, X5, e5, E5, A5, st5⟩ := newP X0 hx hZ (ow hw 1 rfl) e0 (g := (mkF m 25 #[.val (.int pI1), .val (.int pI2), .val (.int pI3), .val (.int pI4), .val (.int ((pI1 &&& (2147483647 : Int32)) % (5 : Int32))), .val (.int ((pI2 &&& (3 : Int32)) % (3 : Int32))), .val (.int ((((pI2.toUInt32 >>> ((2 : Int32) &&& 31).toUInt32).toInt32) &&& (3 : Int32)) % (3 : Int32))), .unset, .unset, .unset, .unset, .unset, .unset, .unset, .unset, .unset, .unset] [(.int 1)])) rfl (hb hby at_25) rfl (by decide) (cap := 1) (by decide) (by decide) (by decide) (by decide)
  obtain ⟨bR5, g5⟩ : ∃ z, z = h0.size := ⟨_, rfl⟩
  rw [← g5] at A5 st5
  have Z7 : n0 ≤ h5.size := (Nat.le_trans Z0 E5.1)
  have V5 : Arv Z h5 bR5 k5 .char (1 : Int32) [(.int 0)] (.int (0 : Int32)) := (Arv.new A5 (by decide)).pad (pad_rep [] (.int (0 : Int32)) 1)
  have g8 : n0 ≤ bR5 := Nat.le_trans Z0 (Nat.le_of_eq g5.symm)
  obtain ⟨clq9, Arq9, Akq9, Asq9, Anq9, Ahq9, Agq9⟩ := id V5
  have hin10 : ¬ ((0 : Int32) < 0 ∨ clq9.slots.size ≤ ((0 : Int32)).toNatClampNeg) := inb_of Asq9 ⟨by decide, by decide⟩
  obtain ⟨T11, h11, X11, e11, W11, st11⟩ := stC X5 hx hZ e5 Arq9 (j := (0 : Int32)) hin10 (g := (mkF m 38 #[.val (.int pI1), .val (.int pI2), .val (.int pI3), .val (.int pI4), .val (.int ((pI1 &&& (2147483647 : Int32)) % (5 : Int32))), .val (.int ((pI2 &&& (3 : Int32)) % (3 : Int32))), .val (.int ((((pI2.toUInt32 >>> ((2 : Int32) &&& 31).toUInt32).toInt32) &&& (3 : Int32)) % (3 : Int32))), .val (.ref bR5), .unset, .unset, .unset, .unset, .unset, .unset, .unset, .unset, .unset] [(.int ((pI3 &&& (255 : Int32)).toUInt32.toUInt16.toUInt32.toInt32)), (.int 0), (.ref bR5)])) rfl rfl (hb hby at_38)
  rw [own_narc (own_c255 _)] at W11
  have Z13 : n0 ≤ h11.size := (Nat.le_trans Z7 (Keep.of_wr W11).1)
  have N11 := Fr.snoc X11 N0 g8
  obtain ⟨Lh11, X11, N11⟩ := own_hide X11 N11
  have V11 : Arv Z h11 bR5 k5 .char (1 : Int32) [(.int ((pI3 &&& (255 : Int32)).toUInt32.toUInt16.toUInt32.toInt32))] (.int (0 : Int32)) := Arv.set Arq9 Akq9 Asq9 Anq9 Ahq9 Agq9 (own_fitc (own_c255 _)) W11 0 rfl (Nat.le_of_ble_eq_true rfl)
  obtain ⟨T14, h14, k14, X14, e14, E14, A14, st14⟩ := newP X11 hx hZ (ow hw 1 rfl) e11 (g := (mkF m 40 #[.val (.int pI1), .val (.int pI2), .val (.int pI3), .val (.int pI4), .val (.int ((pI1 &&& (2147483647 : Int32)) % (5 : Int32))), .val (.int ((pI2 &&& (3 : Int32)) % (3 : Int32))), .val (.int ((((pI2.toUInt32 >>> ((2 : Int32) &&& 31).toUInt32).toInt32) &&& (3 : Int32)) % (3 : Int32))), .val (.ref bR5), .unset, .unset, .unset, .unset, .unset, .unset, .unset, .unset, .unset] [(.int 1)])) rfl (hb hby at_40) rfl (by decide) (cap := 1) (by decide) (by decide) (by decide) (by decide)
  obtain ⟨bR14, g14⟩ : ∃ z, z = h11.size := ⟨_, rfl⟩
  rw [← g14] at A14 st14
  have Z16 : n0 ≤ h14.size := (Nat.le_trans Z13 E14.1)
  have V14 : Arv Z h14 bR14 k14 .char (1 : Int32) [(.int 0)] (.int (0 : Int32)) := (Arv.new A14 (by decide)).pad (pad_rep [] (.int (0 : Int32)) 1)
  have g17 : n0 ≤ bR14 := Nat.le_trans Z13 (Nat.le_of_eq g14.symm)
  obtain ⟨clq18, Arq18, Akq18, Asq18, Anq18, Ahq18, Agq18⟩ := id V14
  have hin19 : ¬ ((0 : Int32) < 0 ∨ clq18.slots.size ≤ ((0 : Int32)).toNatClampNeg) := inb_of Asq18 ⟨by decide, by decide⟩
  obtain ⟨T20, h20, X20, e20, W20, st20⟩ := stC X14 hx hZ e14 Arq18 (j := (0 : Int32)) hin19 (g := (mkF m 56 #[.val (.int pI1), .val (.int pI2), .val (.int pI3), .val (.int pI4), .val (.int ((pI1 &&& (2147483647 : Int32)) % (5 : Int32))), .val (.int ((pI2 &&& (3 : Int32)) % (3 : Int32))), .val (.int ((((pI2.toUInt32 >>> ((2 : Int32) &&& 31).toUInt32).toInt32) &&& (3 : Int32)) % (3 : Int32))), .val (.ref bR5), .val (.ref bR14), .unset, .unset, .unset, .unset, .unset, .unset, .unset, .unset] [(.int ((((pI3.toUInt32 >>> ((8 : Int32) &&& 31).toUInt32).toInt32) &&& (255 : Int32)).toUInt32.toUInt16.toUInt32.toInt32)), (.int 0), (.ref bR14)])) rfl rfl (hb hby at_56)
  rw [own_narc (own_c255 _)] at W20
  have Z22 : n0 ≤ h20.size := (Nat.le_trans Z16 (Keep.of_wr W20).1)
  have N20 := Fr.snoc X20 N11 g17
  obtain ⟨Lh20, X20, N20⟩ := own_hide X20 N20
  have V20 : Arv Z h20 bR14 k14 .char (1 : Int32) [(.int ((((pI3.toUInt32 >>> ((8 : Int32) &&& 31).toUInt32).toInt32) &&& (255 : Int32)).toUInt32.toUInt16.toUInt32.toInt32))] (.int (0 : Int32)) := Arv.set Arq18 Akq18 Asq18 Anq18 Ahq18 Agq18 (own_fitc (own_c255 _)) W20 0 rfl (Nat.le_of_ble_eq_true rfl)
  obtain ⟨T23, h23, X23, e23, E23, A23, D23, U23, st23⟩ := newO X20 hx hZ hown (ow hw 2 rfl) (ow hw 3 rfl) (ow hw 4 rfl) e20 (g := (mkF m 57 #[.val (.int pI1), .val (.int pI2), .val (.int pI3), .val (.int pI4), .val (.int ((pI1 &&& (2147483647 : Int32)) % (5 : Int32))), .val (.int ((pI2 &&& (3 : Int32)) % (3 : Int32))), .val (.int ((((pI2.toUInt32 >>> ((2 : Int32) &&& 31).toUInt32).toInt32) &&& (3 : Int32)) % (3 : Int32))), .val (.ref bR5), .val (.ref bR14), .unset, .unset, .unset, .unset, .unset, .unset, .unset, .unset] [])) rfl (hb hby at_57) (by decide) (by decide)
  obtain ⟨bR23, g23⟩ : ∃ z, z = h20.size := ⟨_, rfl⟩
  rw [← g23] at A23 D23 U23 st23
  have Z25 : n0 ≤ h23.size := (Nat.le_trans Z22 E23.1)
  have F26 : Fld Z h23 bR23 "java/lang/String" "coder" "B" (.int 0) := D23 (Or.inr (ow hw 28 rfl)) (ty := .byte) (by decide)
  have F27 : Fld Z h23 bR23 "java/lang/String" "value" "[B" .null := D23 (Or.inr (ow hw 30 rfl)) (ty := (.array .byte)) (by decide)
  have c28 : Arv Z h14 bR5 k5 .char (1 : Int32) [(.int ((pI3 &&& (255 : Int32)).toUInt32.toUInt16.toUInt32.toInt32))] (.int (0 : Int32)) := V11.ext E14
  have c29 : Arv Z h20 bR5 k5 .char (1 : Int32) [(.int ((pI3 &&& (255 : Int32)).toUInt32.toUInt16.toUInt32.toInt32))] (.int (0 : Int32)) := c28.other W20 (Nat.ne_of_lt (Nat.lt_of_lt_of_le V11.lt (Nat.le_of_eq g14.symm)))
  have c30 : Arv Z h23 bR5 k5 .char (1 : Int32) [(.int ((pI3 &&& (255 : Int32)).toUInt32.toUInt16.toUInt32.toInt32))] (.int (0 : Int32)) := c29.ext E23
  have c32 : Sta Z h5 "java/lang/String" "COMPACT_STRINGS" "Z" (.int pI31) := S_String_COMPACT_STRINGS.ext E5
  have c33 : Sta Z h11 "java/lang/String" "COMPACT_STRINGS" "Z" (.int pI31) := c32.wr W11
  have c34 : Sta Z h14 "java/lang/String" "COMPACT_STRINGS" "Z" (.int pI31) := c33.ext E14
  have c35 : Sta Z h20 "java/lang/String" "COMPACT_STRINGS" "Z" (.int pI31) := c34.wr W20
  have c36 : Sta Z h23 "java/lang/String" "COMPACT_STRINGS" "Z" (.int pI31) := c35.ext E23
  have g37 : n0 ≤ bR23 := Nat.le_trans Z22 (Nat.le_of_eq g23.symm)
  obtain ⟨_, _, ⟨T38, L38, k38, n38⟩, -, X38, ⟨Lc38, hQ38, l38, y38, z38⟩, st38⟩ := X23.specialBack hx (y := yN4) rfl hown (mvT hZ (ow hw 5 rfl)) (mvT hZ (ow hw 6 rfl)) (mvT hZ (ow hw 7 rfl)) (by decide) (backOf (W := 1) (str l Z a0 hw [] bR23 bR5 ((pI3 &&& (255 : Int32)).toUInt32.toUInt16.toUInt32.toInt32) k5 pI31 h23 n0 Z25 c30 c36 A23 F26 g37 F27 hc63 (own_l255 _ : ¬ ((255 : Int32) < ((pI3 &&& (255 : Int32)).toUInt32.toUInt16.toUInt32.toInt32)))) hZ (ow hw 7 rfl) (ow hw 4 rfl) (by decide) (by decide)) (g := (mkF m 63 #[.val (.int pI1), .val (.int pI2), .val (.int pI3), .val (.int pI4), .val (.int ((pI1 &&& (2147483647 : Int32)) % (5 : Int32))), .val (.int ((pI2 &&& (3 : Int32)) % (3 : Int32))), .val (.int ((((pI2.toUInt32 >>> ((2 : Int32) &&& 31).toUInt32).toInt32) &&& (3 : Int32)) % (3 : Int32))), .val (.ref bR5), .val (.ref bR14), .unset, .unset, .unset, .unset, .unset, .unset, .unset, .unset] [(.ref bR5), (.ref bR23), (.ref bR23)])) rfl (by rw [hml]; rfl) (Steps.refl _) (a := bR23) (argsL := [(.ref bR5)]) (rest := [(.ref bR23)]) (lenOf pd_4 rfl) rfl (Nat.le_refl _) (hb hby at_63) (fun _ _ => ⟨rfl, e23, (by decide : 3 + 1 ≤ _), (by decide : 6 + 1 ≤ _)⟩)
  dsimp only [Pt.U, Pt.locs, Pt.cells, Pt.slots] at X38 l38 y38 z38 st38 hQ38
  subst l38 y38 z38
  obtain ⟨bR38_0, kK38_0, rfl, Nq38, Kq38, sz38_0, x38_0, x38_1, x38_2, x38_3⟩ := hQ38
  have N38 := Fr.app N20 Nq38
  obtain ⟨Lh38, X38, N38⟩ := own_hide X38 N38
  have Z40 : n0 ≤ T38.heap.size := (Nat.le_trans Z25 Kq38.1)
  obtain ⟨T41, h41, X41, e41, E41, A41, D41, U41, st41⟩ := newO X38 hx hZ hown (ow hw 2 rfl) (ow hw 3 rfl) (ow hw 4 rfl) rfl (g := (mkF m 68 #[.val (.int pI1), .val (.int pI2), .val (.int pI3), .val (.int pI4), .val (.int ((pI1 &&& (2147483647 : Int32)) % (5 : Int32))), .val (.int ((pI2 &&& (3 : Int32)) % (3 : Int32))), .val (.int ((((pI2.toUInt32 >>> ((2 : Int32) &&& 31).toUInt32).toInt32) &&& (3 : Int32)) % (3 : Int32))), .val (.ref bR5), .val (.ref bR14), .val (.ref bR23), .unset, .unset, .unset, .unset, .unset, .unset, .unset] [])) rfl (hb hby at_68) (by decide) (by decide)
  obtain ⟨bR41, g41⟩ : ∃ z, z = T38.heap.size := ⟨_, rfl⟩
  rw [← g41] at A41 D41 U41 st41
  have Z43 : n0 ≤ h41.size := (Nat.le_trans Z40 E41.1)
  have F44 : Fld Z h41 bR41 "java/lang/String" "coder" "B" (.int 0) := D41 (Or.inr (ow hw 28 rfl)) (ty := .byte) (by decide)
  have F45 : Fld Z h41 bR41 "java/lang/String" "value" "[B" .null := D41 (Or.inr (ow hw 30 rfl)) (ty := (.array .byte)) (by decide)
  have c46 : Arv Z h23 bR14 k14 .char (1 : Int32) [(.int ((((pI3.toUInt32 >>> ((8 : Int32) &&& 31).toUInt32).toInt32) &&& (255 : Int32)).toUInt32.toUInt16.toUInt32.toInt32))] (.int (0 : Int32)) := V20.ext E23
  have c47 : Arv Z T38.heap bR14 k14 .char (1 : Int32) [(.int ((((pI3.toUInt32 >>> ((8 : Int32) &&& 31).toUInt32).toInt32) &&& (255 : Int32)).toUInt32.toUInt16.toUInt32.toInt32))] (.int (0 : Int32)) := c46.keep Kq38 (ninS (Nat.ne_of_lt (Nat.lt_of_lt_of_le V20.lt (Nat.le_of_eq g23.symm))) nin0)
  have c48 : Arv Z h41 bR14 k14 .char (1 : Int32) [(.int ((((pI3.toUInt32 >>> ((8 : Int32) &&& 31).toUInt32).toInt32) &&& (255 : Int32)).toUInt32.toUInt16.toUInt32.toInt32))] (.int (0 : Int32)) := c47.ext E41
  have c49 : Sta Z T38.heap "java/lang/String" "COMPACT_STRINGS" "Z" (.int pI31) := own_sta_keep c36 Kq38 (allS (own_plain_E A23) all0)
  have c50 : Sta Z h41 "java/lang/String" "COMPACT_STRINGS" "Z" (.int pI31) := c49.ext E41
  have g51 : n0 ≤ bR41 := Nat.le_trans Z40 (Nat.le_of_eq g41.symm)
  obtain ⟨_, _, ⟨T52, L52, k52, n52⟩, -, X52, ⟨Lc52, hQ52, l52, y52, z52⟩, st52⟩ := X41.specialBack hx (y := yN4) rfl hown (mvT hZ (ow hw 5 rfl)) (mvT hZ (ow hw 6 rfl)) (mvT hZ (ow hw 7 rfl)) (by decide) (backOf (W := 1) (str l Z a0 hw [] bR41 bR14 ((((pI3.toUInt32 >>> ((8 : Int32) &&& 31).toUInt32).toInt32) &&& (255 : Int32)).toUInt32.toUInt16.toUInt32.toInt32) k14 pI31 h41 n0 Z43 c48 c50 A41 F44 g51 F45 hc63 (own_l255 _ : ¬ ((255 : Int32) < ((((pI3.toUInt32 >>> ((8 : Int32) &&& 31).toUInt32).toInt32) &&& (255 : Int32)).toUInt32.toUInt16.toUInt32.toInt32)))) hZ (ow hw 7 rfl) (ow hw 4 rfl) (by decide) (by decide)) (g := (mkF m 74 #[.val (.int pI1), .val (.int pI2), .val (.int pI3), .val (.int pI4), .val (.int ((pI1 &&& (2147483647 : Int32)) % (5 : Int32))), .val (.int ((pI2 &&& (3 : Int32)) % (3 : Int32))), .val (.int ((((pI2.toUInt32 >>> ((2 : Int32) &&& 31).toUInt32).toInt32) &&& (3 : Int32)) % (3 : Int32))), .val (.ref bR5), .val (.ref bR14), .val (.ref bR23), .unset, .unset, .unset, .unset, .unset, .unset, .unset] [(.ref bR14), (.ref bR41), (.ref bR41)])) rfl (by rw [hml]; rfl) (Steps.refl _) (a := bR41) (argsL := [(.ref bR14)]) (rest := [(.ref bR41)]) (lenOf pd_4 rfl) rfl (Nat.le_refl _) (hb hby at_74) (fun _ _ => ⟨rfl, e41, (by decide : 5 + 1 ≤ _), (by decide : 11 + 1 ≤ _)⟩)
  dsimp only [Pt.U, Pt.locs, Pt.cells, Pt.slots] at X52 l52 y52 z52 st52 hQ52
  subst l52 y52 z52
  obtain ⟨bR52_0, kK52_0, rfl, Nq52, Kq52, sz52_0, x52_0, x52_1, x52_2, x52_3⟩ := hQ52
  have N52 := Fr.app N38 Nq52
  obtain ⟨Lh52, X52, N52⟩ := own_hide X52 N52
  have Z54 : n0 ≤ T52.heap.size := (Nat.le_trans Z43 Kq52.1)
  have c55 : Sta Z T52.heap "java/lang/String" "COMPACT_STRINGS" "Z" (.int pI31) := own_sta_keep c50 Kq52 (allS (own_plain_E A41) all0)
  obtain ⟨_, _, ⟨T56, L56, k56, n56⟩, -, X56, hs256, hg256, ⟨Lc56, hQ56, l56, y56, z56⟩, st56⟩ := callSS X52 hx (y := yN5) hown (mvT hZ (ow hw 31 rfl)) (mvT hZ (ow hw 32 rfl)) (mvT hZ (ow hw 33 rfl)) (mvT hZ (ow hw 34 rfl)) (by decide) (backOfS (s := s.setVm s.vm) (W := 0) (endR l Z a0 hw [] ((pI2 &&& (3 : Int32)) % (3 : Int32)) pI4 pI31 T52.heap n0 Z54 c55 hc82 hc63) hZ (ow hw 34 rfl) (ow hw 33 rfl) (by decide) (by decide)) (g := (mkF m 82 #[.val (.int pI1), .val (.int pI2), .val (.int pI3), .val (.int pI4), .val (.int ((pI1 &&& (2147483647 : Int32)) % (5 : Int32))), .val (.int ((pI2 &&& (3 : Int32)) % (3 : Int32))), .val (.int ((((pI2.toUInt32 >>> ((2 : Int32) &&& 31).toUInt32).toInt32) &&& (3 : Int32)) % (3 : Int32))), .val (.ref bR5), .val (.ref bR14), .val (.ref bR23), .val (.ref bR41), .unset, .unset, .unset, .unset, .unset, .unset] [(.int pI4), (.int ((pI2 &&& (3 : Int32)) % (3 : Int32)))])) rfl (by rw [hml]; rfl) (argsL := [(.int ((pI2 &&& (3 : Int32)) % (3 : Int32))), (.int pI4)]) (rest := []) (lenOf pd_6 rfl) rfl (Nat.le_refl _) (hb hby at_82) (fun _ _ => ⟨rfl, rfl, (by decide : 6 + 3 ≤ _), (by decide : 12 + 6 ≤ _)⟩)
  dsimp only [Pt.U, Pt.locs, Pt.cells, Pt.slots] at X56 l56 y56 z56 st56 hQ56 hs256 hg256
  subst l56 y56 z56
  have X56 := own_refold X56
  have hS56 := foldS hS0 (Nat.le_trans (Nat.le_trans (Nat.le_trans (Nat.le_trans (Nat.le_trans (Nat.le_trans (Nat.le_trans (Nat.le_trans hk0 E5.1) (Keep.of_wr W11).1) E14.1) (Keep.of_wr W20).1) E23.1) Kq38.1) E41.1) Kq52.1) hs256 hg256
  have hk56 : T56.heap.size ≤ T56.heap.size := Nat.le_refl _
  have hZ56 : Z.Warmed39 (s.setVm T56.vm).vm := State.Warmed39.trans (t := s.setVm s.vm) hZ hs256.1
  have ho56 : (s.setVm T56.vm).vm.findClass "com/example/pergamena/pergamena/build/QuantityHasRangePinLaw" = some m.cls := by rw [show (s.setVm T56.vm).vm = T56.vm from rfl, hs256.1.alike.findClass]; exact hown
  obtain ⟨bR56_0, rfl, Nq56, Kq56⟩ := hQ56
  have N56 := Fr.app N52 Nq56
  obtain ⟨Lh56, X56, N56⟩ := own_hide X56 N56
  have Z58 : n0 ≤ T56.heap.size := (Nat.le_trans Z54 Kq56.1)
  have c59 : Sta Z T56.heap "java/lang/String" "COMPACT_STRINGS" "Z" (.int pI31) := own_sta_keep c55 Kq56 all0
  obtain ⟨_, _, ⟨T60, L60, k60, n60⟩, -, X60, hs260, hg260, ⟨Lc60, hQ60, l60, y60, z60⟩, st60⟩ := callSS X56 hx (y := yN5) ho56 (mvT hZ56 (ow hw 31 rfl)) (mvT hZ56 (ow hw 32 rfl)) (mvT hZ56 (ow hw 33 rfl)) (mvT hZ56 (ow hw 34 rfl)) (by decide) (backOfS (s := s.setVm T56.vm) (W := 0) (endR l Z a0 hw [] ((((pI2.toUInt32 >>> ((2 : Int32) &&& 31).toUInt32).toInt32) &&& (3 : Int32)) % (3 : Int32)) ((pI4.toUInt32 >>> ((8 : Int32) &&& 31).toUInt32).toInt32) pI31 T56.heap n0 Z58 c59 hc93 hc63) hZ56 (ow hw 34 rfl) (ow hw 33 rfl) (by decide) (by decide)) (g := (mkF m 93 #[.val (.int pI1), .val (.int pI2), .val (.int pI3), .val (.int pI4), .val (.int ((pI1 &&& (2147483647 : Int32)) % (5 : Int32))), .val (.int ((pI2 &&& (3 : Int32)) % (3 : Int32))), .val (.int ((((pI2.toUInt32 >>> ((2 : Int32) &&& 31).toUInt32).toInt32) &&& (3 : Int32)) % (3 : Int32))), .val (.ref bR5), .val (.ref bR14), .val (.ref bR23), .val (.ref bR41), .val (.ref bR56_0), .unset, .unset, .unset, .unset, .unset] [(.int ((pI4.toUInt32 >>> ((8 : Int32) &&& 31).toUInt32).toInt32)), (.int ((((pI2.toUInt32 >>> ((2 : Int32) &&& 31).toUInt32).toInt32) &&& (3 : Int32)) % (3 : Int32)))])) rfl (by rw [hml]; rfl) (argsL := [(.int ((((pI2.toUInt32 >>> ((2 : Int32) &&& 31).toUInt32).toInt32) &&& (3 : Int32)) % (3 : Int32))), (.int ((pI4.toUInt32 >>> ((8 : Int32) &&& 31).toUInt32).toInt32))]) (rest := []) (lenOf pd_6 rfl) rfl (Nat.le_refl _) (hb hby at_93) (fun _ _ => ⟨rfl, rfl, (by decide : 9 + 3 ≤ _), (by decide : 18 + 6 ≤ _)⟩)
  dsimp only [Pt.U, Pt.locs, Pt.cells, Pt.slots] at X60 l60 y60 z60 st60 hQ60 hs260 hg260
  subst l60 y60 z60
  have X60 := own_refold X60
  have hS60 := foldS hS56 hk56 hs260 hg260
  have hk60 : T60.heap.size ≤ T60.heap.size := Nat.le_refl _
  have hZ60 : Z.Warmed39 (s.setVm T60.vm).vm := State.Warmed39.trans (t := s.setVm T56.vm) hZ56 hs260.1
  have ho60 : (s.setVm T60.vm).vm.findClass "com/example/pergamena/pergamena/build/QuantityHasRangePinLaw" = some m.cls := by rw [show (s.setVm T60.vm).vm = T60.vm from rfl, hs260.1.alike.findClass]; exact ho56
  obtain ⟨bR60_0, rfl, Nq60, Kq60⟩ := hQ60
  have N60 := Fr.app N56 Nq60
  obtain ⟨Lh60, X60, N60⟩ := own_hide X60 N60
  have Z62 : n0 ≤ T60.heap.size := (Nat.le_trans Z58 Kq60.1)
  obtain ⟨T63, h63, X63, e63, E63, A63, D63, U63, st63⟩ := newO X60 hx hZ60 ho60 (ow hw 35 rfl) (ow hw 36 rfl) (ow hw 37 rfl) rfl (g := (mkF m 98 #[.val (.int pI1), .val (.int pI2), .val (.int pI3), .val (.int pI4), .val (.int ((pI1 &&& (2147483647 : Int32)) % (5 : Int32))), .val (.int ((pI2 &&& (3 : Int32)) % (3 : Int32))), .val (.int ((((pI2.toUInt32 >>> ((2 : Int32) &&& 31).toUInt32).toInt32) &&& (3 : Int32)) % (3 : Int32))), .val (.ref bR5), .val (.ref bR14), .val (.ref bR23), .val (.ref bR41), .val (.ref bR56_0), .val (.ref bR60_0), .unset, .unset, .unset, .unset] [])) rfl (hb hby at_98) (by decide) (by decide)
  obtain ⟨bR63, g63⟩ : ∃ z, z = T60.heap.size := ⟨_, rfl⟩
  rw [← g63] at A63 D63 U63 st63
  have Z65 : n0 ≤ h63.size := (Nat.le_trans Z62 E63.1)
  have F66 : Fld Z h63 bR63 "com/example/pergamena/pergamena/build/LabResults$Quantity" "comparator" "Lcom/example/pergamena/pergamena/build/LabResults$Comparator;" .null := D63 (Or.inr (ow hw 51 rfl)) (ty := (.object "com/example/pergamena/pergamena/build/LabResults$Comparator")) (by decide)
  have F67 : Fld Z h63 bR63 "com/example/pergamena/pergamena/build/LabResults$Quantity" "number" "Ljava/lang/String;" .null := D63 (Or.inr (ow hw 53 rfl)) (ty := (.object "java/lang/String")) (by decide)
  have F68 : Fld Z h63 bR63 "com/example/pergamena/pergamena/build/LabResults$Quantity" "unit" "Ljava/lang/String;" .null := D63 (Or.inr (ow hw 55 rfl)) (ty := (.object "java/lang/String")) (by decide)
  have F69 : Fld Z h63 bR63 "com/example/pergamena/pergamena/build/LabResults$Quantity" "low" "Ljava/lang/String;" .null := D63 (Or.inr (ow hw 57 rfl)) (ty := (.object "java/lang/String")) (by decide)
  have F70 : Fld Z h63 bR63 "com/example/pergamena/pergamena/build/LabResults$Quantity" "high" "Ljava/lang/String;" .null := D63 (Or.inr (ow hw 59 rfl)) (ty := (.object "java/lang/String")) (by decide)
  obtain ⟨_, _, ⟨T71, L71, k71, n71⟩, -, X71, ⟨Lc71, hQ71, l71, y71, z71⟩, st71⟩ := Jvm.LawKit.callS X63 hx (y := yN6) ho60 (mvT hZ60 (ow hw 38 rfl)) (mvT hZ60 (ow hw 39 rfl)) (mvT hZ60 (ow hw 33 rfl)) (mvT hZ60 (ow hw 40 rfl)) (by decide) (backOf (W := 2) (comN l Z a0 hw [] ((pI1 &&& (2147483647 : Int32)) % (5 : Int32)) h63 n0 Z65 hc104) hZ60 (ow hw 40 rfl) (ow hw 33 rfl) (by decide) (by decide)) (g := (mkF m 104 #[.val (.int pI1), .val (.int pI2), .val (.int pI3), .val (.int pI4), .val (.int ((pI1 &&& (2147483647 : Int32)) % (5 : Int32))), .val (.int ((pI2 &&& (3 : Int32)) % (3 : Int32))), .val (.int ((((pI2.toUInt32 >>> ((2 : Int32) &&& 31).toUInt32).toInt32) &&& (3 : Int32)) % (3 : Int32))), .val (.ref bR5), .val (.ref bR14), .val (.ref bR23), .val (.ref bR41), .val (.ref bR56_0), .val (.ref bR60_0), .unset, .unset, .unset, .unset] [(.int ((pI1 &&& (2147483647 : Int32)) % (5 : Int32))), (.ref bR63), (.ref bR63)])) rfl (by rw [hml]; rfl) (argsL := [(.int ((pI1 &&& (2147483647 : Int32)) % (5 : Int32)))]) (rest := [(.ref bR63), (.ref bR63)]) (lenOf pd_7 rfl) rfl (Nat.le_refl _) (hb hby at_104) (fun _ _ => ⟨rfl, e63, (by decide : 13 + 0 ≤ _), (by decide : 29 + 0 ≤ _)⟩)
  dsimp only [Pt.U, Pt.locs, Pt.cells, Pt.slots] at X71 l71 y71 z71 st71 hQ71
  subst l71 y71 z71
  obtain ⟨rfl, Nq71, e71⟩ := hQ71
  have N71 := Fr.app N60 Nq71
  have g72 : n0 ≤ bR63 := Nat.le_trans Z62 (Nat.le_of_eq g63.symm)
  obtain ⟨_, _, ⟨T73, L73, k73, n73⟩, -, X73, ⟨Lc73, hQ73, l73, y73, z73⟩, st73⟩ := X71.specialBack hx (y := yN8) rfl ho60 (mvT hZ60 (ow hw 41 rfl)) (mvT hZ60 (ow hw 42 rfl)) (mvT hZ60 (ow hw 43 rfl)) (by decide) (backOf (W := 1) (qNRR l Z a0 hw [] bR63 bR23 bR41 bR56_0 bR60_0 h63 n0 Z65 A63 F66 g72 F67 F68 F69 F70) hZ60 (ow hw 43 rfl) (ow hw 37 rfl) (by decide) (by decide)) (g := (mkF m 115 #[.val (.int pI1), .val (.int pI2), .val (.int pI3), .val (.int pI4), .val (.int ((pI1 &&& (2147483647 : Int32)) % (5 : Int32))), .val (.int ((pI2 &&& (3 : Int32)) % (3 : Int32))), .val (.int ((((pI2.toUInt32 >>> ((2 : Int32) &&& 31).toUInt32).toInt32) &&& (3 : Int32)) % (3 : Int32))), .val (.ref bR5), .val (.ref bR14), .val (.ref bR23), .val (.ref bR41), .val (.ref bR56_0), .val (.ref bR60_0), .unset, .unset, .unset, .unset] [(.ref bR60_0), (.ref bR56_0), (.ref bR41), (.ref bR23), .null, (.ref bR63), (.ref bR63)])) rfl (by rw [hml]; rfl) (Steps.refl _) (a := bR63) (argsL := [.null, (.ref bR23), (.ref bR41), (.ref bR56_0), (.ref bR60_0)]) (rest := [(.ref bR63)]) (lenOf pd_8 rfl) rfl (Nat.le_refl _) (hb hby at_115) (fun _ _ => ⟨rfl, e71, (by decide : 13 + 0 ≤ _), (by decide : 29 + 0 ≤ _)⟩)
  dsimp only [Pt.U, Pt.locs, Pt.cells, Pt.slots] at X73 l73 y73 z73 st73 hQ73
  subst l73 y73 z73
  obtain ⟨rfl, Nq73, Kq73, x73_0, x73_1, x73_2, x73_3, x73_4, x73_5⟩ := hQ73
  have N73 := Fr.app N71 Nq73
  obtain ⟨Lh73, X73, N73⟩ := own_hide X73 N73
  have Z75 : n0 ≤ T73.heap.size := (Nat.le_trans Z65 Kq73.1)
  obtain ⟨cq76, kq76, q76a, q76b, q76c⟩ := isOf hZ60 rfl x73_0
  obtain ⟨_, _, ⟨T76, L76, k76, n76⟩, -, X76, ⟨Lc76, hQ76, l76, y76, z76⟩, st76⟩ := X73.virtualBack hx (y := yN9) (z := yN9) ho60 (mvT hZ60 (ow hw 60 rfl)) (mvT hZ60 (ow hw 61 rfl)) (notFace_of_selects (args := #[]) (mvT hZ60 (ow hw 63 rfl))) (mvT hZ60 (ow hw 63 rfl)) (mvT hZ60 (ow hw 62 rfl)) (by decide) (backOf (W := 0) (hrR l Z a0 hw [] bR63 bR56_0 T73.heap n0 Z75 x73_4) hZ60 (ow hw 64 rfl) (ow hw 37 rfl) (by decide) (by decide)) q76a q76c (g := (mkF m 171 #[.val (.int pI1), .val (.int pI2), .val (.int pI3), .val (.int pI4), .val (.int ((pI1 &&& (2147483647 : Int32)) % (5 : Int32))), .val (.int ((pI2 &&& (3 : Int32)) % (3 : Int32))), .val (.int ((((pI2.toUInt32 >>> ((2 : Int32) &&& 31).toUInt32).toInt32) &&& (3 : Int32)) % (3 : Int32))), .val (.ref bR5), .val (.ref bR14), .val (.ref bR23), .val (.ref bR41), .val (.ref bR56_0), .val (.ref bR60_0), .val (.ref bR63), .val (.int 1), .val (.int 1), .val (.int 1)] [(.ref bR63)])) rfl (by rw [hml]; rfl) (Steps.refl _) (argsL := []) (rest := []) (lenOf pd_9 rfl) rfl (Nat.le_refl _) (hb hby at_171) (fun _ _ => ⟨rfl, rfl, (by decide : 13 + 0 ≤ _), (by decide : 29 + 0 ≤ _)⟩)
  dsimp only [Pt.U, Pt.locs, Pt.cells, Pt.slots] at X76 l76 y76 z76 st76 hQ76
  subst l76 y76 z76
  obtain ⟨rfl, Nq76, e76⟩ := hQ76
  have N76 := Fr.app N73 Nq76
  obtain ⟨fs, hr, hrun, hended, hE⟩ := X76.leaveW hS60 (by rw [e76]; exact (Nat.le_trans (Nat.le_trans hk60 E63.1) Kq73.1)) (v := some (.int 1)) (fun h => by rw [Bd.returns] at h; cases h)
  refine ⟨_, _, castTop (ef_lawNRR m pI1 pI2 pI3 pI4) ?_, hrun, hended, _, _, rfl, ?_, hE.1, hE.2.1, hE.2.2.1, hE.2.2.2.mono (by decide) (by decide)⟩
  · show oS p e below s₁ m 0 #[.val (.int pI1), .val (.int pI2), .val (.int pI3), .val (.int pI4), .unset, .unset, .unset, .unset, .unset, .unset, .unset, .unset, .unset, .unset, .unset, .unset, .unset] [] _
    refine XS.iloadN X0.here hx rfl (hb hby at_0) rfl ?_
    refine X0.ldcInt hx hown (mvT hZ (ow hw 0 rfl)) (g := (mkF m 1 #[.val (.int pI1), .val (.int pI2), .val (.int pI3), .val (.int pI4), .unset, .unset, .unset, .unset, .unset, .unset, .unset, .unset, .unset, .unset, .unset, .unset, .unset] [(.int pI1)])) rfl (hb hby at_1) _ ?_
    refine XS.iand X0.here hx rfl (hb hby at_3) rfl ?_
    refine XS.iconst X0.here hx rfl (hb hby at_4) ?_
    show Steps p.tables e below (s₁.setTop (mkF m 5 #[.val (.int pI1), .val (.int pI2), .val (.int pI3), .val (.int pI4), .unset, .unset, .unset, .unset, .unset, .unset, .unset, .unset, .unset, .unset, .unset, .unset, .unset] [(.int 5), (.int (pI1 &&& (2147483647 : Int32)))])) _
    refine iremM (g := (mkF m 5 #[.val (.int pI1), .val (.int pI2), .val (.int pI3), .val (.int pI4), .unset, .unset, .unset, .unset, .unset, .unset, .unset, .unset, .unset, .unset, .unset, .unset, .unset] [(.int 5), (.int (pI1 &&& (2147483647 : Int32)))])) X0 hx rfl (hb hby at_5) rfl (by decide) ?_
    refine XS.istore X0.here hx rfl (hb hby at_6) rfl (l' := #[.val (.int pI1), .val (.int pI2), .val (.int pI3), .val (.int pI4), .val (.int ((pI1 &&& (2147483647 : Int32)) % (5 : Int32))), .unset, .unset, .unset, .unset, .unset, .unset, .unset, .unset, .unset, .unset, .unset, .unset]) rfl ?_
    refine XS.iloadN X0.here hx rfl (hb hby at_8) rfl ?_
    refine XS.iconst X0.here hx rfl (hb hby at_9) ?_
    show oS p e below s₁ m 10 #[.val (.int pI1), .val (.int pI2), .val (.int pI3), .val (.int pI4), .val (.int ((pI1 &&& (2147483647 : Int32)) % (5 : Int32))), .unset, .unset, .unset, .unset, .unset, .unset, .unset, .unset, .unset, .unset, .unset, .unset] [(.int 3), (.int pI2)] _
    refine XS.iand X0.here hx rfl (hb hby at_10) rfl ?_
    refine XS.iconst X0.here hx rfl (hb hby at_11) ?_
    show Steps p.tables e below (s₁.setTop (mkF m 12 #[.val (.int pI1), .val (.int pI2), .val (.int pI3), .val (.int pI4), .val (.int ((pI1 &&& (2147483647 : Int32)) % (5 : Int32))), .unset, .unset, .unset, .unset, .unset, .unset, .unset, .unset, .unset, .unset, .unset, .unset] [(.int 3), (.int (pI2 &&& (3 : Int32)))])) _
    refine iremM (g := (mkF m 12 #[.val (.int pI1), .val (.int pI2), .val (.int pI3), .val (.int pI4), .val (.int ((pI1 &&& (2147483647 : Int32)) % (5 : Int32))), .unset, .unset, .unset, .unset, .unset, .unset, .unset, .unset, .unset, .unset, .unset, .unset] [(.int 3), (.int (pI2 &&& (3 : Int32)))])) X0 hx rfl (hb hby at_12) rfl (by decide) ?_
    refine XS.istore X0.here hx rfl (hb hby at_13) rfl (l' := #[.val (.int pI1), .val (.int pI2), .val (.int pI3), .val (.int pI4), .val (.int ((pI1 &&& (2147483647 : Int32)) % (5 : Int32))), .val (.int ((pI2 &&& (3 : Int32)) % (3 : Int32))), .unset, .unset, .unset, .unset, .unset, .unset, .unset, .unset, .unset, .unset, .unset]) rfl ?_
    show oS p e below s₁ m 15 #[.val (.int pI1), .val (.int pI2), .val (.int pI3), .val (.int pI4), .val (.int ((pI1 &&& (2147483647 : Int32)) % (5 : Int32))), .val (.int ((pI2 &&& (3 : Int32)) % (3 : Int32))), .unset, .unset, .unset, .unset, .unset, .unset, .unset, .unset, .unset, .unset, .unset] [] _
    refine XS.iloadN X0.here hx rfl (hb hby at_15) rfl ?_
    refine XS.iconst X0.here hx rfl (hb hby at_16) ?_
    refine XS.iushr X0.here hx rfl (hb hby at_17) rfl ?_
    refine XS.iconst X0.here hx rfl (hb hby at_18) ?_
    show oS p e below s₁ m 19 #[.val (.int pI1), .val (.int pI2), .val (.int pI3), .val (.int pI4), .val (.int ((pI1 &&& (2147483647 : Int32)) % (5 : Int32))), .val (.int ((pI2 &&& (3 : Int32)) % (3 : Int32))), .unset, .unset, .unset, .unset, .unset, .unset, .unset, .unset, .unset, .unset, .unset] [(.int 3), (.int ((pI2.toUInt32 >>> ((2 : Int32) &&& 31).toUInt32).toInt32))] _
    refine XS.iand X0.here hx rfl (hb hby at_19) rfl ?_
    refine XS.iconst X0.here hx rfl (hb hby at_20) ?_
    show Steps p.tables e below (s₁.setTop (mkF m 21 #[.val (.int pI1), .val (.int pI2), .val (.int pI3), .val (.int pI4), .val (.int ((pI1 &&& (2147483647 : Int32)) % (5 : Int32))), .val (.int ((pI2 &&& (3 : Int32)) % (3 : Int32))), .unset, .unset, .unset, .unset, .unset, .unset, .unset, .unset, .unset, .unset, .unset] [(.int 3), (.int (((pI2.toUInt32 >>> ((2 : Int32) &&& 31).toUInt32).toInt32) &&& (3 : Int32)))])) _
    refine iremM (g := (mkF m 21 #[.val (.int pI1), .val (.int pI2), .val (.int pI3), .val (.int pI4), .val (.int ((pI1 &&& (2147483647 : Int32)) % (5 : Int32))), .val (.int ((pI2 &&& (3 : Int32)) % (3 : Int32))), .unset, .unset, .unset, .unset, .unset, .unset, .unset, .unset, .unset, .unset, .unset] [(.int 3), (.int (((pI2.toUInt32 >>> ((2 : Int32) &&& 31).toUInt32).toInt32) &&& (3 : Int32)))])) X0 hx rfl (hb hby at_21) rfl (by decide) ?_
    refine XS.istore X0.here hx rfl (hb hby at_22) rfl (l' := #[.val (.int pI1), .val (.int pI2), .val (.int pI3), .val (.int pI4), .val (.int ((pI1 &&& (2147483647 : Int32)) % (5 : Int32))), .val (.int ((pI2 &&& (3 : Int32)) % (3 : Int32))), .val (.int ((((pI2.toUInt32 >>> ((2 : Int32) &&& 31).toUInt32).toInt32) &&& (3 : Int32)) % (3 : Int32))), .unset, .unset, .unset, .unset, .unset, .unset, .unset, .unset, .unset, .unset]) rfl ?_
    show oS p e below s₁ m 24 #[.val (.int pI1), .val (.int pI2), .val (.int pI3), .val (.int pI4), .val (.int ((pI1 &&& (2147483647 : Int32)) % (5 : Int32))), .val (.int ((pI2 &&& (3 : Int32)) % (3 : Int32))), .val (.int ((((pI2.toUInt32 >>> ((2 : Int32) &&& 31).toUInt32).toInt32) &&& (3 : Int32)) % (3 : Int32))), .unset, .unset, .unset, .unset, .unset, .unset, .unset, .unset, .unset, .unset] [] _
    refine XS.iconst X0.here hx rfl (hb hby at_24) ?_
    refine st5 _ ?_
    refine XS.astore X5.here hx rfl (hb hby at_27) rfl rfl (l' := #[.val (.int pI1), .val (.int pI2), .val (.int pI3), .val (.int pI4), .val (.int ((pI1 &&& (2147483647 : Int32)) % (5 : Int32))), .val (.int ((pI2 &&& (3 : Int32)) % (3 : Int32))), .val (.int ((((pI2.toUInt32 >>> ((2 : Int32) &&& 31).toUInt32).toInt32) &&& (3 : Int32)) % (3 : Int32))), .val (.ref bR5), .unset, .unset, .unset, .unset, .unset, .unset, .unset, .unset, .unset]) rfl ?_
    refine XS.aload X5.here hx rfl (hb hby at_29) rfl rfl ?_
    show oS p e below T5 m 31 #[.val (.int pI1), .val (.int pI2), .val (.int pI3), .val (.int pI4), .val (.int ((pI1 &&& (2147483647 : Int32)) % (5 : Int32))), .val (.int ((pI2 &&& (3 : Int32)) % (3 : Int32))), .val (.int ((((pI2.toUInt32 >>> ((2 : Int32) &&& 31).toUInt32).toInt32) &&& (3 : Int32)) % (3 : Int32))), .val (.ref bR5), .unset, .unset, .unset, .unset, .unset, .unset, .unset, .unset, .unset] [(.ref bR5)] _
    refine XS.iconst X5.here hx rfl (hb hby at_31) ?_
    refine XS.iloadN X5.here hx rfl (hb hby at_32) rfl ?_
    refine XS.sipush X5.here hx rfl (hb hby at_33) ?_
    refine XS.iand X5.here hx rfl (hb hby at_36) rfl ?_
    show oS p e below T5 m 37 #[.val (.int pI1), .val (.int pI2), .val (.int pI3), .val (.int pI4), .val (.int ((pI1 &&& (2147483647 : Int32)) % (5 : Int32))), .val (.int ((pI2 &&& (3 : Int32)) % (3 : Int32))), .val (.int ((((pI2.toUInt32 >>> ((2 : Int32) &&& 31).toUInt32).toInt32) &&& (3 : Int32)) % (3 : Int32))), .val (.ref bR5), .unset, .unset, .unset, .unset, .unset, .unset, .unset, .unset, .unset] [(.int (pI3 &&& (255 : Int32))), (.int 0), (.ref bR5)] _
    refine XS.i2c X5.here hx rfl (hb hby at_37) rfl ?_
    refine st11 _ ?_
    refine XS.iconst X11.here hx rfl (hb hby at_39) ?_
    refine st14 _ ?_
    show oS p e below T14 m 42 #[.val (.int pI1), .val (.int pI2), .val (.int pI3), .val (.int pI4), .val (.int ((pI1 &&& (2147483647 : Int32)) % (5 : Int32))), .val (.int ((pI2 &&& (3 : Int32)) % (3 : Int32))), .val (.int ((((pI2.toUInt32 >>> ((2 : Int32) &&& 31).toUInt32).toInt32) &&& (3 : Int32)) % (3 : Int32))), .val (.ref bR5), .unset, .unset, .unset, .unset, .unset, .unset, .unset, .unset, .unset] [(.ref bR14)] _
    refine XS.astore X14.here hx rfl (hb hby at_42) rfl rfl (l' := #[.val (.int pI1), .val (.int pI2), .val (.int pI3), .val (.int pI4), .val (.int ((pI1 &&& (2147483647 : Int32)) % (5 : Int32))), .val (.int ((pI2 &&& (3 : Int32)) % (3 : Int32))), .val (.int ((((pI2.toUInt32 >>> ((2 : Int32) &&& 31).toUInt32).toInt32) &&& (3 : Int32)) % (3 : Int32))), .val (.ref bR5), .val (.ref bR14), .unset, .unset, .unset, .unset, .unset, .unset, .unset, .unset]) rfl ?_
    refine XS.aload X14.here hx rfl (hb hby at_44) rfl rfl ?_
    refine XS.iconst X14.here hx rfl (hb hby at_46) ?_
    refine XS.iloadN X14.here hx rfl (hb hby at_47) rfl ?_
    show oS p e below T14 m 48 #[.val (.int pI1), .val (.int pI2), .val (.int pI3), .val (.int pI4), .val (.int ((pI1 &&& (2147483647 : Int32)) % (5 : Int32))), .val (.int ((pI2 &&& (3 : Int32)) % (3 : Int32))), .val (.int ((((pI2.toUInt32 >>> ((2 : Int32) &&& 31).toUInt32).toInt32) &&& (3 : Int32)) % (3 : Int32))), .val (.ref bR5), .val (.ref bR14), .unset, .unset, .unset, .unset, .unset, .unset, .unset, .unset] [(.int pI3), (.int 0), (.ref bR14)] _
    refine XS.bipush X14.here hx rfl (hb hby at_48) ?_
    refine XS.iushr X14.here hx rfl (hb hby at_50) rfl ?_
    refine XS.sipush X14.here hx rfl (hb hby at_51) ?_
    refine XS.iand X14.here hx rfl (hb hby at_54) rfl ?_
    show oS p e below T14 m 55 #[.val (.int pI1), .val (.int pI2), .val (.int pI3), .val (.int pI4), .val (.int ((pI1 &&& (2147483647 : Int32)) % (5 : Int32))), .val (.int ((pI2 &&& (3 : Int32)) % (3 : Int32))), .val (.int ((((pI2.toUInt32 >>> ((2 : Int32) &&& 31).toUInt32).toInt32) &&& (3 : Int32)) % (3 : Int32))), .val (.ref bR5), .val (.ref bR14), .unset, .unset, .unset, .unset, .unset, .unset, .unset, .unset] [(.int (((pI3.toUInt32 >>> ((8 : Int32) &&& 31).toUInt32).toInt32) &&& (255 : Int32))), (.int 0), (.ref bR14)] _
    refine XS.i2c X14.here hx rfl (hb hby at_55) rfl ?_
    refine st20 _ ?_
    refine st23 _ ?_
    refine XS.dup X23.here hx rfl (hb hby at_60) rfl rfl ?_
    show oS p e below T23 m 61 #[.val (.int pI1), .val (.int pI2), .val (.int pI3), .val (.int pI4), .val (.int ((pI1 &&& (2147483647 : Int32)) % (5 : Int32))), .val (.int ((pI2 &&& (3 : Int32)) % (3 : Int32))), .val (.int ((((pI2.toUInt32 >>> ((2 : Int32) &&& 31).toUInt32).toInt32) &&& (3 : Int32)) % (3 : Int32))), .val (.ref bR5), .val (.ref bR14), .unset, .unset, .unset, .unset, .unset, .unset, .unset, .unset] [(.ref bR23), (.ref bR23)] _
    refine XS.aload X23.here hx rfl (hb hby at_61) rfl rfl ?_
    refine st38.trans ?_
    refine XS.astore X38.here hx rfl (hb hby at_66) rfl rfl (l' := #[.val (.int pI1), .val (.int pI2), .val (.int pI3), .val (.int pI4), .val (.int ((pI1 &&& (2147483647 : Int32)) % (5 : Int32))), .val (.int ((pI2 &&& (3 : Int32)) % (3 : Int32))), .val (.int ((((pI2.toUInt32 >>> ((2 : Int32) &&& 31).toUInt32).toInt32) &&& (3 : Int32)) % (3 : Int32))), .val (.ref bR5), .val (.ref bR14), .val (.ref bR23), .unset, .unset, .unset, .unset, .unset, .unset, .unset]) rfl ?_
    refine st41 _ ?_
    show oS p e below T41 m 71 #[.val (.int pI1), .val (.int pI2), .val (.int pI3), .val (.int pI4), .val (.int ((pI1 &&& (2147483647 : Int32)) % (5 : Int32))), .val (.int ((pI2 &&& (3 : Int32)) % (3 : Int32))), .val (.int ((((pI2.toUInt32 >>> ((2 : Int32) &&& 31).toUInt32).toInt32) &&& (3 : Int32)) % (3 : Int32))), .val (.ref bR5), .val (.ref bR14), .val (.ref bR23), .unset, .unset, .unset, .unset, .unset, .unset, .unset] [(.ref bR41)] _
    refine XS.dup X41.here hx rfl (hb hby at_71) rfl rfl ?_
    refine XS.aload X41.here hx rfl (hb hby at_72) rfl rfl ?_
    refine st52.trans ?_
    refine XS.astore X52.here hx rfl (hb hby at_77) rfl rfl (l' := #[.val (.int pI1), .val (.int pI2), .val (.int pI3), .val (.int pI4), .val (.int ((pI1 &&& (2147483647 : Int32)) % (5 : Int32))), .val (.int ((pI2 &&& (3 : Int32)) % (3 : Int32))), .val (.int ((((pI2.toUInt32 >>> ((2 : Int32) &&& 31).toUInt32).toInt32) &&& (3 : Int32)) % (3 : Int32))), .val (.ref bR5), .val (.ref bR14), .val (.ref bR23), .val (.ref bR41), .unset, .unset, .unset, .unset, .unset, .unset]) rfl ?_
    show oS p e below T52 m 79 #[.val (.int pI1), .val (.int pI2), .val (.int pI3), .val (.int pI4), .val (.int ((pI1 &&& (2147483647 : Int32)) % (5 : Int32))), .val (.int ((pI2 &&& (3 : Int32)) % (3 : Int32))), .val (.int ((((pI2.toUInt32 >>> ((2 : Int32) &&& 31).toUInt32).toInt32) &&& (3 : Int32)) % (3 : Int32))), .val (.ref bR5), .val (.ref bR14), .val (.ref bR23), .val (.ref bR41), .unset, .unset, .unset, .unset, .unset, .unset] [] _
    refine XS.iload X52.here hx rfl (hb hby at_79) rfl ?_
    refine XS.iloadN X52.here hx rfl (hb hby at_81) rfl ?_
    refine st56.trans ?_
    refine XS.astore X56.here hx rfl (hb hby at_85) rfl rfl (l' := #[.val (.int pI1), .val (.int pI2), .val (.int pI3), .val (.int pI4), .val (.int ((pI1 &&& (2147483647 : Int32)) % (5 : Int32))), .val (.int ((pI2 &&& (3 : Int32)) % (3 : Int32))), .val (.int ((((pI2.toUInt32 >>> ((2 : Int32) &&& 31).toUInt32).toInt32) &&& (3 : Int32)) % (3 : Int32))), .val (.ref bR5), .val (.ref bR14), .val (.ref bR23), .val (.ref bR41), .val (.ref bR56_0), .unset, .unset, .unset, .unset, .unset]) rfl ?_
    show oS p e below T56 m 87 #[.val (.int pI1), .val (.int pI2), .val (.int pI3), .val (.int pI4), .val (.int ((pI1 &&& (2147483647 : Int32)) % (5 : Int32))), .val (.int ((pI2 &&& (3 : Int32)) % (3 : Int32))), .val (.int ((((pI2.toUInt32 >>> ((2 : Int32) &&& 31).toUInt32).toInt32) &&& (3 : Int32)) % (3 : Int32))), .val (.ref bR5), .val (.ref bR14), .val (.ref bR23), .val (.ref bR41), .val (.ref bR56_0), .unset, .unset, .unset, .unset, .unset] [] _
    refine XS.iload X56.here hx rfl (hb hby at_87) rfl ?_
    refine XS.iloadN X56.here hx rfl (hb hby at_89) rfl ?_
    refine XS.bipush X56.here hx rfl (hb hby at_90) ?_
    refine XS.iushr X56.here hx rfl (hb hby at_92) rfl ?_
    show oS p e below T56 m 93 #[.val (.int pI1), .val (.int pI2), .val (.int pI3), .val (.int pI4), .val (.int ((pI1 &&& (2147483647 : Int32)) % (5 : Int32))), .val (.int ((pI2 &&& (3 : Int32)) % (3 : Int32))), .val (.int ((((pI2.toUInt32 >>> ((2 : Int32) &&& 31).toUInt32).toInt32) &&& (3 : Int32)) % (3 : Int32))), .val (.ref bR5), .val (.ref bR14), .val (.ref bR23), .val (.ref bR41), .val (.ref bR56_0), .unset, .unset, .unset, .unset, .unset] [(.int ((pI4.toUInt32 >>> ((8 : Int32) &&& 31).toUInt32).toInt32)), (.int ((((pI2.toUInt32 >>> ((2 : Int32) &&& 31).toUInt32).toInt32) &&& (3 : Int32)) % (3 : Int32)))] _
    refine st60.trans ?_
    refine XS.astore X60.here hx rfl (hb hby at_96) rfl rfl (l' := #[.val (.int pI1), .val (.int pI2), .val (.int pI3), .val (.int pI4), .val (.int ((pI1 &&& (2147483647 : Int32)) % (5 : Int32))), .val (.int ((pI2 &&& (3 : Int32)) % (3 : Int32))), .val (.int ((((pI2.toUInt32 >>> ((2 : Int32) &&& 31).toUInt32).toInt32) &&& (3 : Int32)) % (3 : Int32))), .val (.ref bR5), .val (.ref bR14), .val (.ref bR23), .val (.ref bR41), .val (.ref bR56_0), .val (.ref bR60_0), .unset, .unset, .unset, .unset]) rfl ?_
    refine st63 _ ?_
    refine XS.dup X63.here hx rfl (hb hby at_101) rfl rfl ?_
    show oS p e below T63 m 102 #[.val (.int pI1), .val (.int pI2), .val (.int pI3), .val (.int pI4), .val (.int ((pI1 &&& (2147483647 : Int32)) % (5 : Int32))), .val (.int ((pI2 &&& (3 : Int32)) % (3 : Int32))), .val (.int ((((pI2.toUInt32 >>> ((2 : Int32) &&& 31).toUInt32).toInt32) &&& (3 : Int32)) % (3 : Int32))), .val (.ref bR5), .val (.ref bR14), .val (.ref bR23), .val (.ref bR41), .val (.ref bR56_0), .val (.ref bR60_0), .unset, .unset, .unset, .unset] [(.ref bR63), (.ref bR63)] _
    refine XS.iload X63.here hx rfl (hb hby at_102) rfl ?_
    refine st71 _ ?_
    refine XS.aload X71.here hx rfl (hb hby at_107) rfl rfl ?_
    refine XS.aload X71.here hx rfl (hb hby at_109) rfl rfl ?_
    show oS p e below T71 m 111 #[.val (.int pI1), .val (.int pI2), .val (.int pI3), .val (.int pI4), .val (.int ((pI1 &&& (2147483647 : Int32)) % (5 : Int32))), .val (.int ((pI2 &&& (3 : Int32)) % (3 : Int32))), .val (.int ((((pI2.toUInt32 >>> ((2 : Int32) &&& 31).toUInt32).toInt32) &&& (3 : Int32)) % (3 : Int32))), .val (.ref bR5), .val (.ref bR14), .val (.ref bR23), .val (.ref bR41), .val (.ref bR56_0), .val (.ref bR60_0), .unset, .unset, .unset, .unset] [(.ref bR41), (.ref bR23), .null, (.ref bR63), (.ref bR63)] _
    refine XS.aload X71.here hx rfl (hb hby at_111) rfl rfl ?_
    refine XS.aload X71.here hx rfl (hb hby at_113) rfl rfl ?_
    refine st73.trans ?_
    refine XS.astore X73.here hx rfl (hb hby at_118) rfl rfl (l' := #[.val (.int pI1), .val (.int pI2), .val (.int pI3), .val (.int pI4), .val (.int ((pI1 &&& (2147483647 : Int32)) % (5 : Int32))), .val (.int ((pI2 &&& (3 : Int32)) % (3 : Int32))), .val (.int ((((pI2.toUInt32 >>> ((2 : Int32) &&& 31).toUInt32).toInt32) &&& (3 : Int32)) % (3 : Int32))), .val (.ref bR5), .val (.ref bR14), .val (.ref bR23), .val (.ref bR41), .val (.ref bR56_0), .val (.ref bR60_0), .val (.ref bR63), .unset, .unset, .unset]) rfl ?_
    show oS p e below T73 m 120 #[.val (.int pI1), .val (.int pI2), .val (.int pI3), .val (.int pI4), .val (.int ((pI1 &&& (2147483647 : Int32)) % (5 : Int32))), .val (.int ((pI2 &&& (3 : Int32)) % (3 : Int32))), .val (.int ((((pI2.toUInt32 >>> ((2 : Int32) &&& 31).toUInt32).toInt32) &&& (3 : Int32)) % (3 : Int32))), .val (.ref bR5), .val (.ref bR14), .val (.ref bR23), .val (.ref bR41), .val (.ref bR56_0), .val (.ref bR60_0), .val (.ref bR63), .unset, .unset, .unset] [] _
    refine XS.iload X73.here hx rfl (hb hby at_120) rfl ?_
    refine XS.ifNo X73.here hx rfl (hb hby at_122) rfl ((if0 _ _).trans (feq hc82).1) ?_
    refine XS.iconst X73.here hx rfl (hb hby at_125) ?_
    refine XS.goto X73.here hx rfl (pc0 := 126) (pc' := 130) rfl (hb hby at_126) (by decide) (by decide) ?_
    show oS p e below T73 m 130 #[.val (.int pI1), .val (.int pI2), .val (.int pI3), .val (.int pI4), .val (.int ((pI1 &&& (2147483647 : Int32)) % (5 : Int32))), .val (.int ((pI2 &&& (3 : Int32)) % (3 : Int32))), .val (.int ((((pI2.toUInt32 >>> ((2 : Int32) &&& 31).toUInt32).toInt32) &&& (3 : Int32)) % (3 : Int32))), .val (.ref bR5), .val (.ref bR14), .val (.ref bR23), .val (.ref bR41), .val (.ref bR56_0), .val (.ref bR60_0), .val (.ref bR63), .unset, .unset, .unset] [(.int 1)] _
    refine XS.istore X73.here hx rfl (hb hby at_130) rfl (l' := #[.val (.int pI1), .val (.int pI2), .val (.int pI3), .val (.int pI4), .val (.int ((pI1 &&& (2147483647 : Int32)) % (5 : Int32))), .val (.int ((pI2 &&& (3 : Int32)) % (3 : Int32))), .val (.int ((((pI2.toUInt32 >>> ((2 : Int32) &&& 31).toUInt32).toInt32) &&& (3 : Int32)) % (3 : Int32))), .val (.ref bR5), .val (.ref bR14), .val (.ref bR23), .val (.ref bR41), .val (.ref bR56_0), .val (.ref bR60_0), .val (.ref bR63), .val (.int 1), .unset, .unset]) rfl ?_
    refine XS.iload X73.here hx rfl (hb hby at_132) rfl ?_
    refine XS.ifNo X73.here hx rfl (hb hby at_134) rfl ((if0 _ _).trans (feq hc93).1) ?_
    refine XS.iconst X73.here hx rfl (hb hby at_137) ?_
    show oS p e below T73 m 138 #[.val (.int pI1), .val (.int pI2), .val (.int pI3), .val (.int pI4), .val (.int ((pI1 &&& (2147483647 : Int32)) % (5 : Int32))), .val (.int ((pI2 &&& (3 : Int32)) % (3 : Int32))), .val (.int ((((pI2.toUInt32 >>> ((2 : Int32) &&& 31).toUInt32).toInt32) &&& (3 : Int32)) % (3 : Int32))), .val (.ref bR5), .val (.ref bR14), .val (.ref bR23), .val (.ref bR41), .val (.ref bR56_0), .val (.ref bR60_0), .val (.ref bR63), .val (.int 1), .unset, .unset] [(.int 1)] _
    refine XS.goto X73.here hx rfl (pc0 := 138) (pc' := 142) rfl (hb hby at_138) (by decide) (by decide) ?_
    refine XS.istore X73.here hx rfl (hb hby at_142) rfl (l' := #[.val (.int pI1), .val (.int pI2), .val (.int pI3), .val (.int pI4), .val (.int ((pI1 &&& (2147483647 : Int32)) % (5 : Int32))), .val (.int ((pI2 &&& (3 : Int32)) % (3 : Int32))), .val (.int ((((pI2.toUInt32 >>> ((2 : Int32) &&& 31).toUInt32).toInt32) &&& (3 : Int32)) % (3 : Int32))), .val (.ref bR5), .val (.ref bR14), .val (.ref bR23), .val (.ref bR41), .val (.ref bR56_0), .val (.ref bR60_0), .val (.ref bR63), .val (.int 1), .val (.int 1), .unset]) rfl ?_
    refine XS.iload X73.here hx rfl (hb hby at_144) rfl ?_
    refine XS.ifNo X73.here hx rfl (hb hby at_146) rfl ((if0 _ _).trans (feq (by decide : ¬ ((1 : Int32) = (0 : Int32)))).1) ?_
    show oS p e below T73 m 149 #[.val (.int pI1), .val (.int pI2), .val (.int pI3), .val (.int pI4), .val (.int ((pI1 &&& (2147483647 : Int32)) % (5 : Int32))), .val (.int ((pI2 &&& (3 : Int32)) % (3 : Int32))), .val (.int ((((pI2.toUInt32 >>> ((2 : Int32) &&& 31).toUInt32).toInt32) &&& (3 : Int32)) % (3 : Int32))), .val (.ref bR5), .val (.ref bR14), .val (.ref bR23), .val (.ref bR41), .val (.ref bR56_0), .val (.ref bR60_0), .val (.ref bR63), .val (.int 1), .val (.int 1), .unset] [] _
    refine XS.iconst X73.here hx rfl (hb hby at_149) ?_
    refine XS.istore X73.here hx rfl (hb hby at_150) rfl (l' := #[.val (.int pI1), .val (.int pI2), .val (.int pI3), .val (.int pI4), .val (.int ((pI1 &&& (2147483647 : Int32)) % (5 : Int32))), .val (.int ((pI2 &&& (3 : Int32)) % (3 : Int32))), .val (.int ((((pI2.toUInt32 >>> ((2 : Int32) &&& 31).toUInt32).toInt32) &&& (3 : Int32)) % (3 : Int32))), .val (.ref bR5), .val (.ref bR14), .val (.ref bR23), .val (.ref bR41), .val (.ref bR56_0), .val (.ref bR60_0), .val (.ref bR63), .val (.int 1), .val (.int 1), .val (.int 1)]) rfl ?_
    refine XS.goto X73.here hx rfl (pc0 := 152) (pc' := 169) rfl (hb hby at_152) (by decide) (by decide) ?_
    refine XS.aload X73.here hx rfl (hb hby at_169) rfl rfl ?_
    show oS p e below T73 m 171 #[.val (.int pI1), .val (.int pI2), .val (.int pI3), .val (.int pI4), .val (.int ((pI1 &&& (2147483647 : Int32)) % (5 : Int32))), .val (.int ((pI2 &&& (3 : Int32)) % (3 : Int32))), .val (.int ((((pI2.toUInt32 >>> ((2 : Int32) &&& 31).toUInt32).toInt32) &&& (3 : Int32)) % (3 : Int32))), .val (.ref bR5), .val (.ref bR14), .val (.ref bR23), .val (.ref bR41), .val (.ref bR56_0), .val (.ref bR60_0), .val (.ref bR63), .val (.int 1), .val (.int 1), .val (.int 1)] [(.ref bR63)] _
    refine st76.trans ?_
    refine XS.iload X76.here hx rfl (hb hby at_174) rfl ?_
    refine XS.icmpNo X76.here hx rfl (hb hby at_176) rfl (teq (by decide : (1 : Int32) = (1 : Int32))).2 ?_
    refine XS.iconst X76.here hx rfl (hb hby at_179) ?_
    show oS p e below T76 m 180 #[.val (.int pI1), .val (.int pI2), .val (.int pI3), .val (.int pI4), .val (.int ((pI1 &&& (2147483647 : Int32)) % (5 : Int32))), .val (.int ((pI2 &&& (3 : Int32)) % (3 : Int32))), .val (.int ((((pI2.toUInt32 >>> ((2 : Int32) &&& 31).toUInt32).toInt32) &&& (3 : Int32)) % (3 : Int32))), .val (.ref bR5), .val (.ref bR14), .val (.ref bR23), .val (.ref bR41), .val (.ref bR56_0), .val (.ref bR60_0), .val (.ref bR63), .val (.int 1), .val (.int 1), .val (.int 1)] [(.int 1)] _
    refine XS.goto X76.here hx rfl (pc0 := 180) (pc' := 184) rfl (hb hby at_180) (by decide) (by decide) ?_
    exact retN X76 hx (t := .boolean) Bd.returns (by simp) (hb hby at_184) hr
  · show QlawNRR Z pI1 pI2 pI3 pI4 pI31 h0 n0 _ T76.heap _
    rw [e76]
    exact ⟨rfl, N76⟩
theorem ef_lawRNN (m : MethodId) (pI1 : Int32) (pI2 : Int32) (pI3 : Int32) (pI4 : Int32) : entryFrame m #[(.int pI1), (.int pI2), (.int pI3), (.int pI4)] maxLocals = mkF m 0 #[.val (.int pI1), .val (.int pI2), .val (.int pI3), .val (.int pI4), .unset, .unset, .unset, .unset, .unset, .unset, .unset, .unset, .unset, .unset, .unset, .unset, .unset] [] := by first | (simp [entryFrame, mkF, argsToLocals, Value.category, maxLocals]; done) | rfl
def QlawRNN (Z : State) (pI1 : Int32) (pI2 : Int32) (pI3 : Int32) (pI4 : Int32) (pI31 : Int32) (pR65 : Addr) (pR75 : Addr) (pR85 : Addr) (pR95 : Addr) (h0 : Heap) (n0 : Nat) (v : Option Value) (h : Heap) (L : List Loc) : Prop := v = some (.int 1) ∧ Fr n0 L
set_option maxRecDepth 65536 in
set_option maxHeartbeats 40000000 in
theorem lawRNN (l : Launch) (Z : State) (a0 : Array Value) (hw : ∀ d ∈ tables_1, d.before a0 Z = true) (ws : List Jvm.Cond) (pI1 : Int32) (pI2 : Int32) (pI3 : Int32) (pI4 : Int32) (pI31 : Int32) (pR65 : Addr) (pR75 : Addr) (pR85 : Addr) (pR95 : Addr) (h0 : Heap) (n0 : Nat) (Z0 : n0 ≤ h0.size) (S_String_COMPACT_STRINGS : Sta Z h0 "java/lang/String" "COMPACT_STRINGS" "Z" (.int pI31)) (S_LabResults_Comparator_LESS : Sta Z h0 "com/example/pergamena/pergamena/build/LabResults$Comparator" "LESS" "Lcom/example/pergamena/pergamena/build/LabResults$Comparator;" (.ref pR65)) (S_LabResults_Comparator_AT_MOST : Sta Z h0 "com/example/pergamena/pergamena/build/LabResults$Comparator" "AT_MOST" "Lcom/example/pergamena/pergamena/build/LabResults$Comparator;" (.ref pR75)) (S_LabResults_Comparator_GREATER : Sta Z h0 "com/example/pergamena/pergamena/build/LabResults$Comparator" "GREATER" "Lcom/example/pergamena/pergamena/build/LabResults$Comparator;" (.ref pR85)) (S_LabResults_Comparator_AT_LEAST : Sta Z h0 "com/example/pergamena/pergamena/build/LabResults$Comparator" "AT_LEAST" "Lcom/example/pergamena/pergamena/build/LabResults$Comparator;" (.ref pR95)) (hc63 : ¬ (pI31 = (0 : Int32))) (hc82 : ((pI2 &&& (3 : Int32)) % (3 : Int32)) = (0 : Int32)) (hc93 : ((((pI2.toUInt32 >>> ((2 : Int32) &&& 31).toUInt32).toInt32) &&& (3 : Int32)) % (3 : Int32)) = (0 : Int32)) (hc104 : ¬ (((pI1 &&& (2147483647 : Int32)) % (5 : Int32)) = (0 : Int32))) :
    oMW l x code maxLocals ret ws room_1 #[(.int pI1), (.int pI2), (.int pI3), (.int pI4)] Z h0 (QlawRNN Z pI1 pI2 pI3 pI4 pI31 pR65 pR75 pR85 pR95 h0 n0) := by
  refine MetFree.of_bodySF (plainFor_of_name pn_2) hisR ?_
  intro p e s m args below meth c s₁ Bd hml0 hP hK
  obtain ⟨rfl, hZ, hh⟩ := hP
  have hx := Bd.exec
  have hby := Bd.bytes
  have hml : c.maxLocals = 17 := hml0
  have hown : s.vm.findClass "com/example/pergamena/pergamena/build/QuantityHasRangePinLaw" = some m.cls := findClass_of_methodNamed Bd.named
  have hnm := (name_of_methodNamed Bd.named Bd.method).1
  have X0 : Stand p l e room_1 s m #[(.int pI1), (.int pI2), (.int pI3), (.int pI4)] below meth c s₁ [] 0 0 := Stand.of_body Bd
  have e0 : s₁.heap = h0 := by rw [← hh, Bd.state]; rfl
  have N0 := Fr.nil n0
  have X0 : Stand p l e room_1 (s.setVm s.vm) m #[(.int pI1), (.int pI2), (.int pI3), (.int pI4)] below meth c s₁ [] 0 0 := X0
  have hS0 : s.Since s.vm 0 := (State.WarmedH.refl s).since 0
  have hk0 : 0 ≤ h0.size := Nat.zero_le _
  have hZ : Z.Warmed39 (s.setVm s.vm).vm := hZ
  have hown : (s.setVm s.vm).vm.findClass "com/example/pergamena/pergamena/build/QuantityHasRangePinLaw" = some m.cls := hown
  obtain ⟨T5, h5, k5, X5, e5, E5, A5, st5⟩ := newP X0 hx hZ (ow hw 1 rfl) e0 (g := (mkF m 25 #[.val (.int pI1), .val (.int pI2), .val (.int pI3), .val (.int pI4), .val (.int ((pI1 &&& (2147483647 : Int32)) % (5 : Int32))), .val (.int ((pI2 &&& (3 : Int32)) % (3 : Int32))), .val (.int ((((pI2.toUInt32 >>> ((2 : Int32) &&& 31).toUInt32).toInt32) &&& (3 : Int32)) % (3 : Int32))), .unset, .unset, .unset, .unset, .unset, .unset, .unset, .unset, .unset, .unset] [(.int 1)])) rfl (hb hby at_25) rfl (by decide) (cap := 1) (by decide) (by decide) (by decide) (by decide)
  obtain ⟨bR5, g5⟩ : ∃ z, z = h0.size := ⟨_, rfl⟩
  rw [← g5] at A5 st5
  have Z7 : n0 ≤ h5.size := (Nat.le_trans Z0 E5.1)
  have V5 : Arv Z h5 bR5 k5 .char (1 : Int32) [(.int 0)] (.int (0 : Int32)) := (Arv.new A5 (by decide)).pad (pad_rep [] (.int (0 : Int32)) 1)
  have g8 : n0 ≤ bR5 := Nat.le_trans Z0 (Nat.le_of_eq g5.symm)
  obtain ⟨clq9, Arq9, Akq9, Asq9, Anq9, Ahq9, Agq9⟩ := id V5
  have hin10 : ¬ ((0 : Int32) < 0 ∨ clq9.slots.size ≤ ((0 : Int32)).toNatClampNeg) := inb_of Asq9 ⟨by decide, by decide⟩
  obtain ⟨T11, h11, X11, e11, W11, st11⟩ := stC X5 hx hZ e5 Arq9 (j := (0 : Int32)) hin10 (g := (mkF m 38 #[.val (.int pI1), .val (.int pI2), .val (.int pI3), .val (.int pI4), .val (.int ((pI1 &&& (2147483647 : Int32)) % (5 : Int32))), .val (.int ((pI2 &&& (3 : Int32)) % (3 : Int32))), .val (.int ((((pI2.toUInt32 >>> ((2 : Int32) &&& 31).toUInt32).toInt32) &&& (3 : Int32)) % (3 : Int32))), .val (.ref bR5), .unset, .unset, .unset, .unset, .unset, .unset, .unset, .unset, .unset] [(.int ((pI3 &&& (255 : Int32)).toUInt32.toUInt16.toUInt32.toInt32)), (.int 0), (.ref bR5)])) rfl rfl (hb hby at_38)
  rw [own_narc (own_c255 _)] at W11
  have Z13 : n0 ≤ h11.size := (Nat.le_trans Z7 (Keep.of_wr W11).1)
  have N11 := Fr.snoc X11 N0 g8
  obtain ⟨Lh11, X11, N11⟩ := own_hide X11 N11
  have V11 : Arv Z h11 bR5 k5 .char (1 : Int32) [(.int ((pI3 &&& (255 : Int32)).toUInt32.toUInt16.toUInt32.toInt32))] (.int (0 : Int32)) := Arv.set Arq9 Akq9 Asq9 Anq9 Ahq9 Agq9 (own_fitc (own_c255 _)) W11 0 rfl (Nat.le_of_ble_eq_true rfl)
  obtain ⟨T14, h14, k14, X14, e14, E14, A14, st14⟩ := newP X11 hx hZ (ow hw 1 rfl) e11 (g := (mkF m 40 #[.val (.int pI1), .val (.int pI2), .val (.int pI3), .val (.int pI4), .val (.int ((pI1 &&& (2147483647 : Int32)) % (5 : Int32))), .val (.int ((pI2 &&& (3 : Int32)) % (3 : Int32))), .val (.int ((((pI2.toUInt32 >>> ((2 : Int32) &&& 31).toUInt32).toInt32) &&& (3 : Int32)) % (3 : Int32))), .val (.ref bR5), .unset, .unset, .unset, .unset, .unset, .unset, .unset, .unset, .unset] [(.int 1)])) rfl (hb hby at_40) rfl (by decide) (cap := 1) (by decide) (by decide) (by decide) (by decide)
  obtain ⟨bR14, g14⟩ : ∃ z, z = h11.size := ⟨_, rfl⟩
  rw [← g14] at A14 st14
  have Z16 : n0 ≤ h14.size := (Nat.le_trans Z13 E14.1)
  have V14 : Arv Z h14 bR14 k14 .char (1 : Int32) [(.int 0)] (.int (0 : Int32)) := (Arv.new A14 (by decide)).pad (pad_rep [] (.int (0 : Int32)) 1)
  have g17 : n0 ≤ bR14 := Nat.le_trans Z13 (Nat.le_of_eq g14.symm)
  obtain ⟨clq18, Arq18, Akq18, Asq18, Anq18, Ahq18, Agq18⟩ := id V14
  have hin19 : ¬ ((0 : Int32) < 0 ∨ clq18.slots.size ≤ ((0 : Int32)).toNatClampNeg) := inb_of Asq18 ⟨by decide, by decide⟩
  obtain ⟨T20, h20, X20, e20, W20, st20⟩ := stC X14 hx hZ e14 Arq18 (j := (0 : Int32)) hin19 (g := (mkF m 56 #[.val (.int pI1), .val (.int pI2), .val (.int pI3), .val (.int pI4), .val (.int ((pI1 &&& (2147483647 : Int32)) % (5 : Int32))), .val (.int ((pI2 &&& (3 : Int32)) % (3 : Int32))), .val (.int ((((pI2.toUInt32 >>> ((2 : Int32) &&& 31).toUInt32).toInt32) &&& (3 : Int32)) % (3 : Int32))), .val (.ref bR5), .val (.ref bR14), .unset, .unset, .unset, .unset, .unset, .unset, .unset, .unset] [(.int ((((pI3.toUInt32 >>> ((8 : Int32) &&& 31).toUInt32).toInt32) &&& (255 : Int32)).toUInt32.toUInt16.toUInt32.toInt32)), (.int 0), (.ref bR14)])) rfl rfl (hb hby at_56)
  rw [own_narc (own_c255 _)] at W20
  have Z22 : n0 ≤ h20.size := (Nat.le_trans Z16 (Keep.of_wr W20).1)
  have N20 := Fr.snoc X20 N11 g17
  obtain ⟨Lh20, X20, N20⟩ := own_hide X20 N20
  have V20 : Arv Z h20 bR14 k14 .char (1 : Int32) [(.int ((((pI3.toUInt32 >>> ((8 : Int32) &&& 31).toUInt32).toInt32) &&& (255 : Int32)).toUInt32.toUInt16.toUInt32.toInt32))] (.int (0 : Int32)) := Arv.set Arq18 Akq18 Asq18 Anq18 Ahq18 Agq18 (own_fitc (own_c255 _)) W20 0 rfl (Nat.le_of_ble_eq_true rfl)
  obtain ⟨T23, h23, X23, e23, E23, A23, D23, U23, st23⟩ := newO X20 hx hZ hown (ow hw 2 rfl) (ow hw 3 rfl) (ow hw 4 rfl) e20 (g := (mkF m 57 #[.val (.int pI1), .val (.int pI2), .val (.int pI3), .val (.int pI4), .val (.int ((pI1 &&& (2147483647 : Int32)) % (5 : Int32))), .val (.int ((pI2 &&& (3 : Int32)) % (3 : Int32))), .val (.int ((((pI2.toUInt32 >>> ((2 : Int32) &&& 31).toUInt32).toInt32) &&& (3 : Int32)) % (3 : Int32))), .val (.ref bR5), .val (.ref bR14), .unset, .unset, .unset, .unset, .unset, .unset, .unset, .unset] [])) rfl (hb hby at_57) (by decide) (by decide)
  obtain ⟨bR23, g23⟩ : ∃ z, z = h20.size := ⟨_, rfl⟩
  rw [← g23] at A23 D23 U23 st23
  have Z25 : n0 ≤ h23.size := (Nat.le_trans Z22 E23.1)
  have F26 : Fld Z h23 bR23 "java/lang/String" "coder" "B" (.int 0) := D23 (Or.inr (ow hw 28 rfl)) (ty := .byte) (by decide)
  have F27 : Fld Z h23 bR23 "java/lang/String" "value" "[B" .null := D23 (Or.inr (ow hw 30 rfl)) (ty := (.array .byte)) (by decide)
  have c28 : Arv Z h14 bR5 k5 .char (1 : Int32) [(.int ((pI3 &&& (255 : Int32)).toUInt32.toUInt16.toUInt32.toInt32))] (.int (0 : Int32)) := V11.ext E14
  have c29 : Arv Z h20 bR5 k5 .char (1 : Int32) [(.int ((pI3 &&& (255 : Int32)).toUInt32.toUInt16.toUInt32.toInt32))] (.int (0 : Int32)) := c28.other W20 (Nat.ne_of_lt (Nat.lt_of_lt_of_le V11.lt (Nat.le_of_eq g14.symm)))
  have c30 : Arv Z h23 bR5 k5 .char (1 : Int32) [(.int ((pI3 &&& (255 : Int32)).toUInt32.toUInt16.toUInt32.toInt32))] (.int (0 : Int32)) := c29.ext E23
  have c32 : Sta Z h5 "java/lang/String" "COMPACT_STRINGS" "Z" (.int pI31) := S_String_COMPACT_STRINGS.ext E5
  have c33 : Sta Z h11 "java/lang/String" "COMPACT_STRINGS" "Z" (.int pI31) := c32.wr W11
  have c34 : Sta Z h14 "java/lang/String" "COMPACT_STRINGS" "Z" (.int pI31) := c33.ext E14
  have c35 : Sta Z h20 "java/lang/String" "COMPACT_STRINGS" "Z" (.int pI31) := c34.wr W20
  have c36 : Sta Z h23 "java/lang/String" "COMPACT_STRINGS" "Z" (.int pI31) := c35.ext E23
  have g37 : n0 ≤ bR23 := Nat.le_trans Z22 (Nat.le_of_eq g23.symm)
  obtain ⟨_, _, ⟨T38, L38, k38, n38⟩, -, X38, ⟨Lc38, hQ38, l38, y38, z38⟩, st38⟩ := X23.specialBack hx (y := yN4) rfl hown (mvT hZ (ow hw 5 rfl)) (mvT hZ (ow hw 6 rfl)) (mvT hZ (ow hw 7 rfl)) (by decide) (backOf (W := 1) (str l Z a0 hw [] bR23 bR5 ((pI3 &&& (255 : Int32)).toUInt32.toUInt16.toUInt32.toInt32) k5 pI31 h23 n0 Z25 c30 c36 A23 F26 g37 F27 hc63 (own_l255 _ : ¬ ((255 : Int32) < ((pI3 &&& (255 : Int32)).toUInt32.toUInt16.toUInt32.toInt32)))) hZ (ow hw 7 rfl) (ow hw 4 rfl) (by decide) (by decide)) (g := (mkF m 63 #[.val (.int pI1), .val (.int pI2), .val (.int pI3), .val (.int pI4), .val (.int ((pI1 &&& (2147483647 : Int32)) % (5 : Int32))), .val (.int ((pI2 &&& (3 : Int32)) % (3 : Int32))), .val (.int ((((pI2.toUInt32 >>> ((2 : Int32) &&& 31).toUInt32).toInt32) &&& (3 : Int32)) % (3 : Int32))), .val (.ref bR5), .val (.ref bR14), .unset, .unset, .unset, .unset, .unset, .unset, .unset, .unset] [(.ref bR5), (.ref bR23), (.ref bR23)])) rfl (by rw [hml]; rfl) (Steps.refl _) (a := bR23) (argsL := [(.ref bR5)]) (rest := [(.ref bR23)]) (lenOf pd_4 rfl) rfl (Nat.le_refl _) (hb hby at_63) (fun _ _ => ⟨rfl, e23, (by decide : 3 + 1 ≤ _), (by decide : 6 + 1 ≤ _)⟩)
  dsimp only [Pt.U, Pt.locs, Pt.cells, Pt.slots] at X38 l38 y38 z38 st38 hQ38
  subst l38 y38 z38
  obtain ⟨bR38_0, kK38_0, rfl, Nq38, Kq38, sz38_0, x38_0, x38_1, x38_2, x38_3⟩ := hQ38
  have N38 := Fr.app N20 Nq38
  obtain ⟨Lh38, X38, N38⟩ := own_hide X38 N38
  have Z40 : n0 ≤ T38.heap.size := (Nat.le_trans Z25 Kq38.1)
  obtain ⟨T41, h41, X41, e41, E41, A41, D41, U41, st41⟩ := newO X38 hx hZ hown (ow hw 2 rfl) (ow hw 3 rfl) (ow hw 4 rfl) rfl (g := (mkF m 68 #[.val (.int pI1), .val (.int pI2), .val (.int pI3), .val (.int pI4), .val (.int ((pI1 &&& (2147483647 : Int32)) % (5 : Int32))), .val (.int ((pI2 &&& (3 : Int32)) % (3 : Int32))), .val (.int ((((pI2.toUInt32 >>> ((2 : Int32) &&& 31).toUInt32).toInt32) &&& (3 : Int32)) % (3 : Int32))), .val (.ref bR5), .val (.ref bR14), .val (.ref bR23), .unset, .unset, .unset, .unset, .unset, .unset, .unset] [])) rfl (hb hby at_68) (by decide) (by decide)
  obtain ⟨bR41, g41⟩ : ∃ z, z = T38.heap.size := ⟨_, rfl⟩
  rw [← g41] at A41 D41 U41 st41
  have Z43 : n0 ≤ h41.size := (Nat.le_trans Z40 E41.1)
  have F44 : Fld Z h41 bR41 "java/lang/String" "coder" "B" (.int 0) := D41 (Or.inr (ow hw 28 rfl)) (ty := .byte) (by decide)
  have F45 : Fld Z h41 bR41 "java/lang/String" "value" "[B" .null := D41 (Or.inr (ow hw 30 rfl)) (ty := (.array .byte)) (by decide)
  have c46 : Arv Z h23 bR14 k14 .char (1 : Int32) [(.int ((((pI3.toUInt32 >>> ((8 : Int32) &&& 31).toUInt32).toInt32) &&& (255 : Int32)).toUInt32.toUInt16.toUInt32.toInt32))] (.int (0 : Int32)) := V20.ext E23
  have c47 : Arv Z T38.heap bR14 k14 .char (1 : Int32) [(.int ((((pI3.toUInt32 >>> ((8 : Int32) &&& 31).toUInt32).toInt32) &&& (255 : Int32)).toUInt32.toUInt16.toUInt32.toInt32))] (.int (0 : Int32)) := c46.keep Kq38 (ninS (Nat.ne_of_lt (Nat.lt_of_lt_of_le V20.lt (Nat.le_of_eq g23.symm))) nin0)
  have c48 : Arv Z h41 bR14 k14 .char (1 : Int32) [(.int ((((pI3.toUInt32 >>> ((8 : Int32) &&& 31).toUInt32).toInt32) &&& (255 : Int32)).toUInt32.toUInt16.toUInt32.toInt32))] (.int (0 : Int32)) := c47.ext E41
  have c49 : Sta Z T38.heap "java/lang/String" "COMPACT_STRINGS" "Z" (.int pI31) := own_sta_keep c36 Kq38 (allS (own_plain_E A23) all0)
  have c50 : Sta Z h41 "java/lang/String" "COMPACT_STRINGS" "Z" (.int pI31) := c49.ext E41
  have g51 : n0 ≤ bR41 := Nat.le_trans Z40 (Nat.le_of_eq g41.symm)
  obtain ⟨_, _, ⟨T52, L52, k52, n52⟩, -, X52, ⟨Lc52, hQ52, l52, y52, z52⟩, st52⟩ := X41.specialBack hx (y := yN4) rfl hown (mvT hZ (ow hw 5 rfl)) (mvT hZ (ow hw 6 rfl)) (mvT hZ (ow hw 7 rfl)) (by decide) (backOf (W := 1) (str l Z a0 hw [] bR41 bR14 ((((pI3.toUInt32 >>> ((8 : Int32) &&& 31).toUInt32).toInt32) &&& (255 : Int32)).toUInt32.toUInt16.toUInt32.toInt32) k14 pI31 h41 n0 Z43 c48 c50 A41 F44 g51 F45 hc63 (own_l255 _ : ¬ ((255 : Int32) < ((((pI3.toUInt32 >>> ((8 : Int32) &&& 31).toUInt32).toInt32) &&& (255 : Int32)).toUInt32.toUInt16.toUInt32.toInt32)))) hZ (ow hw 7 rfl) (ow hw 4 rfl) (by decide) (by decide)) (g := (mkF m 74 #[.val (.int pI1), .val (.int pI2), .val (.int pI3), .val (.int pI4), .val (.int ((pI1 &&& (2147483647 : Int32)) % (5 : Int32))), .val (.int ((pI2 &&& (3 : Int32)) % (3 : Int32))), .val (.int ((((pI2.toUInt32 >>> ((2 : Int32) &&& 31).toUInt32).toInt32) &&& (3 : Int32)) % (3 : Int32))), .val (.ref bR5), .val (.ref bR14), .val (.ref bR23), .unset, .unset, .unset, .unset, .unset, .unset, .unset] [(.ref bR14), (.ref bR41), (.ref bR41)])) rfl (by rw [hml]; rfl) (Steps.refl _) (a := bR41) (argsL := [(.ref bR14)]) (rest := [(.ref bR41)]) (lenOf pd_4 rfl) rfl (Nat.le_refl _) (hb hby at_74) (fun _ _ => ⟨rfl, e41, (by decide : 5 + 1 ≤ _), (by decide : 11 + 1 ≤ _)⟩)
  dsimp only [Pt.U, Pt.locs, Pt.cells, Pt.slots] at X52 l52 y52 z52 st52 hQ52
  subst l52 y52 z52
  obtain ⟨bR52_0, kK52_0, rfl, Nq52, Kq52, sz52_0, x52_0, x52_1, x52_2, x52_3⟩ := hQ52
  have N52 := Fr.app N38 Nq52
  obtain ⟨Lh52, X52, N52⟩ := own_hide X52 N52
  have Z54 : n0 ≤ T52.heap.size := (Nat.le_trans Z43 Kq52.1)
  obtain ⟨_, _, ⟨T55, L55, k55, n55⟩, -, X55, ⟨Lc55, hQ55, l55, y55, z55⟩, st55⟩ := Jvm.LawKit.callS X52 hx (y := yN5) hown (mvT hZ (ow hw 31 rfl)) (mvT hZ (ow hw 32 rfl)) (mvT hZ (ow hw 33 rfl)) (mvT hZ (ow hw 34 rfl)) (by decide) (backOf (W := 0) (endN l Z a0 hw [] ((pI2 &&& (3 : Int32)) % (3 : Int32)) pI4 T52.heap n0 Z54 hc82) hZ (ow hw 34 rfl) (ow hw 33 rfl) (by decide) (by decide)) (g := (mkF m 82 #[.val (.int pI1), .val (.int pI2), .val (.int pI3), .val (.int pI4), .val (.int ((pI1 &&& (2147483647 : Int32)) % (5 : Int32))), .val (.int ((pI2 &&& (3 : Int32)) % (3 : Int32))), .val (.int ((((pI2.toUInt32 >>> ((2 : Int32) &&& 31).toUInt32).toInt32) &&& (3 : Int32)) % (3 : Int32))), .val (.ref bR5), .val (.ref bR14), .val (.ref bR23), .val (.ref bR41), .unset, .unset, .unset, .unset, .unset, .unset] [(.int pI4), (.int ((pI2 &&& (3 : Int32)) % (3 : Int32)))])) rfl (by rw [hml]; rfl) (argsL := [(.int ((pI2 &&& (3 : Int32)) % (3 : Int32))), (.int pI4)]) (rest := []) (lenOf pd_6 rfl) rfl (Nat.le_refl _) (hb hby at_82) (fun _ _ => ⟨rfl, rfl, (by decide : 6 + 0 ≤ _), (by decide : 12 + 0 ≤ _)⟩)
  dsimp only [Pt.U, Pt.locs, Pt.cells, Pt.slots] at X55 l55 y55 z55 st55 hQ55
  subst l55 y55 z55
  obtain ⟨rfl, Nq55, e55⟩ := hQ55
  have N55 := Fr.app N52 Nq55
  obtain ⟨_, _, ⟨T56, L56, k56, n56⟩, -, X56, ⟨Lc56, hQ56, l56, y56, z56⟩, st56⟩ := Jvm.LawKit.callS X55 hx (y := yN5) hown (mvT hZ (ow hw 31 rfl)) (mvT hZ (ow hw 32 rfl)) (mvT hZ (ow hw 33 rfl)) (mvT hZ (ow hw 34 rfl)) (by decide) (backOf (W := 0) (endN l Z a0 hw [] ((((pI2.toUInt32 >>> ((2 : Int32) &&& 31).toUInt32).toInt32) &&& (3 : Int32)) % (3 : Int32)) ((pI4.toUInt32 >>> ((8 : Int32) &&& 31).toUInt32).toInt32) T52.heap n0 Z54 hc93) hZ (ow hw 34 rfl) (ow hw 33 rfl) (by decide) (by decide)) (g := (mkF m 93 #[.val (.int pI1), .val (.int pI2), .val (.int pI3), .val (.int pI4), .val (.int ((pI1 &&& (2147483647 : Int32)) % (5 : Int32))), .val (.int ((pI2 &&& (3 : Int32)) % (3 : Int32))), .val (.int ((((pI2.toUInt32 >>> ((2 : Int32) &&& 31).toUInt32).toInt32) &&& (3 : Int32)) % (3 : Int32))), .val (.ref bR5), .val (.ref bR14), .val (.ref bR23), .val (.ref bR41), .val .null, .unset, .unset, .unset, .unset, .unset] [(.int ((pI4.toUInt32 >>> ((8 : Int32) &&& 31).toUInt32).toInt32)), (.int ((((pI2.toUInt32 >>> ((2 : Int32) &&& 31).toUInt32).toInt32) &&& (3 : Int32)) % (3 : Int32)))])) rfl (by rw [hml]; rfl) (argsL := [(.int ((((pI2.toUInt32 >>> ((2 : Int32) &&& 31).toUInt32).toInt32) &&& (3 : Int32)) % (3 : Int32))), (.int ((pI4.toUInt32 >>> ((8 : Int32) &&& 31).toUInt32).toInt32))]) (rest := []) (lenOf pd_6 rfl) rfl (Nat.le_refl _) (hb hby at_93) (fun _ _ => ⟨rfl, e55, (by decide : 6 + 0 ≤ _), (by decide : 12 + 0 ≤ _)⟩)
  dsimp only [Pt.U, Pt.locs, Pt.cells, Pt.slots] at X56 l56 y56 z56 st56 hQ56
  subst l56 y56 z56
  obtain ⟨rfl, Nq56, e56⟩ := hQ56
  have N56 := Fr.app N55 Nq56
  obtain ⟨T57, h57, X57, e57, E57, A57, D57, U57, st57⟩ := newO X56 hx hZ hown (ow hw 35 rfl) (ow hw 36 rfl) (ow hw 37 rfl) e56 (g := (mkF m 98 #[.val (.int pI1), .val (.int pI2), .val (.int pI3), .val (.int pI4), .val (.int ((pI1 &&& (2147483647 : Int32)) % (5 : Int32))), .val (.int ((pI2 &&& (3 : Int32)) % (3 : Int32))), .val (.int ((((pI2.toUInt32 >>> ((2 : Int32) &&& 31).toUInt32).toInt32) &&& (3 : Int32)) % (3 : Int32))), .val (.ref bR5), .val (.ref bR14), .val (.ref bR23), .val (.ref bR41), .val .null, .val .null, .unset, .unset, .unset, .unset] [])) rfl (hb hby at_98) (by decide) (by decide)
  obtain ⟨bR57, g57⟩ : ∃ z, z = T52.heap.size := ⟨_, rfl⟩
  rw [← g57] at A57 D57 U57 st57
  have Z59 : n0 ≤ h57.size := (Nat.le_trans Z54 E57.1)
  have F60 : Fld Z h57 bR57 "com/example/pergamena/pergamena/build/LabResults$Quantity" "comparator" "Lcom/example/pergamena/pergamena/build/LabResults$Comparator;" .null := D57 (Or.inr (ow hw 51 rfl)) (ty := (.object "com/example/pergamena/pergamena/build/LabResults$Comparator")) (by decide)
  have F61 : Fld Z h57 bR57 "com/example/pergamena/pergamena/build/LabResults$Quantity" "number" "Ljava/lang/String;" .null := D57 (Or.inr (ow hw 53 rfl)) (ty := (.object "java/lang/String")) (by decide)
  have F62 : Fld Z h57 bR57 "com/example/pergamena/pergamena/build/LabResults$Quantity" "unit" "Ljava/lang/String;" .null := D57 (Or.inr (ow hw 55 rfl)) (ty := (.object "java/lang/String")) (by decide)
  have F63 : Fld Z h57 bR57 "com/example/pergamena/pergamena/build/LabResults$Quantity" "low" "Ljava/lang/String;" .null := D57 (Or.inr (ow hw 57 rfl)) (ty := (.object "java/lang/String")) (by decide)
  have F64 : Fld Z h57 bR57 "com/example/pergamena/pergamena/build/LabResults$Quantity" "high" "Ljava/lang/String;" .null := D57 (Or.inr (ow hw 59 rfl)) (ty := (.object "java/lang/String")) (by decide)
  have c66 : Sta Z h5 "com/example/pergamena/pergamena/build/LabResults$Comparator" "LESS" "Lcom/example/pergamena/pergamena/build/LabResults$Comparator;" (.ref pR65) := S_LabResults_Comparator_LESS.ext E5
  have c67 : Sta Z h11 "com/example/pergamena/pergamena/build/LabResults$Comparator" "LESS" "Lcom/example/pergamena/pergamena/build/LabResults$Comparator;" (.ref pR65) := c66.wr W11
  have c68 : Sta Z h14 "com/example/pergamena/pergamena/build/LabResults$Comparator" "LESS" "Lcom/example/pergamena/pergamena/build/LabResults$Comparator;" (.ref pR65) := c67.ext E14
  have c69 : Sta Z h20 "com/example/pergamena/pergamena/build/LabResults$Comparator" "LESS" "Lcom/example/pergamena/pergamena/build/LabResults$Comparator;" (.ref pR65) := c68.wr W20
  have c70 : Sta Z h23 "com/example/pergamena/pergamena/build/LabResults$Comparator" "LESS" "Lcom/example/pergamena/pergamena/build/LabResults$Comparator;" (.ref pR65) := c69.ext E23
  have c71 : Sta Z T38.heap "com/example/pergamena/pergamena/build/LabResults$Comparator" "LESS" "Lcom/example/pergamena/pergamena/build/LabResults$Comparator;" (.ref pR65) := own_sta_keep c70 Kq38 (allS (own_plain_E A23) all0)
  have c72 : Sta Z h41 "com/example/pergamena/pergamena/build/LabResults$Comparator" "LESS" "Lcom/example/pergamena/pergamena/build/LabResults$Comparator;" (.ref pR65) := c71.ext E41
  have c73 : Sta Z T52.heap "com/example/pergamena/pergamena/build/LabResults$Comparator" "LESS" "Lcom/example/pergamena/pergamena/build/LabResults$Comparator;" (.ref pR65) := own_sta_keep c72 Kq52 (allS (own_plain_E A41) all0)
  have c74 : Sta Z h57 "com/example/pergamena/pergamena/build/LabResults$Comparator" "LESS" "Lcom/example/pergamena/pergamena/build/LabResults$Comparator;" (.ref pR65) := c73.ext E57
  have c76 : Sta Z h5 "com/example/pergamena/pergamena/build/LabResults$Comparator" "AT_MOST" "Lcom/example/pergamena/pergamena/build/LabResults$Comparator;" (.ref pR75) := S_LabResults_Comparator_AT_MOST.ext E5
  have c77 : Sta Z h11 "com/example/pergamena/pergamena/build/LabResults$Comparator" "AT_MOST" "Lcom/example/pergamena/pergamena/build/LabResults$Comparator;" (.ref pR75) := c76.wr W11
  have c78 : Sta Z h14 "com/example/pergamena/pergamena/build/LabResults$Comparator" "AT_MOST" "Lcom/example/pergamena/pergamena/build/LabResults$Comparator;" (.ref pR75) := c77.ext E14
  have c79 : Sta Z h20 "com/example/pergamena/pergamena/build/LabResults$Comparator" "AT_MOST" "Lcom/example/pergamena/pergamena/build/LabResults$Comparator;" (.ref pR75) := c78.wr W20
  have c80 : Sta Z h23 "com/example/pergamena/pergamena/build/LabResults$Comparator" "AT_MOST" "Lcom/example/pergamena/pergamena/build/LabResults$Comparator;" (.ref pR75) := c79.ext E23
  have c81 : Sta Z T38.heap "com/example/pergamena/pergamena/build/LabResults$Comparator" "AT_MOST" "Lcom/example/pergamena/pergamena/build/LabResults$Comparator;" (.ref pR75) := own_sta_keep c80 Kq38 (allS (own_plain_E A23) all0)
  have c82 : Sta Z h41 "com/example/pergamena/pergamena/build/LabResults$Comparator" "AT_MOST" "Lcom/example/pergamena/pergamena/build/LabResults$Comparator;" (.ref pR75) := c81.ext E41
  have c83 : Sta Z T52.heap "com/example/pergamena/pergamena/build/LabResults$Comparator" "AT_MOST" "Lcom/example/pergamena/pergamena/build/LabResults$Comparator;" (.ref pR75) := own_sta_keep c82 Kq52 (allS (own_plain_E A41) all0)
  have c84 : Sta Z h57 "com/example/pergamena/pergamena/build/LabResults$Comparator" "AT_MOST" "Lcom/example/pergamena/pergamena/build/LabResults$Comparator;" (.ref pR75) := c83.ext E57
  have c86 : Sta Z h5 "com/example/pergamena/pergamena/build/LabResults$Comparator" "GREATER" "Lcom/example/pergamena/pergamena/build/LabResults$Comparator;" (.ref pR85) := S_LabResults_Comparator_GREATER.ext E5
  have c87 : Sta Z h11 "com/example/pergamena/pergamena/build/LabResults$Comparator" "GREATER" "Lcom/example/pergamena/pergamena/build/LabResults$Comparator;" (.ref pR85) := c86.wr W11
  have c88 : Sta Z h14 "com/example/pergamena/pergamena/build/LabResults$Comparator" "GREATER" "Lcom/example/pergamena/pergamena/build/LabResults$Comparator;" (.ref pR85) := c87.ext E14
  have c89 : Sta Z h20 "com/example/pergamena/pergamena/build/LabResults$Comparator" "GREATER" "Lcom/example/pergamena/pergamena/build/LabResults$Comparator;" (.ref pR85) := c88.wr W20
  have c90 : Sta Z h23 "com/example/pergamena/pergamena/build/LabResults$Comparator" "GREATER" "Lcom/example/pergamena/pergamena/build/LabResults$Comparator;" (.ref pR85) := c89.ext E23
  have c91 : Sta Z T38.heap "com/example/pergamena/pergamena/build/LabResults$Comparator" "GREATER" "Lcom/example/pergamena/pergamena/build/LabResults$Comparator;" (.ref pR85) := own_sta_keep c90 Kq38 (allS (own_plain_E A23) all0)
  have c92 : Sta Z h41 "com/example/pergamena/pergamena/build/LabResults$Comparator" "GREATER" "Lcom/example/pergamena/pergamena/build/LabResults$Comparator;" (.ref pR85) := c91.ext E41
  have c93 : Sta Z T52.heap "com/example/pergamena/pergamena/build/LabResults$Comparator" "GREATER" "Lcom/example/pergamena/pergamena/build/LabResults$Comparator;" (.ref pR85) := own_sta_keep c92 Kq52 (allS (own_plain_E A41) all0)
  have c94 : Sta Z h57 "com/example/pergamena/pergamena/build/LabResults$Comparator" "GREATER" "Lcom/example/pergamena/pergamena/build/LabResults$Comparator;" (.ref pR85) := c93.ext E57
  have c96 : Sta Z h5 "com/example/pergamena/pergamena/build/LabResults$Comparator" "AT_LEAST" "Lcom/example/pergamena/pergamena/build/LabResults$Comparator;" (.ref pR95) := S_LabResults_Comparator_AT_LEAST.ext E5
  have c97 : Sta Z h11 "com/example/pergamena/pergamena/build/LabResults$Comparator" "AT_LEAST" "Lcom/example/pergamena/pergamena/build/LabResults$Comparator;" (.ref pR95) := c96.wr W11
  have c98 : Sta Z h14 "com/example/pergamena/pergamena/build/LabResults$Comparator" "AT_LEAST" "Lcom/example/pergamena/pergamena/build/LabResults$Comparator;" (.ref pR95) := c97.ext E14
  have c99 : Sta Z h20 "com/example/pergamena/pergamena/build/LabResults$Comparator" "AT_LEAST" "Lcom/example/pergamena/pergamena/build/LabResults$Comparator;" (.ref pR95) := c98.wr W20
  have c100 : Sta Z h23 "com/example/pergamena/pergamena/build/LabResults$Comparator" "AT_LEAST" "Lcom/example/pergamena/pergamena/build/LabResults$Comparator;" (.ref pR95) := c99.ext E23
  have c101 : Sta Z T38.heap "com/example/pergamena/pergamena/build/LabResults$Comparator" "AT_LEAST" "Lcom/example/pergamena/pergamena/build/LabResults$Comparator;" (.ref pR95) := own_sta_keep c100 Kq38 (allS (own_plain_E A23) all0)
  have c102 : Sta Z h41 "com/example/pergamena/pergamena/build/LabResults$Comparator" "AT_LEAST" "Lcom/example/pergamena/pergamena/build/LabResults$Comparator;" (.ref pR95) := c101.ext E41
  have c103 : Sta Z T52.heap "com/example/pergamena/pergamena/build/LabResults$Comparator" "AT_LEAST" "Lcom/example/pergamena/pergamena/build/LabResults$Comparator;" (.ref pR95) := own_sta_keep c102 Kq52 (allS (own_plain_E A41) all0)
  have c104 : Sta Z h57 "com/example/pergamena/pergamena/build/LabResults$Comparator" "AT_LEAST" "Lcom/example/pergamena/pergamena/build/LabResults$Comparator;" (.ref pR95) := c103.ext E57
  obtain ⟨_, _, ⟨T105, L105, k105, n105⟩, -, X105, ⟨Lc105, hQ105, l105, y105, z105⟩, st105⟩ := Jvm.LawKit.callS X57 hx (y := yN6) hown (mvT hZ (ow hw 38 rfl)) (mvT hZ (ow hw 39 rfl)) (mvT hZ (ow hw 33 rfl)) (mvT hZ (ow hw 40 rfl)) (by decide) (backOf (W := 2) (comR l Z a0 hw [] ((pI1 &&& (2147483647 : Int32)) % (5 : Int32)) pR65 pR75 pR85 pR95 h57 n0 Z59 c74 c84 c94 c104 hc104) hZ (ow hw 40 rfl) (ow hw 33 rfl) (by decide) (by decide)) (g := (mkF m 104 #[.val (.int pI1), .val (.int pI2), .val (.int pI3), .val (.int pI4), .val (.int ((pI1 &&& (2147483647 : Int32)) % (5 : Int32))), .val (.int ((pI2 &&& (3 : Int32)) % (3 : Int32))), .val (.int ((((pI2.toUInt32 >>> ((2 : Int32) &&& 31).toUInt32).toInt32) &&& (3 : Int32)) % (3 : Int32))), .val (.ref bR5), .val (.ref bR14), .val (.ref bR23), .val (.ref bR41), .val .null, .val .null, .unset, .unset, .unset, .unset] [(.int ((pI1 &&& (2147483647 : Int32)) % (5 : Int32))), (.ref bR57), (.ref bR57)])) rfl (by rw [hml]; rfl) (argsL := [(.int ((pI1 &&& (2147483647 : Int32)) % (5 : Int32)))]) (rest := [(.ref bR57), (.ref bR57)]) (lenOf pd_7 rfl) rfl (Nat.le_refl _) (hb hby at_104) (fun _ _ => ⟨rfl, e57, (by decide : 7 + 0 ≤ _), (by decide : 17 + 0 ≤ _)⟩)
  dsimp only [Pt.U, Pt.locs, Pt.cells, Pt.slots] at X105 l105 y105 z105 st105 hQ105
  subst l105 y105 z105
  obtain ⟨bR105_0, rfl, Nq105, Kq105⟩ := hQ105
  have N105 := Fr.app N56 Nq105
  obtain ⟨Lh105, X105, N105⟩ := own_hide X105 N105
  have Z107 : n0 ≤ T105.heap.size := (Nat.le_trans Z59 Kq105.1)
  have c108 : Exa Z T105.heap bR57 "com/example/pergamena/pergamena/build/LabResults$Quantity" := A57.keep Kq105
  have c109 : Fld Z T105.heap bR57 "com/example/pergamena/pergamena/build/LabResults$Quantity" "comparator" "Lcom/example/pergamena/pergamena/build/LabResults$Comparator;" .null := F60.keep Kq105 nin0
  have g110 : n0 ≤ bR57 := Nat.le_trans Z54 (Nat.le_of_eq g57.symm)
  have c111 : Fld Z T105.heap bR57 "com/example/pergamena/pergamena/build/LabResults$Quantity" "number" "Ljava/lang/String;" .null := F61.keep Kq105 nin0
  have c112 : Fld Z T105.heap bR57 "com/example/pergamena/pergamena/build/LabResults$Quantity" "unit" "Ljava/lang/String;" .null := F62.keep Kq105 nin0
  have c113 : Fld Z T105.heap bR57 "com/example/pergamena/pergamena/build/LabResults$Quantity" "low" "Ljava/lang/String;" .null := F63.keep Kq105 nin0
  have c114 : Fld Z T105.heap bR57 "com/example/pergamena/pergamena/build/LabResults$Quantity" "high" "Ljava/lang/String;" .null := F64.keep Kq105 nin0
  obtain ⟨_, _, ⟨T115, L115, k115, n115⟩, -, X115, ⟨Lc115, hQ115, l115, y115, z115⟩, st115⟩ := X105.specialBack hx (y := yN8) rfl hown (mvT hZ (ow hw 41 rfl)) (mvT hZ (ow hw 42 rfl)) (mvT hZ (ow hw 43 rfl)) (by decide) (backOf (W := 1) (qRNN l Z a0 hw [] bR57 bR105_0 bR23 bR41 T105.heap n0 Z107 c108 c109 g110 c111 c112 c113 c114) hZ (ow hw 43 rfl) (ow hw 37 rfl) (by decide) (by decide)) (g := (mkF m 115 #[.val (.int pI1), .val (.int pI2), .val (.int pI3), .val (.int pI4), .val (.int ((pI1 &&& (2147483647 : Int32)) % (5 : Int32))), .val (.int ((pI2 &&& (3 : Int32)) % (3 : Int32))), .val (.int ((((pI2.toUInt32 >>> ((2 : Int32) &&& 31).toUInt32).toInt32) &&& (3 : Int32)) % (3 : Int32))), .val (.ref bR5), .val (.ref bR14), .val (.ref bR23), .val (.ref bR41), .val .null, .val .null, .unset, .unset, .unset, .unset] [.null, .null, (.ref bR41), (.ref bR23), (.ref bR105_0), (.ref bR57), (.ref bR57)])) rfl (by rw [hml]; rfl) (Steps.refl _) (a := bR57) (argsL := [(.ref bR105_0), (.ref bR23), (.ref bR41), .null, .null]) (rest := [(.ref bR57)]) (lenOf pd_8 rfl) rfl (Nat.le_refl _) (hb hby at_115) (fun _ _ => ⟨rfl, rfl, (by decide : 7 + 0 ≤ _), (by decide : 17 + 0 ≤ _)⟩)
  dsimp only [Pt.U, Pt.locs, Pt.cells, Pt.slots] at X115 l115 y115 z115 st115 hQ115
  subst l115 y115 z115
  obtain ⟨rfl, Nq115, Kq115, x115_0, x115_1, x115_2, x115_3, x115_4, x115_5⟩ := hQ115
  have N115 := Fr.app N105 Nq115
  obtain ⟨Lh115, X115, N115⟩ := own_hide X115 N115
  have Z117 : n0 ≤ T115.heap.size := (Nat.le_trans Z107 Kq115.1)
  obtain ⟨cq118, kq118, q118a, q118b, q118c⟩ := isOf hZ rfl x115_0
  obtain ⟨_, _, ⟨T118, L118, k118, n118⟩, -, X118, ⟨Lc118, hQ118, l118, y118, z118⟩, st118⟩ := X115.virtualBack hx (y := yN9) (z := yN9) hown (mvT hZ (ow hw 60 rfl)) (mvT hZ (ow hw 61 rfl)) (notFace_of_selects (args := #[]) (mvT hZ (ow hw 63 rfl))) (mvT hZ (ow hw 63 rfl)) (mvT hZ (ow hw 62 rfl)) (by decide) (backOf (W := 0) (hrNN l Z a0 hw [] bR57 T115.heap n0 Z117 x115_4 x115_5) hZ (ow hw 64 rfl) (ow hw 37 rfl) (by decide) (by decide)) q118a q118c (g := (mkF m 171 #[.val (.int pI1), .val (.int pI2), .val (.int pI3), .val (.int pI4), .val (.int ((pI1 &&& (2147483647 : Int32)) % (5 : Int32))), .val (.int ((pI2 &&& (3 : Int32)) % (3 : Int32))), .val (.int ((((pI2.toUInt32 >>> ((2 : Int32) &&& 31).toUInt32).toInt32) &&& (3 : Int32)) % (3 : Int32))), .val (.ref bR5), .val (.ref bR14), .val (.ref bR23), .val (.ref bR41), .val .null, .val .null, .val (.ref bR57), .val (.int 0), .val (.int 0), .val (.int 0)] [(.ref bR57)])) rfl (by rw [hml]; rfl) (Steps.refl _) (argsL := []) (rest := []) (lenOf pd_9 rfl) rfl (Nat.le_refl _) (hb hby at_171) (fun _ _ => ⟨rfl, rfl, (by decide : 7 + 0 ≤ _), (by decide : 17 + 0 ≤ _)⟩)
  dsimp only [Pt.U, Pt.locs, Pt.cells, Pt.slots] at X118 l118 y118 z118 st118 hQ118
  subst l118 y118 z118
  obtain ⟨rfl, Nq118, e118⟩ := hQ118
  have N118 := Fr.app N115 Nq118
  obtain ⟨fs, hr, hrun, hended, hE⟩ := X118.leaveW hS0 (by rw [e118]; exact (Nat.le_trans (Nat.le_trans (Nat.le_trans (Nat.le_trans (Nat.le_trans (Nat.le_trans (Nat.le_trans (Nat.le_trans (Nat.le_trans (Nat.le_trans (Nat.le_trans hk0 E5.1) (Keep.of_wr W11).1) E14.1) (Keep.of_wr W20).1) E23.1) Kq38.1) E41.1) Kq52.1) E57.1) Kq105.1) Kq115.1)) (v := some (.int 1)) (fun h => by rw [Bd.returns] at h; cases h)
  refine ⟨_, _, castTop (ef_lawRNN m pI1 pI2 pI3 pI4) ?_, hrun, hended, _, _, rfl, ?_, hE.1, hE.2.1, hE.2.2.1, hE.2.2.2.mono (by decide) (by decide)⟩
  · show oS p e below s₁ m 0 #[.val (.int pI1), .val (.int pI2), .val (.int pI3), .val (.int pI4), .unset, .unset, .unset, .unset, .unset, .unset, .unset, .unset, .unset, .unset, .unset, .unset, .unset] [] _
    refine XS.iloadN X0.here hx rfl (hb hby at_0) rfl ?_
    refine X0.ldcInt hx hown (mvT hZ (ow hw 0 rfl)) (g := (mkF m 1 #[.val (.int pI1), .val (.int pI2), .val (.int pI3), .val (.int pI4), .unset, .unset, .unset, .unset, .unset, .unset, .unset, .unset, .unset, .unset, .unset, .unset, .unset] [(.int pI1)])) rfl (hb hby at_1) _ ?_
    refine XS.iand X0.here hx rfl (hb hby at_3) rfl ?_
    refine XS.iconst X0.here hx rfl (hb hby at_4) ?_
    show Steps p.tables e below (s₁.setTop (mkF m 5 #[.val (.int pI1), .val (.int pI2), .val (.int pI3), .val (.int pI4), .unset, .unset, .unset, .unset, .unset, .unset, .unset, .unset, .unset, .unset, .unset, .unset, .unset] [(.int 5), (.int (pI1 &&& (2147483647 : Int32)))])) _
    refine iremM (g := (mkF m 5 #[.val (.int pI1), .val (.int pI2), .val (.int pI3), .val (.int pI4), .unset, .unset, .unset, .unset, .unset, .unset, .unset, .unset, .unset, .unset, .unset, .unset, .unset] [(.int 5), (.int (pI1 &&& (2147483647 : Int32)))])) X0 hx rfl (hb hby at_5) rfl (by decide) ?_
    refine XS.istore X0.here hx rfl (hb hby at_6) rfl (l' := #[.val (.int pI1), .val (.int pI2), .val (.int pI3), .val (.int pI4), .val (.int ((pI1 &&& (2147483647 : Int32)) % (5 : Int32))), .unset, .unset, .unset, .unset, .unset, .unset, .unset, .unset, .unset, .unset, .unset, .unset]) rfl ?_
    refine XS.iloadN X0.here hx rfl (hb hby at_8) rfl ?_
    refine XS.iconst X0.here hx rfl (hb hby at_9) ?_
    show oS p e below s₁ m 10 #[.val (.int pI1), .val (.int pI2), .val (.int pI3), .val (.int pI4), .val (.int ((pI1 &&& (2147483647 : Int32)) % (5 : Int32))), .unset, .unset, .unset, .unset, .unset, .unset, .unset, .unset, .unset, .unset, .unset, .unset] [(.int 3), (.int pI2)] _
    refine XS.iand X0.here hx rfl (hb hby at_10) rfl ?_
    refine XS.iconst X0.here hx rfl (hb hby at_11) ?_
    show Steps p.tables e below (s₁.setTop (mkF m 12 #[.val (.int pI1), .val (.int pI2), .val (.int pI3), .val (.int pI4), .val (.int ((pI1 &&& (2147483647 : Int32)) % (5 : Int32))), .unset, .unset, .unset, .unset, .unset, .unset, .unset, .unset, .unset, .unset, .unset, .unset] [(.int 3), (.int (pI2 &&& (3 : Int32)))])) _
    refine iremM (g := (mkF m 12 #[.val (.int pI1), .val (.int pI2), .val (.int pI3), .val (.int pI4), .val (.int ((pI1 &&& (2147483647 : Int32)) % (5 : Int32))), .unset, .unset, .unset, .unset, .unset, .unset, .unset, .unset, .unset, .unset, .unset, .unset] [(.int 3), (.int (pI2 &&& (3 : Int32)))])) X0 hx rfl (hb hby at_12) rfl (by decide) ?_
    refine XS.istore X0.here hx rfl (hb hby at_13) rfl (l' := #[.val (.int pI1), .val (.int pI2), .val (.int pI3), .val (.int pI4), .val (.int ((pI1 &&& (2147483647 : Int32)) % (5 : Int32))), .val (.int ((pI2 &&& (3 : Int32)) % (3 : Int32))), .unset, .unset, .unset, .unset, .unset, .unset, .unset, .unset, .unset, .unset, .unset]) rfl ?_
    show oS p e below s₁ m 15 #[.val (.int pI1), .val (.int pI2), .val (.int pI3), .val (.int pI4), .val (.int ((pI1 &&& (2147483647 : Int32)) % (5 : Int32))), .val (.int ((pI2 &&& (3 : Int32)) % (3 : Int32))), .unset, .unset, .unset, .unset, .unset, .unset, .unset, .unset, .unset, .unset, .unset] [] _
    refine XS.iloadN X0.here hx rfl (hb hby at_15) rfl ?_
    refine XS.iconst X0.here hx rfl (hb hby at_16) ?_
    refine XS.iushr X0.here hx rfl (hb hby at_17) rfl ?_
    refine XS.iconst X0.here hx rfl (hb hby at_18) ?_
    show oS p e below s₁ m 19 #[.val (.int pI1), .val (.int pI2), .val (.int pI3), .val (.int pI4), .val (.int ((pI1 &&& (2147483647 : Int32)) % (5 : Int32))), .val (.int ((pI2 &&& (3 : Int32)) % (3 : Int32))), .unset, .unset, .unset, .unset, .unset, .unset, .unset, .unset, .unset, .unset, .unset] [(.int 3), (.int ((pI2.toUInt32 >>> ((2 : Int32) &&& 31).toUInt32).toInt32))] _
    refine XS.iand X0.here hx rfl (hb hby at_19) rfl ?_
    refine XS.iconst X0.here hx rfl (hb hby at_20) ?_
    show Steps p.tables e below (s₁.setTop (mkF m 21 #[.val (.int pI1), .val (.int pI2), .val (.int pI3), .val (.int pI4), .val (.int ((pI1 &&& (2147483647 : Int32)) % (5 : Int32))), .val (.int ((pI2 &&& (3 : Int32)) % (3 : Int32))), .unset, .unset, .unset, .unset, .unset, .unset, .unset, .unset, .unset, .unset, .unset] [(.int 3), (.int (((pI2.toUInt32 >>> ((2 : Int32) &&& 31).toUInt32).toInt32) &&& (3 : Int32)))])) _
    refine iremM (g := (mkF m 21 #[.val (.int pI1), .val (.int pI2), .val (.int pI3), .val (.int pI4), .val (.int ((pI1 &&& (2147483647 : Int32)) % (5 : Int32))), .val (.int ((pI2 &&& (3 : Int32)) % (3 : Int32))), .unset, .unset, .unset, .unset, .unset, .unset, .unset, .unset, .unset, .unset, .unset] [(.int 3), (.int (((pI2.toUInt32 >>> ((2 : Int32) &&& 31).toUInt32).toInt32) &&& (3 : Int32)))])) X0 hx rfl (hb hby at_21) rfl (by decide) ?_
    refine XS.istore X0.here hx rfl (hb hby at_22) rfl (l' := #[.val (.int pI1), .val (.int pI2), .val (.int pI3), .val (.int pI4), .val (.int ((pI1 &&& (2147483647 : Int32)) % (5 : Int32))), .val (.int ((pI2 &&& (3 : Int32)) % (3 : Int32))), .val (.int ((((pI2.toUInt32 >>> ((2 : Int32) &&& 31).toUInt32).toInt32) &&& (3 : Int32)) % (3 : Int32))), .unset, .unset, .unset, .unset, .unset, .unset, .unset, .unset, .unset, .unset]) rfl ?_
    show oS p e below s₁ m 24 #[.val (.int pI1), .val (.int pI2), .val (.int pI3), .val (.int pI4), .val (.int ((pI1 &&& (2147483647 : Int32)) % (5 : Int32))), .val (.int ((pI2 &&& (3 : Int32)) % (3 : Int32))), .val (.int ((((pI2.toUInt32 >>> ((2 : Int32) &&& 31).toUInt32).toInt32) &&& (3 : Int32)) % (3 : Int32))), .unset, .unset, .unset, .unset, .unset, .unset, .unset, .unset, .unset, .unset] [] _
    refine XS.iconst X0.here hx rfl (hb hby at_24) ?_
    refine st5 _ ?_
    refine XS.astore X5.here hx rfl (hb hby at_27) rfl rfl (l' := #[.val (.int pI1), .val (.int pI2), .val (.int pI3), .val (.int pI4), .val (.int ((pI1 &&& (2147483647 : Int32)) % (5 : Int32))), .val (.int ((pI2 &&& (3 : Int32)) % (3 : Int32))), .val (.int ((((pI2.toUInt32 >>> ((2 : Int32) &&& 31).toUInt32).toInt32) &&& (3 : Int32)) % (3 : Int32))), .val (.ref bR5), .unset, .unset, .unset, .unset, .unset, .unset, .unset, .unset, .unset]) rfl ?_
    refine XS.aload X5.here hx rfl (hb hby at_29) rfl rfl ?_
    show oS p e below T5 m 31 #[.val (.int pI1), .val (.int pI2), .val (.int pI3), .val (.int pI4), .val (.int ((pI1 &&& (2147483647 : Int32)) % (5 : Int32))), .val (.int ((pI2 &&& (3 : Int32)) % (3 : Int32))), .val (.int ((((pI2.toUInt32 >>> ((2 : Int32) &&& 31).toUInt32).toInt32) &&& (3 : Int32)) % (3 : Int32))), .val (.ref bR5), .unset, .unset, .unset, .unset, .unset, .unset, .unset, .unset, .unset] [(.ref bR5)] _
    refine XS.iconst X5.here hx rfl (hb hby at_31) ?_
    refine XS.iloadN X5.here hx rfl (hb hby at_32) rfl ?_
    refine XS.sipush X5.here hx rfl (hb hby at_33) ?_
    refine XS.iand X5.here hx rfl (hb hby at_36) rfl ?_
    show oS p e below T5 m 37 #[.val (.int pI1), .val (.int pI2), .val (.int pI3), .val (.int pI4), .val (.int ((pI1 &&& (2147483647 : Int32)) % (5 : Int32))), .val (.int ((pI2 &&& (3 : Int32)) % (3 : Int32))), .val (.int ((((pI2.toUInt32 >>> ((2 : Int32) &&& 31).toUInt32).toInt32) &&& (3 : Int32)) % (3 : Int32))), .val (.ref bR5), .unset, .unset, .unset, .unset, .unset, .unset, .unset, .unset, .unset] [(.int (pI3 &&& (255 : Int32))), (.int 0), (.ref bR5)] _
    refine XS.i2c X5.here hx rfl (hb hby at_37) rfl ?_
    refine st11 _ ?_
    refine XS.iconst X11.here hx rfl (hb hby at_39) ?_
    refine st14 _ ?_
    show oS p e below T14 m 42 #[.val (.int pI1), .val (.int pI2), .val (.int pI3), .val (.int pI4), .val (.int ((pI1 &&& (2147483647 : Int32)) % (5 : Int32))), .val (.int ((pI2 &&& (3 : Int32)) % (3 : Int32))), .val (.int ((((pI2.toUInt32 >>> ((2 : Int32) &&& 31).toUInt32).toInt32) &&& (3 : Int32)) % (3 : Int32))), .val (.ref bR5), .unset, .unset, .unset, .unset, .unset, .unset, .unset, .unset, .unset] [(.ref bR14)] _
    refine XS.astore X14.here hx rfl (hb hby at_42) rfl rfl (l' := #[.val (.int pI1), .val (.int pI2), .val (.int pI3), .val (.int pI4), .val (.int ((pI1 &&& (2147483647 : Int32)) % (5 : Int32))), .val (.int ((pI2 &&& (3 : Int32)) % (3 : Int32))), .val (.int ((((pI2.toUInt32 >>> ((2 : Int32) &&& 31).toUInt32).toInt32) &&& (3 : Int32)) % (3 : Int32))), .val (.ref bR5), .val (.ref bR14), .unset, .unset, .unset, .unset, .unset, .unset, .unset, .unset]) rfl ?_
    refine XS.aload X14.here hx rfl (hb hby at_44) rfl rfl ?_
    refine XS.iconst X14.here hx rfl (hb hby at_46) ?_
    refine XS.iloadN X14.here hx rfl (hb hby at_47) rfl ?_
    show oS p e below T14 m 48 #[.val (.int pI1), .val (.int pI2), .val (.int pI3), .val (.int pI4), .val (.int ((pI1 &&& (2147483647 : Int32)) % (5 : Int32))), .val (.int ((pI2 &&& (3 : Int32)) % (3 : Int32))), .val (.int ((((pI2.toUInt32 >>> ((2 : Int32) &&& 31).toUInt32).toInt32) &&& (3 : Int32)) % (3 : Int32))), .val (.ref bR5), .val (.ref bR14), .unset, .unset, .unset, .unset, .unset, .unset, .unset, .unset] [(.int pI3), (.int 0), (.ref bR14)] _
    refine XS.bipush X14.here hx rfl (hb hby at_48) ?_
    refine XS.iushr X14.here hx rfl (hb hby at_50) rfl ?_
    refine XS.sipush X14.here hx rfl (hb hby at_51) ?_
    refine XS.iand X14.here hx rfl (hb hby at_54) rfl ?_
    show oS p e below T14 m 55 #[.val (.int pI1), .val (.int pI2), .val (.int pI3), .val (.int pI4), .val (.int ((pI1 &&& (2147483647 : Int32)) % (5 : Int32))), .val (.int ((pI2 &&& (3 : Int32)) % (3 : Int32))), .val (.int ((((pI2.toUInt32 >>> ((2 : Int32) &&& 31).toUInt32).toInt32) &&& (3 : Int32)) % (3 : Int32))), .val (.ref bR5), .val (.ref bR14), .unset, .unset, .unset, .unset, .unset, .unset, .unset, .unset] [(.int (((pI3.toUInt32 >>> ((8 : Int32) &&& 31).toUInt32).toInt32) &&& (255 : Int32))), (.int 0), (.ref bR14)] _
    refine XS.i2c X14.here hx rfl (hb hby at_55) rfl ?_
    refine st20 _ ?_
    refine st23 _ ?_
    refine XS.dup X23.here hx rfl (hb hby at_60) rfl rfl ?_
    show oS p e below T23 m 61 #[.val (.int pI1), .val (.int pI2), .val (.int pI3), .val (.int pI4), .val (.int ((pI1 &&& (2147483647 : Int32)) % (5 : Int32))), .val (.int ((pI2 &&& (3 : Int32)) % (3 : Int32))), .val (.int ((((pI2.toUInt32 >>> ((2 : Int32) &&& 31).toUInt32).toInt32) &&& (3 : Int32)) % (3 : Int32))), .val (.ref bR5), .val (.ref bR14), .unset, .unset, .unset, .unset, .unset, .unset, .unset, .unset] [(.ref bR23), (.ref bR23)] _
    refine XS.aload X23.here hx rfl (hb hby at_61) rfl rfl ?_
    refine st38.trans ?_
    refine XS.astore X38.here hx rfl (hb hby at_66) rfl rfl (l' := #[.val (.int pI1), .val (.int pI2), .val (.int pI3), .val (.int pI4), .val (.int ((pI1 &&& (2147483647 : Int32)) % (5 : Int32))), .val (.int ((pI2 &&& (3 : Int32)) % (3 : Int32))), .val (.int ((((pI2.toUInt32 >>> ((2 : Int32) &&& 31).toUInt32).toInt32) &&& (3 : Int32)) % (3 : Int32))), .val (.ref bR5), .val (.ref bR14), .val (.ref bR23), .unset, .unset, .unset, .unset, .unset, .unset, .unset]) rfl ?_
    refine st41 _ ?_
    show oS p e below T41 m 71 #[.val (.int pI1), .val (.int pI2), .val (.int pI3), .val (.int pI4), .val (.int ((pI1 &&& (2147483647 : Int32)) % (5 : Int32))), .val (.int ((pI2 &&& (3 : Int32)) % (3 : Int32))), .val (.int ((((pI2.toUInt32 >>> ((2 : Int32) &&& 31).toUInt32).toInt32) &&& (3 : Int32)) % (3 : Int32))), .val (.ref bR5), .val (.ref bR14), .val (.ref bR23), .unset, .unset, .unset, .unset, .unset, .unset, .unset] [(.ref bR41)] _
    refine XS.dup X41.here hx rfl (hb hby at_71) rfl rfl ?_
    refine XS.aload X41.here hx rfl (hb hby at_72) rfl rfl ?_
    refine st52.trans ?_
    refine XS.astore X52.here hx rfl (hb hby at_77) rfl rfl (l' := #[.val (.int pI1), .val (.int pI2), .val (.int pI3), .val (.int pI4), .val (.int ((pI1 &&& (2147483647 : Int32)) % (5 : Int32))), .val (.int ((pI2 &&& (3 : Int32)) % (3 : Int32))), .val (.int ((((pI2.toUInt32 >>> ((2 : Int32) &&& 31).toUInt32).toInt32) &&& (3 : Int32)) % (3 : Int32))), .val (.ref bR5), .val (.ref bR14), .val (.ref bR23), .val (.ref bR41), .unset, .unset, .unset, .unset, .unset, .unset]) rfl ?_
    show oS p e below T52 m 79 #[.val (.int pI1), .val (.int pI2), .val (.int pI3), .val (.int pI4), .val (.int ((pI1 &&& (2147483647 : Int32)) % (5 : Int32))), .val (.int ((pI2 &&& (3 : Int32)) % (3 : Int32))), .val (.int ((((pI2.toUInt32 >>> ((2 : Int32) &&& 31).toUInt32).toInt32) &&& (3 : Int32)) % (3 : Int32))), .val (.ref bR5), .val (.ref bR14), .val (.ref bR23), .val (.ref bR41), .unset, .unset, .unset, .unset, .unset, .unset] [] _
    refine XS.iload X52.here hx rfl (hb hby at_79) rfl ?_
    refine XS.iloadN X52.here hx rfl (hb hby at_81) rfl ?_
    refine st55 _ ?_
    refine XS.astore X55.here hx rfl (hb hby at_85) rfl rfl (l' := #[.val (.int pI1), .val (.int pI2), .val (.int pI3), .val (.int pI4), .val (.int ((pI1 &&& (2147483647 : Int32)) % (5 : Int32))), .val (.int ((pI2 &&& (3 : Int32)) % (3 : Int32))), .val (.int ((((pI2.toUInt32 >>> ((2 : Int32) &&& 31).toUInt32).toInt32) &&& (3 : Int32)) % (3 : Int32))), .val (.ref bR5), .val (.ref bR14), .val (.ref bR23), .val (.ref bR41), .val .null, .unset, .unset, .unset, .unset, .unset]) rfl ?_
    show oS p e below T55 m 87 #[.val (.int pI1), .val (.int pI2), .val (.int pI3), .val (.int pI4), .val (.int ((pI1 &&& (2147483647 : Int32)) % (5 : Int32))), .val (.int ((pI2 &&& (3 : Int32)) % (3 : Int32))), .val (.int ((((pI2.toUInt32 >>> ((2 : Int32) &&& 31).toUInt32).toInt32) &&& (3 : Int32)) % (3 : Int32))), .val (.ref bR5), .val (.ref bR14), .val (.ref bR23), .val (.ref bR41), .val .null, .unset, .unset, .unset, .unset, .unset] [] _
    refine XS.iload X55.here hx rfl (hb hby at_87) rfl ?_
    refine XS.iloadN X55.here hx rfl (hb hby at_89) rfl ?_
    refine XS.bipush X55.here hx rfl (hb hby at_90) ?_
    refine XS.iushr X55.here hx rfl (hb hby at_92) rfl ?_
    show oS p e below T55 m 93 #[.val (.int pI1), .val (.int pI2), .val (.int pI3), .val (.int pI4), .val (.int ((pI1 &&& (2147483647 : Int32)) % (5 : Int32))), .val (.int ((pI2 &&& (3 : Int32)) % (3 : Int32))), .val (.int ((((pI2.toUInt32 >>> ((2 : Int32) &&& 31).toUInt32).toInt32) &&& (3 : Int32)) % (3 : Int32))), .val (.ref bR5), .val (.ref bR14), .val (.ref bR23), .val (.ref bR41), .val .null, .unset, .unset, .unset, .unset, .unset] [(.int ((pI4.toUInt32 >>> ((8 : Int32) &&& 31).toUInt32).toInt32)), (.int ((((pI2.toUInt32 >>> ((2 : Int32) &&& 31).toUInt32).toInt32) &&& (3 : Int32)) % (3 : Int32)))] _
    refine st56 _ ?_
    refine XS.astore X56.here hx rfl (hb hby at_96) rfl rfl (l' := #[.val (.int pI1), .val (.int pI2), .val (.int pI3), .val (.int pI4), .val (.int ((pI1 &&& (2147483647 : Int32)) % (5 : Int32))), .val (.int ((pI2 &&& (3 : Int32)) % (3 : Int32))), .val (.int ((((pI2.toUInt32 >>> ((2 : Int32) &&& 31).toUInt32).toInt32) &&& (3 : Int32)) % (3 : Int32))), .val (.ref bR5), .val (.ref bR14), .val (.ref bR23), .val (.ref bR41), .val .null, .val .null, .unset, .unset, .unset, .unset]) rfl ?_
    refine st57 _ ?_
    refine XS.dup X57.here hx rfl (hb hby at_101) rfl rfl ?_
    show oS p e below T57 m 102 #[.val (.int pI1), .val (.int pI2), .val (.int pI3), .val (.int pI4), .val (.int ((pI1 &&& (2147483647 : Int32)) % (5 : Int32))), .val (.int ((pI2 &&& (3 : Int32)) % (3 : Int32))), .val (.int ((((pI2.toUInt32 >>> ((2 : Int32) &&& 31).toUInt32).toInt32) &&& (3 : Int32)) % (3 : Int32))), .val (.ref bR5), .val (.ref bR14), .val (.ref bR23), .val (.ref bR41), .val .null, .val .null, .unset, .unset, .unset, .unset] [(.ref bR57), (.ref bR57)] _
    refine XS.iload X57.here hx rfl (hb hby at_102) rfl ?_
    refine st105 _ ?_
    refine XS.aload X105.here hx rfl (hb hby at_107) rfl rfl ?_
    refine XS.aload X105.here hx rfl (hb hby at_109) rfl rfl ?_
    show oS p e below T105 m 111 #[.val (.int pI1), .val (.int pI2), .val (.int pI3), .val (.int pI4), .val (.int ((pI1 &&& (2147483647 : Int32)) % (5 : Int32))), .val (.int ((pI2 &&& (3 : Int32)) % (3 : Int32))), .val (.int ((((pI2.toUInt32 >>> ((2 : Int32) &&& 31).toUInt32).toInt32) &&& (3 : Int32)) % (3 : Int32))), .val (.ref bR5), .val (.ref bR14), .val (.ref bR23), .val (.ref bR41), .val .null, .val .null, .unset, .unset, .unset, .unset] [(.ref bR41), (.ref bR23), (.ref bR105_0), (.ref bR57), (.ref bR57)] _
    refine XS.aload X105.here hx rfl (hb hby at_111) rfl rfl ?_
    refine XS.aload X105.here hx rfl (hb hby at_113) rfl rfl ?_
    refine st115.trans ?_
    refine XS.astore X115.here hx rfl (hb hby at_118) rfl rfl (l' := #[.val (.int pI1), .val (.int pI2), .val (.int pI3), .val (.int pI4), .val (.int ((pI1 &&& (2147483647 : Int32)) % (5 : Int32))), .val (.int ((pI2 &&& (3 : Int32)) % (3 : Int32))), .val (.int ((((pI2.toUInt32 >>> ((2 : Int32) &&& 31).toUInt32).toInt32) &&& (3 : Int32)) % (3 : Int32))), .val (.ref bR5), .val (.ref bR14), .val (.ref bR23), .val (.ref bR41), .val .null, .val .null, .val (.ref bR57), .unset, .unset, .unset]) rfl ?_
    show oS p e below T115 m 120 #[.val (.int pI1), .val (.int pI2), .val (.int pI3), .val (.int pI4), .val (.int ((pI1 &&& (2147483647 : Int32)) % (5 : Int32))), .val (.int ((pI2 &&& (3 : Int32)) % (3 : Int32))), .val (.int ((((pI2.toUInt32 >>> ((2 : Int32) &&& 31).toUInt32).toInt32) &&& (3 : Int32)) % (3 : Int32))), .val (.ref bR5), .val (.ref bR14), .val (.ref bR23), .val (.ref bR41), .val .null, .val .null, .val (.ref bR57), .unset, .unset, .unset] [] _
    refine XS.iload X115.here hx rfl (hb hby at_120) rfl ?_
    refine XS.ifYes X115.here hx rfl (pc0 := 122) (pc' := 129) rfl (hb hby at_122) rfl ((if0 _ _).trans (teq hc82).1) (by decide) (by decide) ?_
    refine XS.iconst X115.here hx rfl (hb hby at_129) ?_
    refine XS.istore X115.here hx rfl (hb hby at_130) rfl (l' := #[.val (.int pI1), .val (.int pI2), .val (.int pI3), .val (.int pI4), .val (.int ((pI1 &&& (2147483647 : Int32)) % (5 : Int32))), .val (.int ((pI2 &&& (3 : Int32)) % (3 : Int32))), .val (.int ((((pI2.toUInt32 >>> ((2 : Int32) &&& 31).toUInt32).toInt32) &&& (3 : Int32)) % (3 : Int32))), .val (.ref bR5), .val (.ref bR14), .val (.ref bR23), .val (.ref bR41), .val .null, .val .null, .val (.ref bR57), .val (.int 0), .unset, .unset]) rfl ?_
    show oS p e below T115 m 132 #[.val (.int pI1), .val (.int pI2), .val (.int pI3), .val (.int pI4), .val (.int ((pI1 &&& (2147483647 : Int32)) % (5 : Int32))), .val (.int ((pI2 &&& (3 : Int32)) % (3 : Int32))), .val (.int ((((pI2.toUInt32 >>> ((2 : Int32) &&& 31).toUInt32).toInt32) &&& (3 : Int32)) % (3 : Int32))), .val (.ref bR5), .val (.ref bR14), .val (.ref bR23), .val (.ref bR41), .val .null, .val .null, .val (.ref bR57), .val (.int 0), .unset, .unset] [] _
    refine XS.iload X115.here hx rfl (hb hby at_132) rfl ?_
    refine XS.ifYes X115.here hx rfl (pc0 := 134) (pc' := 141) rfl (hb hby at_134) rfl ((if0 _ _).trans (teq hc93).1) (by decide) (by decide) ?_
    refine XS.iconst X115.here hx rfl (hb hby at_141) ?_
    refine XS.istore X115.here hx rfl (hb hby at_142) rfl (l' := #[.val (.int pI1), .val (.int pI2), .val (.int pI3), .val (.int pI4), .val (.int ((pI1 &&& (2147483647 : Int32)) % (5 : Int32))), .val (.int ((pI2 &&& (3 : Int32)) % (3 : Int32))), .val (.int ((((pI2.toUInt32 >>> ((2 : Int32) &&& 31).toUInt32).toInt32) &&& (3 : Int32)) % (3 : Int32))), .val (.ref bR5), .val (.ref bR14), .val (.ref bR23), .val (.ref bR41), .val .null, .val .null, .val (.ref bR57), .val (.int 0), .val (.int 0), .unset]) rfl ?_
    show oS p e below T115 m 144 #[.val (.int pI1), .val (.int pI2), .val (.int pI3), .val (.int pI4), .val (.int ((pI1 &&& (2147483647 : Int32)) % (5 : Int32))), .val (.int ((pI2 &&& (3 : Int32)) % (3 : Int32))), .val (.int ((((pI2.toUInt32 >>> ((2 : Int32) &&& 31).toUInt32).toInt32) &&& (3 : Int32)) % (3 : Int32))), .val (.ref bR5), .val (.ref bR14), .val (.ref bR23), .val (.ref bR41), .val .null, .val .null, .val (.ref bR57), .val (.int 0), .val (.int 0), .unset] [] _
    refine XS.iload X115.here hx rfl (hb hby at_144) rfl ?_
    refine XS.ifYes X115.here hx rfl (pc0 := 146) (pc' := 155) rfl (hb hby at_146) rfl ((if0 _ _).trans (teq (by decide : (0 : Int32) = (0 : Int32))).1) (by decide) (by decide) ?_
    refine XS.iload X115.here hx rfl (hb hby at_155) rfl ?_
    refine XS.ifYes X115.here hx rfl (pc0 := 157) (pc' := 166) rfl (hb hby at_157) rfl ((if0 _ _).trans (teq (by decide : (0 : Int32) = (0 : Int32))).1) (by decide) (by decide) ?_
    show oS p e below T115 m 166 #[.val (.int pI1), .val (.int pI2), .val (.int pI3), .val (.int pI4), .val (.int ((pI1 &&& (2147483647 : Int32)) % (5 : Int32))), .val (.int ((pI2 &&& (3 : Int32)) % (3 : Int32))), .val (.int ((((pI2.toUInt32 >>> ((2 : Int32) &&& 31).toUInt32).toInt32) &&& (3 : Int32)) % (3 : Int32))), .val (.ref bR5), .val (.ref bR14), .val (.ref bR23), .val (.ref bR41), .val .null, .val .null, .val (.ref bR57), .val (.int 0), .val (.int 0), .unset] [] _
    refine XS.iconst X115.here hx rfl (hb hby at_166) ?_
    refine XS.istore X115.here hx rfl (hb hby at_167) rfl (l' := #[.val (.int pI1), .val (.int pI2), .val (.int pI3), .val (.int pI4), .val (.int ((pI1 &&& (2147483647 : Int32)) % (5 : Int32))), .val (.int ((pI2 &&& (3 : Int32)) % (3 : Int32))), .val (.int ((((pI2.toUInt32 >>> ((2 : Int32) &&& 31).toUInt32).toInt32) &&& (3 : Int32)) % (3 : Int32))), .val (.ref bR5), .val (.ref bR14), .val (.ref bR23), .val (.ref bR41), .val .null, .val .null, .val (.ref bR57), .val (.int 0), .val (.int 0), .val (.int 0)]) rfl ?_
    refine XS.aload X115.here hx rfl (hb hby at_169) rfl rfl ?_
    refine st118.trans ?_
    show oS p e below T118 m 174 #[.val (.int pI1), .val (.int pI2), .val (.int pI3), .val (.int pI4), .val (.int ((pI1 &&& (2147483647 : Int32)) % (5 : Int32))), .val (.int ((pI2 &&& (3 : Int32)) % (3 : Int32))), .val (.int ((((pI2.toUInt32 >>> ((2 : Int32) &&& 31).toUInt32).toInt32) &&& (3 : Int32)) % (3 : Int32))), .val (.ref bR5), .val (.ref bR14), .val (.ref bR23), .val (.ref bR41), .val .null, .val .null, .val (.ref bR57), .val (.int 0), .val (.int 0), .val (.int 0)] [(.int 0)] _
    refine XS.iload X118.here hx rfl (hb hby at_174) rfl ?_
    refine XS.icmpNo X118.here hx rfl (hb hby at_176) rfl (teq (by decide : (0 : Int32) = (0 : Int32))).2 ?_
    refine XS.iconst X118.here hx rfl (hb hby at_179) ?_
    refine XS.goto X118.here hx rfl (pc0 := 180) (pc' := 184) rfl (hb hby at_180) (by decide) (by decide) ?_
    show oS p e below T118 m 184 #[.val (.int pI1), .val (.int pI2), .val (.int pI3), .val (.int pI4), .val (.int ((pI1 &&& (2147483647 : Int32)) % (5 : Int32))), .val (.int ((pI2 &&& (3 : Int32)) % (3 : Int32))), .val (.int ((((pI2.toUInt32 >>> ((2 : Int32) &&& 31).toUInt32).toInt32) &&& (3 : Int32)) % (3 : Int32))), .val (.ref bR5), .val (.ref bR14), .val (.ref bR23), .val (.ref bR41), .val .null, .val .null, .val (.ref bR57), .val (.int 0), .val (.int 0), .val (.int 0)] [(.int 1)] _
    exact retN X118 hx (t := .boolean) Bd.returns (by simp) (hb hby at_184) hr
  · show QlawRNN Z pI1 pI2 pI3 pI4 pI31 pR65 pR75 pR85 pR95 h0 n0 _ T118.heap _
    rw [e118]
    exact ⟨rfl, N118⟩
theorem ef_lawRNR (m : MethodId) (pI1 : Int32) (pI2 : Int32) (pI3 : Int32) (pI4 : Int32) : entryFrame m #[(.int pI1), (.int pI2), (.int pI3), (.int pI4)] maxLocals = mkF m 0 #[.val (.int pI1), .val (.int pI2), .val (.int pI3), .val (.int pI4), .unset, .unset, .unset, .unset, .unset, .unset, .unset, .unset, .unset, .unset, .unset, .unset, .unset] [] := by first | (simp [entryFrame, mkF, argsToLocals, Value.category, maxLocals]; done) | rfl
def QlawRNR (Z : State) (pI1 : Int32) (pI2 : Int32) (pI3 : Int32) (pI4 : Int32) (pI31 : Int32) (pR68 : Addr) (pR79 : Addr) (pR90 : Addr) (pR101 : Addr) (h0 : Heap) (n0 : Nat) (v : Option Value) (h : Heap) (L : List Loc) : Prop := v = some (.int 1) ∧ Fr n0 L
set_option maxRecDepth 65536 in
set_option maxHeartbeats 40000000 in
theorem lawRNR (l : Launch) (Z : State) (a0 : Array Value) (hw : ∀ d ∈ tables_1, d.before a0 Z = true) (ws : List Jvm.Cond) (pI1 : Int32) (pI2 : Int32) (pI3 : Int32) (pI4 : Int32) (pI31 : Int32) (pR68 : Addr) (pR79 : Addr) (pR90 : Addr) (pR101 : Addr) (h0 : Heap) (n0 : Nat) (Z0 : n0 ≤ h0.size) (S_String_COMPACT_STRINGS : Sta Z h0 "java/lang/String" "COMPACT_STRINGS" "Z" (.int pI31)) (S_LabResults_Comparator_LESS : Sta Z h0 "com/example/pergamena/pergamena/build/LabResults$Comparator" "LESS" "Lcom/example/pergamena/pergamena/build/LabResults$Comparator;" (.ref pR68)) (S_LabResults_Comparator_AT_MOST : Sta Z h0 "com/example/pergamena/pergamena/build/LabResults$Comparator" "AT_MOST" "Lcom/example/pergamena/pergamena/build/LabResults$Comparator;" (.ref pR79)) (S_LabResults_Comparator_GREATER : Sta Z h0 "com/example/pergamena/pergamena/build/LabResults$Comparator" "GREATER" "Lcom/example/pergamena/pergamena/build/LabResults$Comparator;" (.ref pR90)) (S_LabResults_Comparator_AT_LEAST : Sta Z h0 "com/example/pergamena/pergamena/build/LabResults$Comparator" "AT_LEAST" "Lcom/example/pergamena/pergamena/build/LabResults$Comparator;" (.ref pR101)) (hc63 : ¬ (pI31 = (0 : Int32))) (hc82 : ((pI2 &&& (3 : Int32)) % (3 : Int32)) = (0 : Int32)) (hc93 : ¬ (((((pI2.toUInt32 >>> ((2 : Int32) &&& 31).toUInt32).toInt32) &&& (3 : Int32)) % (3 : Int32)) = (0 : Int32))) (hc104 : ¬ (((pI1 &&& (2147483647 : Int32)) % (5 : Int32)) = (0 : Int32))) :
    oMW l x code maxLocals ret ws room_1 #[(.int pI1), (.int pI2), (.int pI3), (.int pI4)] Z h0 (QlawRNR Z pI1 pI2 pI3 pI4 pI31 pR68 pR79 pR90 pR101 h0 n0) := by
  refine MetFree.of_bodySF (plainFor_of_name pn_2) hisR ?_
  intro p e s m args below meth c s₁ Bd hml0 hP hK
  obtain ⟨rfl, hZ, hh⟩ := hP
  have hx := Bd.exec
  have hby := Bd.bytes
  have hml : c.maxLocals = 17 := hml0
  have hown : s.vm.findClass "com/example/pergamena/pergamena/build/QuantityHasRangePinLaw" = some m.cls := findClass_of_methodNamed Bd.named
  have hnm := (name_of_methodNamed Bd.named Bd.method).1
  have X0 : Stand p l e room_1 s m #[(.int pI1), (.int pI2), (.int pI3), (.int pI4)] below meth c s₁ [] 0 0 := Stand.of_body Bd
  have e0 : s₁.heap = h0 := by rw [← hh, Bd.state]; rfl
  have N0 := Fr.nil n0
  have X0 : Stand p l e room_1 (s.setVm s.vm) m #[(.int pI1), (.int pI2), (.int pI3), (.int pI4)] below meth c s₁ [] 0 0 := X0
  have hS0 : s.Since s.vm 0 := (State.WarmedH.refl s).since 0
  have hk0 : 0 ≤ h0.size := Nat.zero_le _
  have hZ : Z.Warmed39 (s.setVm s.vm).vm := hZ
  have hown : (s.setVm s.vm).vm.findClass "com/example/pergamena/pergamena/build/QuantityHasRangePinLaw" = some m.cls := hown
  obtain ⟨T5, h5, k5, X5, e5, E5, A5, st5⟩ := newP X0 hx hZ (ow hw 1 rfl) e0 (g := (mkF m 25 #[.val (.int pI1), .val (.int pI2), .val (.int pI3), .val (.int pI4), .val (.int ((pI1 &&& (2147483647 : Int32)) % (5 : Int32))), .val (.int ((pI2 &&& (3 : Int32)) % (3 : Int32))), .val (.int ((((pI2.toUInt32 >>> ((2 : Int32) &&& 31).toUInt32).toInt32) &&& (3 : Int32)) % (3 : Int32))), .unset, .unset, .unset, .unset, .unset, .unset, .unset, .unset, .unset, .unset] [(.int 1)])) rfl (hb hby at_25) rfl (by decide) (cap := 1) (by decide) (by decide) (by decide) (by decide)
  obtain ⟨bR5, g5⟩ : ∃ z, z = h0.size := ⟨_, rfl⟩
  rw [← g5] at A5 st5
  have Z7 : n0 ≤ h5.size := (Nat.le_trans Z0 E5.1)
  have V5 : Arv Z h5 bR5 k5 .char (1 : Int32) [(.int 0)] (.int (0 : Int32)) := (Arv.new A5 (by decide)).pad (pad_rep [] (.int (0 : Int32)) 1)
  have g8 : n0 ≤ bR5 := Nat.le_trans Z0 (Nat.le_of_eq g5.symm)
  obtain ⟨clq9, Arq9, Akq9, Asq9, Anq9, Ahq9, Agq9⟩ := id V5
  have hin10 : ¬ ((0 : Int32) < 0 ∨ clq9.slots.size ≤ ((0 : Int32)).toNatClampNeg) := inb_of Asq9 ⟨by decide, by decide⟩
  obtain ⟨T11, h11, X11, e11, W11, st11⟩ := stC X5 hx hZ e5 Arq9 (j := (0 : Int32)) hin10 (g := (mkF m 38 #[.val (.int pI1), .val (.int pI2), .val (.int pI3), .val (.int pI4), .val (.int ((pI1 &&& (2147483647 : Int32)) % (5 : Int32))), .val (.int ((pI2 &&& (3 : Int32)) % (3 : Int32))), .val (.int ((((pI2.toUInt32 >>> ((2 : Int32) &&& 31).toUInt32).toInt32) &&& (3 : Int32)) % (3 : Int32))), .val (.ref bR5), .unset, .unset, .unset, .unset, .unset, .unset, .unset, .unset, .unset] [(.int ((pI3 &&& (255 : Int32)).toUInt32.toUInt16.toUInt32.toInt32)), (.int 0), (.ref bR5)])) rfl rfl (hb hby at_38)
  rw [own_narc (own_c255 _)] at W11
  have Z13 : n0 ≤ h11.size := (Nat.le_trans Z7 (Keep.of_wr W11).1)
  have N11 := Fr.snoc X11 N0 g8
  obtain ⟨Lh11, X11, N11⟩ := own_hide X11 N11
  have V11 : Arv Z h11 bR5 k5 .char (1 : Int32) [(.int ((pI3 &&& (255 : Int32)).toUInt32.toUInt16.toUInt32.toInt32))] (.int (0 : Int32)) := Arv.set Arq9 Akq9 Asq9 Anq9 Ahq9 Agq9 (own_fitc (own_c255 _)) W11 0 rfl (Nat.le_of_ble_eq_true rfl)
  obtain ⟨T14, h14, k14, X14, e14, E14, A14, st14⟩ := newP X11 hx hZ (ow hw 1 rfl) e11 (g := (mkF m 40 #[.val (.int pI1), .val (.int pI2), .val (.int pI3), .val (.int pI4), .val (.int ((pI1 &&& (2147483647 : Int32)) % (5 : Int32))), .val (.int ((pI2 &&& (3 : Int32)) % (3 : Int32))), .val (.int ((((pI2.toUInt32 >>> ((2 : Int32) &&& 31).toUInt32).toInt32) &&& (3 : Int32)) % (3 : Int32))), .val (.ref bR5), .unset, .unset, .unset, .unset, .unset, .unset, .unset, .unset, .unset] [(.int 1)])) rfl (hb hby at_40) rfl (by decide) (cap := 1) (by decide) (by decide) (by decide) (by decide)
  obtain ⟨bR14, g14⟩ : ∃ z, z = h11.size := ⟨_, rfl⟩
  rw [← g14] at A14 st14
  have Z16 : n0 ≤ h14.size := (Nat.le_trans Z13 E14.1)
  have V14 : Arv Z h14 bR14 k14 .char (1 : Int32) [(.int 0)] (.int (0 : Int32)) := (Arv.new A14 (by decide)).pad (pad_rep [] (.int (0 : Int32)) 1)
  have g17 : n0 ≤ bR14 := Nat.le_trans Z13 (Nat.le_of_eq g14.symm)
  obtain ⟨clq18, Arq18, Akq18, Asq18, Anq18, Ahq18, Agq18⟩ := id V14
  have hin19 : ¬ ((0 : Int32) < 0 ∨ clq18.slots.size ≤ ((0 : Int32)).toNatClampNeg) := inb_of Asq18 ⟨by decide, by decide⟩
  obtain ⟨T20, h20, X20, e20, W20, st20⟩ := stC X14 hx hZ e14 Arq18 (j := (0 : Int32)) hin19 (g := (mkF m 56 #[.val (.int pI1), .val (.int pI2), .val (.int pI3), .val (.int pI4), .val (.int ((pI1 &&& (2147483647 : Int32)) % (5 : Int32))), .val (.int ((pI2 &&& (3 : Int32)) % (3 : Int32))), .val (.int ((((pI2.toUInt32 >>> ((2 : Int32) &&& 31).toUInt32).toInt32) &&& (3 : Int32)) % (3 : Int32))), .val (.ref bR5), .val (.ref bR14), .unset, .unset, .unset, .unset, .unset, .unset, .unset, .unset] [(.int ((((pI3.toUInt32 >>> ((8 : Int32) &&& 31).toUInt32).toInt32) &&& (255 : Int32)).toUInt32.toUInt16.toUInt32.toInt32)), (.int 0), (.ref bR14)])) rfl rfl (hb hby at_56)
  rw [own_narc (own_c255 _)] at W20
  have Z22 : n0 ≤ h20.size := (Nat.le_trans Z16 (Keep.of_wr W20).1)
  have N20 := Fr.snoc X20 N11 g17
  obtain ⟨Lh20, X20, N20⟩ := own_hide X20 N20
  have V20 : Arv Z h20 bR14 k14 .char (1 : Int32) [(.int ((((pI3.toUInt32 >>> ((8 : Int32) &&& 31).toUInt32).toInt32) &&& (255 : Int32)).toUInt32.toUInt16.toUInt32.toInt32))] (.int (0 : Int32)) := Arv.set Arq18 Akq18 Asq18 Anq18 Ahq18 Agq18 (own_fitc (own_c255 _)) W20 0 rfl (Nat.le_of_ble_eq_true rfl)
  obtain ⟨T23, h23, X23, e23, E23, A23, D23, U23, st23⟩ := newO X20 hx hZ hown (ow hw 2 rfl) (ow hw 3 rfl) (ow hw 4 rfl) e20 (g := (mkF m 57 #[.val (.int pI1), .val (.int pI2), .val (.int pI3), .val (.int pI4), .val (.int ((pI1 &&& (2147483647 : Int32)) % (5 : Int32))), .val (.int ((pI2 &&& (3 : Int32)) % (3 : Int32))), .val (.int ((((pI2.toUInt32 >>> ((2 : Int32) &&& 31).toUInt32).toInt32) &&& (3 : Int32)) % (3 : Int32))), .val (.ref bR5), .val (.ref bR14), .unset, .unset, .unset, .unset, .unset, .unset, .unset, .unset] [])) rfl (hb hby at_57) (by decide) (by decide)
  obtain ⟨bR23, g23⟩ : ∃ z, z = h20.size := ⟨_, rfl⟩
  rw [← g23] at A23 D23 U23 st23
  have Z25 : n0 ≤ h23.size := (Nat.le_trans Z22 E23.1)
  have F26 : Fld Z h23 bR23 "java/lang/String" "coder" "B" (.int 0) := D23 (Or.inr (ow hw 28 rfl)) (ty := .byte) (by decide)
  have F27 : Fld Z h23 bR23 "java/lang/String" "value" "[B" .null := D23 (Or.inr (ow hw 30 rfl)) (ty := (.array .byte)) (by decide)
  have c28 : Arv Z h14 bR5 k5 .char (1 : Int32) [(.int ((pI3 &&& (255 : Int32)).toUInt32.toUInt16.toUInt32.toInt32))] (.int (0 : Int32)) := V11.ext E14
  have c29 : Arv Z h20 bR5 k5 .char (1 : Int32) [(.int ((pI3 &&& (255 : Int32)).toUInt32.toUInt16.toUInt32.toInt32))] (.int (0 : Int32)) := c28.other W20 (Nat.ne_of_lt (Nat.lt_of_lt_of_le V11.lt (Nat.le_of_eq g14.symm)))
  have c30 : Arv Z h23 bR5 k5 .char (1 : Int32) [(.int ((pI3 &&& (255 : Int32)).toUInt32.toUInt16.toUInt32.toInt32))] (.int (0 : Int32)) := c29.ext E23
  have c32 : Sta Z h5 "java/lang/String" "COMPACT_STRINGS" "Z" (.int pI31) := S_String_COMPACT_STRINGS.ext E5
  have c33 : Sta Z h11 "java/lang/String" "COMPACT_STRINGS" "Z" (.int pI31) := c32.wr W11
  have c34 : Sta Z h14 "java/lang/String" "COMPACT_STRINGS" "Z" (.int pI31) := c33.ext E14
  have c35 : Sta Z h20 "java/lang/String" "COMPACT_STRINGS" "Z" (.int pI31) := c34.wr W20
  have c36 : Sta Z h23 "java/lang/String" "COMPACT_STRINGS" "Z" (.int pI31) := c35.ext E23
  have g37 : n0 ≤ bR23 := Nat.le_trans Z22 (Nat.le_of_eq g23.symm)
  obtain ⟨_, _, ⟨T38, L38, k38, n38⟩, -, X38, ⟨Lc38, hQ38, l38, y38, z38⟩, st38⟩ := X23.specialBack hx (y := yN4) rfl hown (mvT hZ (ow hw 5 rfl)) (mvT hZ (ow hw 6 rfl)) (mvT hZ (ow hw 7 rfl)) (by decide) (backOf (W := 1) (str l Z a0 hw [] bR23 bR5 ((pI3 &&& (255 : Int32)).toUInt32.toUInt16.toUInt32.toInt32) k5 pI31 h23 n0 Z25 c30 c36 A23 F26 g37 F27 hc63 (own_l255 _ : ¬ ((255 : Int32) < ((pI3 &&& (255 : Int32)).toUInt32.toUInt16.toUInt32.toInt32)))) hZ (ow hw 7 rfl) (ow hw 4 rfl) (by decide) (by decide)) (g := (mkF m 63 #[.val (.int pI1), .val (.int pI2), .val (.int pI3), .val (.int pI4), .val (.int ((pI1 &&& (2147483647 : Int32)) % (5 : Int32))), .val (.int ((pI2 &&& (3 : Int32)) % (3 : Int32))), .val (.int ((((pI2.toUInt32 >>> ((2 : Int32) &&& 31).toUInt32).toInt32) &&& (3 : Int32)) % (3 : Int32))), .val (.ref bR5), .val (.ref bR14), .unset, .unset, .unset, .unset, .unset, .unset, .unset, .unset] [(.ref bR5), (.ref bR23), (.ref bR23)])) rfl (by rw [hml]; rfl) (Steps.refl _) (a := bR23) (argsL := [(.ref bR5)]) (rest := [(.ref bR23)]) (lenOf pd_4 rfl) rfl (Nat.le_refl _) (hb hby at_63) (fun _ _ => ⟨rfl, e23, (by decide : 3 + 1 ≤ _), (by decide : 6 + 1 ≤ _)⟩)
  dsimp only [Pt.U, Pt.locs, Pt.cells, Pt.slots] at X38 l38 y38 z38 st38 hQ38
  subst l38 y38 z38
  obtain ⟨bR38_0, kK38_0, rfl, Nq38, Kq38, sz38_0, x38_0, x38_1, x38_2, x38_3⟩ := hQ38
  have N38 := Fr.app N20 Nq38
  obtain ⟨Lh38, X38, N38⟩ := own_hide X38 N38
  have Z40 : n0 ≤ T38.heap.size := (Nat.le_trans Z25 Kq38.1)
  obtain ⟨T41, h41, X41, e41, E41, A41, D41, U41, st41⟩ := newO X38 hx hZ hown (ow hw 2 rfl) (ow hw 3 rfl) (ow hw 4 rfl) rfl (g := (mkF m 68 #[.val (.int pI1), .val (.int pI2), .val (.int pI3), .val (.int pI4), .val (.int ((pI1 &&& (2147483647 : Int32)) % (5 : Int32))), .val (.int ((pI2 &&& (3 : Int32)) % (3 : Int32))), .val (.int ((((pI2.toUInt32 >>> ((2 : Int32) &&& 31).toUInt32).toInt32) &&& (3 : Int32)) % (3 : Int32))), .val (.ref bR5), .val (.ref bR14), .val (.ref bR23), .unset, .unset, .unset, .unset, .unset, .unset, .unset] [])) rfl (hb hby at_68) (by decide) (by decide)
  obtain ⟨bR41, g41⟩ : ∃ z, z = T38.heap.size := ⟨_, rfl⟩
  rw [← g41] at A41 D41 U41 st41
  have Z43 : n0 ≤ h41.size := (Nat.le_trans Z40 E41.1)
  have F44 : Fld Z h41 bR41 "java/lang/String" "coder" "B" (.int 0) := D41 (Or.inr (ow hw 28 rfl)) (ty := .byte) (by decide)
  have F45 : Fld Z h41 bR41 "java/lang/String" "value" "[B" .null := D41 (Or.inr (ow hw 30 rfl)) (ty := (.array .byte)) (by decide)
  have c46 : Arv Z h23 bR14 k14 .char (1 : Int32) [(.int ((((pI3.toUInt32 >>> ((8 : Int32) &&& 31).toUInt32).toInt32) &&& (255 : Int32)).toUInt32.toUInt16.toUInt32.toInt32))] (.int (0 : Int32)) := V20.ext E23
  have c47 : Arv Z T38.heap bR14 k14 .char (1 : Int32) [(.int ((((pI3.toUInt32 >>> ((8 : Int32) &&& 31).toUInt32).toInt32) &&& (255 : Int32)).toUInt32.toUInt16.toUInt32.toInt32))] (.int (0 : Int32)) := c46.keep Kq38 (ninS (Nat.ne_of_lt (Nat.lt_of_lt_of_le V20.lt (Nat.le_of_eq g23.symm))) nin0)
  have c48 : Arv Z h41 bR14 k14 .char (1 : Int32) [(.int ((((pI3.toUInt32 >>> ((8 : Int32) &&& 31).toUInt32).toInt32) &&& (255 : Int32)).toUInt32.toUInt16.toUInt32.toInt32))] (.int (0 : Int32)) := c47.ext E41
  have c49 : Sta Z T38.heap "java/lang/String" "COMPACT_STRINGS" "Z" (.int pI31) := own_sta_keep c36 Kq38 (allS (own_plain_E A23) all0)
  have c50 : Sta Z h41 "java/lang/String" "COMPACT_STRINGS" "Z" (.int pI31) := c49.ext E41
  have g51 : n0 ≤ bR41 := Nat.le_trans Z40 (Nat.le_of_eq g41.symm)
  obtain ⟨_, _, ⟨T52, L52, k52, n52⟩, -, X52, ⟨Lc52, hQ52, l52, y52, z52⟩, st52⟩ := X41.specialBack hx (y := yN4) rfl hown (mvT hZ (ow hw 5 rfl)) (mvT hZ (ow hw 6 rfl)) (mvT hZ (ow hw 7 rfl)) (by decide) (backOf (W := 1) (str l Z a0 hw [] bR41 bR14 ((((pI3.toUInt32 >>> ((8 : Int32) &&& 31).toUInt32).toInt32) &&& (255 : Int32)).toUInt32.toUInt16.toUInt32.toInt32) k14 pI31 h41 n0 Z43 c48 c50 A41 F44 g51 F45 hc63 (own_l255 _ : ¬ ((255 : Int32) < ((((pI3.toUInt32 >>> ((8 : Int32) &&& 31).toUInt32).toInt32) &&& (255 : Int32)).toUInt32.toUInt16.toUInt32.toInt32)))) hZ (ow hw 7 rfl) (ow hw 4 rfl) (by decide) (by decide)) (g := (mkF m 74 #[.val (.int pI1), .val (.int pI2), .val (.int pI3), .val (.int pI4), .val (.int ((pI1 &&& (2147483647 : Int32)) % (5 : Int32))), .val (.int ((pI2 &&& (3 : Int32)) % (3 : Int32))), .val (.int ((((pI2.toUInt32 >>> ((2 : Int32) &&& 31).toUInt32).toInt32) &&& (3 : Int32)) % (3 : Int32))), .val (.ref bR5), .val (.ref bR14), .val (.ref bR23), .unset, .unset, .unset, .unset, .unset, .unset, .unset] [(.ref bR14), (.ref bR41), (.ref bR41)])) rfl (by rw [hml]; rfl) (Steps.refl _) (a := bR41) (argsL := [(.ref bR14)]) (rest := [(.ref bR41)]) (lenOf pd_4 rfl) rfl (Nat.le_refl _) (hb hby at_74) (fun _ _ => ⟨rfl, e41, (by decide : 5 + 1 ≤ _), (by decide : 11 + 1 ≤ _)⟩)
  dsimp only [Pt.U, Pt.locs, Pt.cells, Pt.slots] at X52 l52 y52 z52 st52 hQ52
  subst l52 y52 z52
  obtain ⟨bR52_0, kK52_0, rfl, Nq52, Kq52, sz52_0, x52_0, x52_1, x52_2, x52_3⟩ := hQ52
  have N52 := Fr.app N38 Nq52
  obtain ⟨Lh52, X52, N52⟩ := own_hide X52 N52
  have Z54 : n0 ≤ T52.heap.size := (Nat.le_trans Z43 Kq52.1)
  obtain ⟨_, _, ⟨T55, L55, k55, n55⟩, -, X55, ⟨Lc55, hQ55, l55, y55, z55⟩, st55⟩ := Jvm.LawKit.callS X52 hx (y := yN5) hown (mvT hZ (ow hw 31 rfl)) (mvT hZ (ow hw 32 rfl)) (mvT hZ (ow hw 33 rfl)) (mvT hZ (ow hw 34 rfl)) (by decide) (backOf (W := 0) (endN l Z a0 hw [] ((pI2 &&& (3 : Int32)) % (3 : Int32)) pI4 T52.heap n0 Z54 hc82) hZ (ow hw 34 rfl) (ow hw 33 rfl) (by decide) (by decide)) (g := (mkF m 82 #[.val (.int pI1), .val (.int pI2), .val (.int pI3), .val (.int pI4), .val (.int ((pI1 &&& (2147483647 : Int32)) % (5 : Int32))), .val (.int ((pI2 &&& (3 : Int32)) % (3 : Int32))), .val (.int ((((pI2.toUInt32 >>> ((2 : Int32) &&& 31).toUInt32).toInt32) &&& (3 : Int32)) % (3 : Int32))), .val (.ref bR5), .val (.ref bR14), .val (.ref bR23), .val (.ref bR41), .unset, .unset, .unset, .unset, .unset, .unset] [(.int pI4), (.int ((pI2 &&& (3 : Int32)) % (3 : Int32)))])) rfl (by rw [hml]; rfl) (argsL := [(.int ((pI2 &&& (3 : Int32)) % (3 : Int32))), (.int pI4)]) (rest := []) (lenOf pd_6 rfl) rfl (Nat.le_refl _) (hb hby at_82) (fun _ _ => ⟨rfl, rfl, (by decide : 6 + 0 ≤ _), (by decide : 12 + 0 ≤ _)⟩)
  dsimp only [Pt.U, Pt.locs, Pt.cells, Pt.slots] at X55 l55 y55 z55 st55 hQ55
  subst l55 y55 z55
  obtain ⟨rfl, Nq55, e55⟩ := hQ55
  have N55 := Fr.app N52 Nq55
  have c56 : Sta Z T52.heap "java/lang/String" "COMPACT_STRINGS" "Z" (.int pI31) := own_sta_keep c50 Kq52 (allS (own_plain_E A41) all0)
  obtain ⟨_, _, ⟨T57, L57, k57, n57⟩, -, X57, hs257, hg257, ⟨Lc57, hQ57, l57, y57, z57⟩, st57⟩ := callSS X55 hx (y := yN5) hown (mvT hZ (ow hw 31 rfl)) (mvT hZ (ow hw 32 rfl)) (mvT hZ (ow hw 33 rfl)) (mvT hZ (ow hw 34 rfl)) (by decide) (backOfS (s := s.setVm s.vm) (W := 0) (endR l Z a0 hw [] ((((pI2.toUInt32 >>> ((2 : Int32) &&& 31).toUInt32).toInt32) &&& (3 : Int32)) % (3 : Int32)) ((pI4.toUInt32 >>> ((8 : Int32) &&& 31).toUInt32).toInt32) pI31 T52.heap n0 Z54 c56 hc93 hc63) hZ (ow hw 34 rfl) (ow hw 33 rfl) (by decide) (by decide)) (g := (mkF m 93 #[.val (.int pI1), .val (.int pI2), .val (.int pI3), .val (.int pI4), .val (.int ((pI1 &&& (2147483647 : Int32)) % (5 : Int32))), .val (.int ((pI2 &&& (3 : Int32)) % (3 : Int32))), .val (.int ((((pI2.toUInt32 >>> ((2 : Int32) &&& 31).toUInt32).toInt32) &&& (3 : Int32)) % (3 : Int32))), .val (.ref bR5), .val (.ref bR14), .val (.ref bR23), .val (.ref bR41), .val .null, .unset, .unset, .unset, .unset, .unset] [(.int ((pI4.toUInt32 >>> ((8 : Int32) &&& 31).toUInt32).toInt32)), (.int ((((pI2.toUInt32 >>> ((2 : Int32) &&& 31).toUInt32).toInt32) &&& (3 : Int32)) % (3 : Int32)))])) rfl (by rw [hml]; rfl) (argsL := [(.int ((((pI2.toUInt32 >>> ((2 : Int32) &&& 31).toUInt32).toInt32) &&& (3 : Int32)) % (3 : Int32))), (.int ((pI4.toUInt32 >>> ((8 : Int32) &&& 31).toUInt32).toInt32))]) (rest := []) (lenOf pd_6 rfl) rfl (Nat.le_refl _) (hb hby at_93) (fun _ _ => ⟨rfl, e55, (by decide : 6 + 3 ≤ _), (by decide : 12 + 6 ≤ _)⟩)
  dsimp only [Pt.U, Pt.locs, Pt.cells, Pt.slots] at X57 l57 y57 z57 st57 hQ57 hs257 hg257
  subst l57 y57 z57
  have X57 := own_refold X57
  have hS57 := foldS hS0 (by rw [e55]; exact (Nat.le_trans (Nat.le_trans (Nat.le_trans (Nat.le_trans (Nat.le_trans (Nat.le_trans (Nat.le_trans (Nat.le_trans hk0 E5.1) (Keep.of_wr W11).1) E14.1) (Keep.of_wr W20).1) E23.1) Kq38.1) E41.1) Kq52.1)) hs257 hg257
  have hk57 : T57.heap.size ≤ T57.heap.size := Nat.le_refl _
  have hZ57 : Z.Warmed39 (s.setVm T57.vm).vm := State.Warmed39.trans (t := s.setVm s.vm) hZ hs257.1
  have ho57 : (s.setVm T57.vm).vm.findClass "com/example/pergamena/pergamena/build/QuantityHasRangePinLaw" = some m.cls := by rw [show (s.setVm T57.vm).vm = T57.vm from rfl, hs257.1.alike.findClass]; exact hown
  obtain ⟨bR57_0, rfl, Nq57, Kq57⟩ := hQ57
  have N57 := Fr.app N55 Nq57
  obtain ⟨Lh57, X57, N57⟩ := own_hide X57 N57
  have Z59 : n0 ≤ T57.heap.size := (Nat.le_trans Z54 Kq57.1)
  obtain ⟨T60, h60, X60, e60, E60, A60, D60, U60, st60⟩ := newO X57 hx hZ57 ho57 (ow hw 35 rfl) (ow hw 36 rfl) (ow hw 37 rfl) rfl (g := (mkF m 98 #[.val (.int pI1), .val (.int pI2), .val (.int pI3), .val (.int pI4), .val (.int ((pI1 &&& (2147483647 : Int32)) % (5 : Int32))), .val (.int ((pI2 &&& (3 : Int32)) % (3 : Int32))), .val (.int ((((pI2.toUInt32 >>> ((2 : Int32) &&& 31).toUInt32).toInt32) &&& (3 : Int32)) % (3 : Int32))), .val (.ref bR5), .val (.ref bR14), .val (.ref bR23), .val (.ref bR41), .val .null, .val (.ref bR57_0), .unset, .unset, .unset, .unset] [])) rfl (hb hby at_98) (by decide) (by decide)
  obtain ⟨bR60, g60⟩ : ∃ z, z = T57.heap.size := ⟨_, rfl⟩
  rw [← g60] at A60 D60 U60 st60
  have Z62 : n0 ≤ h60.size := (Nat.le_trans Z59 E60.1)
  have F63 : Fld Z h60 bR60 "com/example/pergamena/pergamena/build/LabResults$Quantity" "comparator" "Lcom/example/pergamena/pergamena/build/LabResults$Comparator;" .null := D60 (Or.inr (ow hw 51 rfl)) (ty := (.object "com/example/pergamena/pergamena/build/LabResults$Comparator")) (by decide)
  have F64 : Fld Z h60 bR60 "com/example/pergamena/pergamena/build/LabResults$Quantity" "number" "Ljava/lang/String;" .null := D60 (Or.inr (ow hw 53 rfl)) (ty := (.object "java/lang/String")) (by decide)
  have F65 : Fld Z h60 bR60 "com/example/pergamena/pergamena/build/LabResults$Quantity" "unit" "Ljava/lang/String;" .null := D60 (Or.inr (ow hw 55 rfl)) (ty := (.object "java/lang/String")) (by decide)
  have F66 : Fld Z h60 bR60 "com/example/pergamena/pergamena/build/LabResults$Quantity" "low" "Ljava/lang/String;" .null := D60 (Or.inr (ow hw 57 rfl)) (ty := (.object "java/lang/String")) (by decide)
  have F67 : Fld Z h60 bR60 "com/example/pergamena/pergamena/build/LabResults$Quantity" "high" "Ljava/lang/String;" .null := D60 (Or.inr (ow hw 59 rfl)) (ty := (.object "java/lang/String")) (by decide)
  have c69 : Sta Z h5 "com/example/pergamena/pergamena/build/LabResults$Comparator" "LESS" "Lcom/example/pergamena/pergamena/build/LabResults$Comparator;" (.ref pR68) := S_LabResults_Comparator_LESS.ext E5
  have c70 : Sta Z h11 "com/example/pergamena/pergamena/build/LabResults$Comparator" "LESS" "Lcom/example/pergamena/pergamena/build/LabResults$Comparator;" (.ref pR68) := c69.wr W11
  have c71 : Sta Z h14 "com/example/pergamena/pergamena/build/LabResults$Comparator" "LESS" "Lcom/example/pergamena/pergamena/build/LabResults$Comparator;" (.ref pR68) := c70.ext E14
  have c72 : Sta Z h20 "com/example/pergamena/pergamena/build/LabResults$Comparator" "LESS" "Lcom/example/pergamena/pergamena/build/LabResults$Comparator;" (.ref pR68) := c71.wr W20
  have c73 : Sta Z h23 "com/example/pergamena/pergamena/build/LabResults$Comparator" "LESS" "Lcom/example/pergamena/pergamena/build/LabResults$Comparator;" (.ref pR68) := c72.ext E23
  have c74 : Sta Z T38.heap "com/example/pergamena/pergamena/build/LabResults$Comparator" "LESS" "Lcom/example/pergamena/pergamena/build/LabResults$Comparator;" (.ref pR68) := own_sta_keep c73 Kq38 (allS (own_plain_E A23) all0)
  have c75 : Sta Z h41 "com/example/pergamena/pergamena/build/LabResults$Comparator" "LESS" "Lcom/example/pergamena/pergamena/build/LabResults$Comparator;" (.ref pR68) := c74.ext E41
  have c76 : Sta Z T52.heap "com/example/pergamena/pergamena/build/LabResults$Comparator" "LESS" "Lcom/example/pergamena/pergamena/build/LabResults$Comparator;" (.ref pR68) := own_sta_keep c75 Kq52 (allS (own_plain_E A41) all0)
  have c77 : Sta Z T57.heap "com/example/pergamena/pergamena/build/LabResults$Comparator" "LESS" "Lcom/example/pergamena/pergamena/build/LabResults$Comparator;" (.ref pR68) := own_sta_keep c76 Kq57 all0
  have c78 : Sta Z h60 "com/example/pergamena/pergamena/build/LabResults$Comparator" "LESS" "Lcom/example/pergamena/pergamena/build/LabResults$Comparator;" (.ref pR68) := c77.ext E60
  have c80 : Sta Z h5 "com/example/pergamena/pergamena/build/LabResults$Comparator" "AT_MOST" "Lcom/example/pergamena/pergamena/build/LabResults$Comparator;" (.ref pR79) := S_LabResults_Comparator_AT_MOST.ext E5
  have c81 : Sta Z h11 "com/example/pergamena/pergamena/build/LabResults$Comparator" "AT_MOST" "Lcom/example/pergamena/pergamena/build/LabResults$Comparator;" (.ref pR79) := c80.wr W11
  have c82 : Sta Z h14 "com/example/pergamena/pergamena/build/LabResults$Comparator" "AT_MOST" "Lcom/example/pergamena/pergamena/build/LabResults$Comparator;" (.ref pR79) := c81.ext E14
  have c83 : Sta Z h20 "com/example/pergamena/pergamena/build/LabResults$Comparator" "AT_MOST" "Lcom/example/pergamena/pergamena/build/LabResults$Comparator;" (.ref pR79) := c82.wr W20
  have c84 : Sta Z h23 "com/example/pergamena/pergamena/build/LabResults$Comparator" "AT_MOST" "Lcom/example/pergamena/pergamena/build/LabResults$Comparator;" (.ref pR79) := c83.ext E23
  have c85 : Sta Z T38.heap "com/example/pergamena/pergamena/build/LabResults$Comparator" "AT_MOST" "Lcom/example/pergamena/pergamena/build/LabResults$Comparator;" (.ref pR79) := own_sta_keep c84 Kq38 (allS (own_plain_E A23) all0)
  have c86 : Sta Z h41 "com/example/pergamena/pergamena/build/LabResults$Comparator" "AT_MOST" "Lcom/example/pergamena/pergamena/build/LabResults$Comparator;" (.ref pR79) := c85.ext E41
  have c87 : Sta Z T52.heap "com/example/pergamena/pergamena/build/LabResults$Comparator" "AT_MOST" "Lcom/example/pergamena/pergamena/build/LabResults$Comparator;" (.ref pR79) := own_sta_keep c86 Kq52 (allS (own_plain_E A41) all0)
  have c88 : Sta Z T57.heap "com/example/pergamena/pergamena/build/LabResults$Comparator" "AT_MOST" "Lcom/example/pergamena/pergamena/build/LabResults$Comparator;" (.ref pR79) := own_sta_keep c87 Kq57 all0
  have c89 : Sta Z h60 "com/example/pergamena/pergamena/build/LabResults$Comparator" "AT_MOST" "Lcom/example/pergamena/pergamena/build/LabResults$Comparator;" (.ref pR79) := c88.ext E60
  have c91 : Sta Z h5 "com/example/pergamena/pergamena/build/LabResults$Comparator" "GREATER" "Lcom/example/pergamena/pergamena/build/LabResults$Comparator;" (.ref pR90) := S_LabResults_Comparator_GREATER.ext E5
  have c92 : Sta Z h11 "com/example/pergamena/pergamena/build/LabResults$Comparator" "GREATER" "Lcom/example/pergamena/pergamena/build/LabResults$Comparator;" (.ref pR90) := c91.wr W11
  have c93 : Sta Z h14 "com/example/pergamena/pergamena/build/LabResults$Comparator" "GREATER" "Lcom/example/pergamena/pergamena/build/LabResults$Comparator;" (.ref pR90) := c92.ext E14
  have c94 : Sta Z h20 "com/example/pergamena/pergamena/build/LabResults$Comparator" "GREATER" "Lcom/example/pergamena/pergamena/build/LabResults$Comparator;" (.ref pR90) := c93.wr W20
  have c95 : Sta Z h23 "com/example/pergamena/pergamena/build/LabResults$Comparator" "GREATER" "Lcom/example/pergamena/pergamena/build/LabResults$Comparator;" (.ref pR90) := c94.ext E23
  have c96 : Sta Z T38.heap "com/example/pergamena/pergamena/build/LabResults$Comparator" "GREATER" "Lcom/example/pergamena/pergamena/build/LabResults$Comparator;" (.ref pR90) := own_sta_keep c95 Kq38 (allS (own_plain_E A23) all0)
  have c97 : Sta Z h41 "com/example/pergamena/pergamena/build/LabResults$Comparator" "GREATER" "Lcom/example/pergamena/pergamena/build/LabResults$Comparator;" (.ref pR90) := c96.ext E41
  have c98 : Sta Z T52.heap "com/example/pergamena/pergamena/build/LabResults$Comparator" "GREATER" "Lcom/example/pergamena/pergamena/build/LabResults$Comparator;" (.ref pR90) := own_sta_keep c97 Kq52 (allS (own_plain_E A41) all0)
  have c99 : Sta Z T57.heap "com/example/pergamena/pergamena/build/LabResults$Comparator" "GREATER" "Lcom/example/pergamena/pergamena/build/LabResults$Comparator;" (.ref pR90) := own_sta_keep c98 Kq57 all0
  have c100 : Sta Z h60 "com/example/pergamena/pergamena/build/LabResults$Comparator" "GREATER" "Lcom/example/pergamena/pergamena/build/LabResults$Comparator;" (.ref pR90) := c99.ext E60
  have c102 : Sta Z h5 "com/example/pergamena/pergamena/build/LabResults$Comparator" "AT_LEAST" "Lcom/example/pergamena/pergamena/build/LabResults$Comparator;" (.ref pR101) := S_LabResults_Comparator_AT_LEAST.ext E5
  have c103 : Sta Z h11 "com/example/pergamena/pergamena/build/LabResults$Comparator" "AT_LEAST" "Lcom/example/pergamena/pergamena/build/LabResults$Comparator;" (.ref pR101) := c102.wr W11
  have c104 : Sta Z h14 "com/example/pergamena/pergamena/build/LabResults$Comparator" "AT_LEAST" "Lcom/example/pergamena/pergamena/build/LabResults$Comparator;" (.ref pR101) := c103.ext E14
  have c105 : Sta Z h20 "com/example/pergamena/pergamena/build/LabResults$Comparator" "AT_LEAST" "Lcom/example/pergamena/pergamena/build/LabResults$Comparator;" (.ref pR101) := c104.wr W20
  have c106 : Sta Z h23 "com/example/pergamena/pergamena/build/LabResults$Comparator" "AT_LEAST" "Lcom/example/pergamena/pergamena/build/LabResults$Comparator;" (.ref pR101) := c105.ext E23
  have c107 : Sta Z T38.heap "com/example/pergamena/pergamena/build/LabResults$Comparator" "AT_LEAST" "Lcom/example/pergamena/pergamena/build/LabResults$Comparator;" (.ref pR101) := own_sta_keep c106 Kq38 (allS (own_plain_E A23) all0)
  have c108 : Sta Z h41 "com/example/pergamena/pergamena/build/LabResults$Comparator" "AT_LEAST" "Lcom/example/pergamena/pergamena/build/LabResults$Comparator;" (.ref pR101) := c107.ext E41
  have c109 : Sta Z T52.heap "com/example/pergamena/pergamena/build/LabResults$Comparator" "AT_LEAST" "Lcom/example/pergamena/pergamena/build/LabResults$Comparator;" (.ref pR101) := own_sta_keep c108 Kq52 (allS (own_plain_E A41) all0)
  have c110 : Sta Z T57.heap "com/example/pergamena/pergamena/build/LabResults$Comparator" "AT_LEAST" "Lcom/example/pergamena/pergamena/build/LabResults$Comparator;" (.ref pR101) := own_sta_keep c109 Kq57 all0
  have c111 : Sta Z h60 "com/example/pergamena/pergamena/build/LabResults$Comparator" "AT_LEAST" "Lcom/example/pergamena/pergamena/build/LabResults$Comparator;" (.ref pR101) := c110.ext E60
  obtain ⟨_, _, ⟨T112, L112, k112, n112⟩, -, X112, ⟨Lc112, hQ112, l112, y112, z112⟩, st112⟩ := Jvm.LawKit.callS X60 hx (y := yN6) ho57 (mvT hZ57 (ow hw 38 rfl)) (mvT hZ57 (ow hw 39 rfl)) (mvT hZ57 (ow hw 33 rfl)) (mvT hZ57 (ow hw 40 rfl)) (by decide) (backOf (W := 2) (comR l Z a0 hw [] ((pI1 &&& (2147483647 : Int32)) % (5 : Int32)) pR68 pR79 pR90 pR101 h60 n0 Z62 c78 c89 c100 c111 hc104) hZ57 (ow hw 40 rfl) (ow hw 33 rfl) (by decide) (by decide)) (g := (mkF m 104 #[.val (.int pI1), .val (.int pI2), .val (.int pI3), .val (.int pI4), .val (.int ((pI1 &&& (2147483647 : Int32)) % (5 : Int32))), .val (.int ((pI2 &&& (3 : Int32)) % (3 : Int32))), .val (.int ((((pI2.toUInt32 >>> ((2 : Int32) &&& 31).toUInt32).toInt32) &&& (3 : Int32)) % (3 : Int32))), .val (.ref bR5), .val (.ref bR14), .val (.ref bR23), .val (.ref bR41), .val .null, .val (.ref bR57_0), .unset, .unset, .unset, .unset] [(.int ((pI1 &&& (2147483647 : Int32)) % (5 : Int32))), (.ref bR60), (.ref bR60)])) rfl (by rw [hml]; rfl) (argsL := [(.int ((pI1 &&& (2147483647 : Int32)) % (5 : Int32)))]) (rest := [(.ref bR60), (.ref bR60)]) (lenOf pd_7 rfl) rfl (Nat.le_refl _) (hb hby at_104) (fun _ _ => ⟨rfl, e60, (by decide : 10 + 0 ≤ _), (by decide : 23 + 0 ≤ _)⟩)
  dsimp only [Pt.U, Pt.locs, Pt.cells, Pt.slots] at X112 l112 y112 z112 st112 hQ112
  subst l112 y112 z112
  obtain ⟨bR112_0, rfl, Nq112, Kq112⟩ := hQ112
  have N112 := Fr.app N57 Nq112
  obtain ⟨Lh112, X112, N112⟩ := own_hide X112 N112
  have Z114 : n0 ≤ T112.heap.size := (Nat.le_trans Z62 Kq112.1)
  have c115 : Exa Z T112.heap bR60 "com/example/pergamena/pergamena/build/LabResults$Quantity" := A60.keep Kq112
  have c116 : Fld Z T112.heap bR60 "com/example/pergamena/pergamena/build/LabResults$Quantity" "comparator" "Lcom/example/pergamena/pergamena/build/LabResults$Comparator;" .null := F63.keep Kq112 nin0
  have g117 : n0 ≤ bR60 := Nat.le_trans Z59 (Nat.le_of_eq g60.symm)
  have c118 : Fld Z T112.heap bR60 "com/example/pergamena/pergamena/build/LabResults$Quantity" "number" "Ljava/lang/String;" .null := F64.keep Kq112 nin0
  have c119 : Fld Z T112.heap bR60 "com/example/pergamena/pergamena/build/LabResults$Quantity" "unit" "Ljava/lang/String;" .null := F65.keep Kq112 nin0
  have c120 : Fld Z T112.heap bR60 "com/example/pergamena/pergamena/build/LabResults$Quantity" "low" "Ljava/lang/String;" .null := F66.keep Kq112 nin0
  have c121 : Fld Z T112.heap bR60 "com/example/pergamena/pergamena/build/LabResults$Quantity" "high" "Ljava/lang/String;" .null := F67.keep Kq112 nin0
  obtain ⟨_, _, ⟨T122, L122, k122, n122⟩, -, X122, ⟨Lc122, hQ122, l122, y122, z122⟩, st122⟩ := X112.specialBack hx (y := yN8) rfl ho57 (mvT hZ57 (ow hw 41 rfl)) (mvT hZ57 (ow hw 42 rfl)) (mvT hZ57 (ow hw 43 rfl)) (by decide) (backOf (W := 1) (qRNR l Z a0 hw [] bR60 bR112_0 bR23 bR41 bR57_0 T112.heap n0 Z114 c115 c116 g117 c118 c119 c120 c121) hZ57 (ow hw 43 rfl) (ow hw 37 rfl) (by decide) (by decide)) (g := (mkF m 115 #[.val (.int pI1), .val (.int pI2), .val (.int pI3), .val (.int pI4), .val (.int ((pI1 &&& (2147483647 : Int32)) % (5 : Int32))), .val (.int ((pI2 &&& (3 : Int32)) % (3 : Int32))), .val (.int ((((pI2.toUInt32 >>> ((2 : Int32) &&& 31).toUInt32).toInt32) &&& (3 : Int32)) % (3 : Int32))), .val (.ref bR5), .val (.ref bR14), .val (.ref bR23), .val (.ref bR41), .val .null, .val (.ref bR57_0), .unset, .unset, .unset, .unset] [(.ref bR57_0), .null, (.ref bR41), (.ref bR23), (.ref bR112_0), (.ref bR60), (.ref bR60)])) rfl (by rw [hml]; rfl) (Steps.refl _) (a := bR60) (argsL := [(.ref bR112_0), (.ref bR23), (.ref bR41), .null, (.ref bR57_0)]) (rest := [(.ref bR60)]) (lenOf pd_8 rfl) rfl (Nat.le_refl _) (hb hby at_115) (fun _ _ => ⟨rfl, rfl, (by decide : 10 + 0 ≤ _), (by decide : 23 + 0 ≤ _)⟩)
  dsimp only [Pt.U, Pt.locs, Pt.cells, Pt.slots] at X122 l122 y122 z122 st122 hQ122
  subst l122 y122 z122
  obtain ⟨rfl, Nq122, Kq122, x122_0, x122_1, x122_2, x122_3, x122_4, x122_5⟩ := hQ122
  have N122 := Fr.app N112 Nq122
  obtain ⟨Lh122, X122, N122⟩ := own_hide X122 N122
  have Z124 : n0 ≤ T122.heap.size := (Nat.le_trans Z114 Kq122.1)
  obtain ⟨cq125, kq125, q125a, q125b, q125c⟩ := isOf hZ57 rfl x122_0
  obtain ⟨_, _, ⟨T125, L125, k125, n125⟩, -, X125, ⟨Lc125, hQ125, l125, y125, z125⟩, st125⟩ := X122.virtualBack hx (y := yN9) (z := yN9) ho57 (mvT hZ57 (ow hw 60 rfl)) (mvT hZ57 (ow hw 61 rfl)) (notFace_of_selects (args := #[]) (mvT hZ57 (ow hw 63 rfl))) (mvT hZ57 (ow hw 63 rfl)) (mvT hZ57 (ow hw 62 rfl)) (by decide) (backOf (W := 0) (hrNR l Z a0 hw [] bR60 bR57_0 T122.heap n0 Z124 x122_4 x122_5) hZ57 (ow hw 64 rfl) (ow hw 37 rfl) (by decide) (by decide)) q125a q125c (g := (mkF m 171 #[.val (.int pI1), .val (.int pI2), .val (.int pI3), .val (.int pI4), .val (.int ((pI1 &&& (2147483647 : Int32)) % (5 : Int32))), .val (.int ((pI2 &&& (3 : Int32)) % (3 : Int32))), .val (.int ((((pI2.toUInt32 >>> ((2 : Int32) &&& 31).toUInt32).toInt32) &&& (3 : Int32)) % (3 : Int32))), .val (.ref bR5), .val (.ref bR14), .val (.ref bR23), .val (.ref bR41), .val .null, .val (.ref bR57_0), .val (.ref bR60), .val (.int 0), .val (.int 1), .val (.int 1)] [(.ref bR60)])) rfl (by rw [hml]; rfl) (Steps.refl _) (argsL := []) (rest := []) (lenOf pd_9 rfl) rfl (Nat.le_refl _) (hb hby at_171) (fun _ _ => ⟨rfl, rfl, (by decide : 10 + 0 ≤ _), (by decide : 23 + 0 ≤ _)⟩)
  dsimp only [Pt.U, Pt.locs, Pt.cells, Pt.slots] at X125 l125 y125 z125 st125 hQ125
  subst l125 y125 z125
  obtain ⟨rfl, Nq125, e125⟩ := hQ125
  have N125 := Fr.app N122 Nq125
  obtain ⟨fs, hr, hrun, hended, hE⟩ := X125.leaveW hS57 (by rw [e125]; exact (Nat.le_trans (Nat.le_trans (Nat.le_trans hk57 E60.1) Kq112.1) Kq122.1)) (v := some (.int 1)) (fun h => by rw [Bd.returns] at h; cases h)
  refine ⟨_, _, castTop (ef_lawRNR m pI1 pI2 pI3 pI4) ?_, hrun, hended, _, _, rfl, ?_, hE.1, hE.2.1, hE.2.2.1, hE.2.2.2.mono (by decide) (by decide)⟩
  · show oS p e below s₁ m 0 #[.val (.int pI1), .val (.int pI2), .val (.int pI3), .val (.int pI4), .unset, .unset, .unset, .unset, .unset, .unset, .unset, .unset, .unset, .unset, .unset, .unset, .unset] [] _
    refine XS.iloadN X0.here hx rfl (hb hby at_0) rfl ?_
    refine X0.ldcInt hx hown (mvT hZ (ow hw 0 rfl)) (g := (mkF m 1 #[.val (.int pI1), .val (.int pI2), .val (.int pI3), .val (.int pI4), .unset, .unset, .unset, .unset, .unset, .unset, .unset, .unset, .unset, .unset, .unset, .unset, .unset] [(.int pI1)])) rfl (hb hby at_1) _ ?_
    refine XS.iand X0.here hx rfl (hb hby at_3) rfl ?_
    refine XS.iconst X0.here hx rfl (hb hby at_4) ?_
    show Steps p.tables e below (s₁.setTop (mkF m 5 #[.val (.int pI1), .val (.int pI2), .val (.int pI3), .val (.int pI4), .unset, .unset, .unset, .unset, .unset, .unset, .unset, .unset, .unset, .unset, .unset, .unset, .unset] [(.int 5), (.int (pI1 &&& (2147483647 : Int32)))])) _
    refine iremM (g := (mkF m 5 #[.val (.int pI1), .val (.int pI2), .val (.int pI3), .val (.int pI4), .unset, .unset, .unset, .unset, .unset, .unset, .unset, .unset, .unset, .unset, .unset, .unset, .unset] [(.int 5), (.int (pI1 &&& (2147483647 : Int32)))])) X0 hx rfl (hb hby at_5) rfl (by decide) ?_
    refine XS.istore X0.here hx rfl (hb hby at_6) rfl (l' := #[.val (.int pI1), .val (.int pI2), .val (.int pI3), .val (.int pI4), .val (.int ((pI1 &&& (2147483647 : Int32)) % (5 : Int32))), .unset, .unset, .unset, .unset, .unset, .unset, .unset, .unset, .unset, .unset, .unset, .unset]) rfl ?_
    refine XS.iloadN X0.here hx rfl (hb hby at_8) rfl ?_
    refine XS.iconst X0.here hx rfl (hb hby at_9) ?_
    show oS p e below s₁ m 10 #[.val (.int pI1), .val (.int pI2), .val (.int pI3), .val (.int pI4), .val (.int ((pI1 &&& (2147483647 : Int32)) % (5 : Int32))), .unset, .unset, .unset, .unset, .unset, .unset, .unset, .unset, .unset, .unset, .unset, .unset] [(.int 3), (.int pI2)] _
    refine XS.iand X0.here hx rfl (hb hby at_10) rfl ?_
    refine XS.iconst X0.here hx rfl (hb hby at_11) ?_
    show Steps p.tables e below (s₁.setTop (mkF m 12 #[.val (.int pI1), .val (.int pI2), .val (.int pI3), .val (.int pI4), .val (.int ((pI1 &&& (2147483647 : Int32)) % (5 : Int32))), .unset, .unset, .unset, .unset, .unset, .unset, .unset, .unset, .unset, .unset, .unset, .unset] [(.int 3), (.int (pI2 &&& (3 : Int32)))])) _
    refine iremM (g := (mkF m 12 #[.val (.int pI1), .val (.int pI2), .val (.int pI3), .val (.int pI4), .val (.int ((pI1 &&& (2147483647 : Int32)) % (5 : Int32))), .unset, .unset, .unset, .unset, .unset, .unset, .unset, .unset, .unset, .unset, .unset, .unset] [(.int 3), (.int (pI2 &&& (3 : Int32)))])) X0 hx rfl (hb hby at_12) rfl (by decide) ?_
    refine XS.istore X0.here hx rfl (hb hby at_13) rfl (l' := #[.val (.int pI1), .val (.int pI2), .val (.int pI3), .val (.int pI4), .val (.int ((pI1 &&& (2147483647 : Int32)) % (5 : Int32))), .val (.int ((pI2 &&& (3 : Int32)) % (3 : Int32))), .unset, .unset, .unset, .unset, .unset, .unset, .unset, .unset, .unset, .unset, .unset]) rfl ?_
    show oS p e below s₁ m 15 #[.val (.int pI1), .val (.int pI2), .val (.int pI3), .val (.int pI4), .val (.int ((pI1 &&& (2147483647 : Int32)) % (5 : Int32))), .val (.int ((pI2 &&& (3 : Int32)) % (3 : Int32))), .unset, .unset, .unset, .unset, .unset, .unset, .unset, .unset, .unset, .unset, .unset] [] _
    refine XS.iloadN X0.here hx rfl (hb hby at_15) rfl ?_
    refine XS.iconst X0.here hx rfl (hb hby at_16) ?_
    refine XS.iushr X0.here hx rfl (hb hby at_17) rfl ?_
    refine XS.iconst X0.here hx rfl (hb hby at_18) ?_
    show oS p e below s₁ m 19 #[.val (.int pI1), .val (.int pI2), .val (.int pI3), .val (.int pI4), .val (.int ((pI1 &&& (2147483647 : Int32)) % (5 : Int32))), .val (.int ((pI2 &&& (3 : Int32)) % (3 : Int32))), .unset, .unset, .unset, .unset, .unset, .unset, .unset, .unset, .unset, .unset, .unset] [(.int 3), (.int ((pI2.toUInt32 >>> ((2 : Int32) &&& 31).toUInt32).toInt32))] _
    refine XS.iand X0.here hx rfl (hb hby at_19) rfl ?_
    refine XS.iconst X0.here hx rfl (hb hby at_20) ?_
    show Steps p.tables e below (s₁.setTop (mkF m 21 #[.val (.int pI1), .val (.int pI2), .val (.int pI3), .val (.int pI4), .val (.int ((pI1 &&& (2147483647 : Int32)) % (5 : Int32))), .val (.int ((pI2 &&& (3 : Int32)) % (3 : Int32))), .unset, .unset, .unset, .unset, .unset, .unset, .unset, .unset, .unset, .unset, .unset] [(.int 3), (.int (((pI2.toUInt32 >>> ((2 : Int32) &&& 31).toUInt32).toInt32) &&& (3 : Int32)))])) _
    refine iremM (g := (mkF m 21 #[.val (.int pI1), .val (.int pI2), .val (.int pI3), .val (.int pI4), .val (.int ((pI1 &&& (2147483647 : Int32)) % (5 : Int32))), .val (.int ((pI2 &&& (3 : Int32)) % (3 : Int32))), .unset, .unset, .unset, .unset, .unset, .unset, .unset, .unset, .unset, .unset, .unset] [(.int 3), (.int (((pI2.toUInt32 >>> ((2 : Int32) &&& 31).toUInt32).toInt32) &&& (3 : Int32)))])) X0 hx rfl (hb hby at_21) rfl (by decide) ?_
    refine XS.istore X0.here hx rfl (hb hby at_22) rfl (l' := #[.val (.int pI1), .val (.int pI2), .val (.int pI3), .val (.int pI4), .val (.int ((pI1 &&& (2147483647 : Int32)) % (5 : Int32))), .val (.int ((pI2 &&& (3 : Int32)) % (3 : Int32))), .val (.int ((((pI2.toUInt32 >>> ((2 : Int32) &&& 31).toUInt32).toInt32) &&& (3 : Int32)) % (3 : Int32))), .unset, .unset, .unset, .unset, .unset, .unset, .unset, .unset, .unset, .unset]) rfl ?_
    show oS p e below s₁ m 24 #[.val (.int pI1), .val (.int pI2), .val (.int pI3), .val (.int pI4), .val (.int ((pI1 &&& (2147483647 : Int32)) % (5 : Int32))), .val (.int ((pI2 &&& (3 : Int32)) % (3 : Int32))), .val (.int ((((pI2.toUInt32 >>> ((2 : Int32) &&& 31).toUInt32).toInt32) &&& (3 : Int32)) % (3 : Int32))), .unset, .unset, .unset, .unset, .unset, .unset, .unset, .unset, .unset, .unset] [] _
    refine XS.iconst X0.here hx rfl (hb hby at_24) ?_
    refine st5 _ ?_
    refine XS.astore X5.here hx rfl (hb hby at_27) rfl rfl (l' := #[.val (.int pI1), .val (.int pI2), .val (.int pI3), .val (.int pI4), .val (.int ((pI1 &&& (2147483647 : Int32)) % (5 : Int32))), .val (.int ((pI2 &&& (3 : Int32)) % (3 : Int32))), .val (.int ((((pI2.toUInt32 >>> ((2 : Int32) &&& 31).toUInt32).toInt32) &&& (3 : Int32)) % (3 : Int32))), .val (.ref bR5), .unset, .unset, .unset, .unset, .unset, .unset, .unset, .unset, .unset]) rfl ?_
    refine XS.aload X5.here hx rfl (hb hby at_29) rfl rfl ?_
    show oS p e below T5 m 31 #[.val (.int pI1), .val (.int pI2), .val (.int pI3), .val (.int pI4), .val (.int ((pI1 &&& (2147483647 : Int32)) % (5 : Int32))), .val (.int ((pI2 &&& (3 : Int32)) % (3 : Int32))), .val (.int ((((pI2.toUInt32 >>> ((2 : Int32) &&& 31).toUInt32).toInt32) &&& (3 : Int32)) % (3 : Int32))), .val (.ref bR5), .unset, .unset, .unset, .unset, .unset, .unset, .unset, .unset, .unset] [(.ref bR5)] _
    refine XS.iconst X5.here hx rfl (hb hby at_31) ?_
    refine XS.iloadN X5.here hx rfl (hb hby at_32) rfl ?_
    refine XS.sipush X5.here hx rfl (hb hby at_33) ?_
    refine XS.iand X5.here hx rfl (hb hby at_36) rfl ?_
    show oS p e below T5 m 37 #[.val (.int pI1), .val (.int pI2), .val (.int pI3), .val (.int pI4), .val (.int ((pI1 &&& (2147483647 : Int32)) % (5 : Int32))), .val (.int ((pI2 &&& (3 : Int32)) % (3 : Int32))), .val (.int ((((pI2.toUInt32 >>> ((2 : Int32) &&& 31).toUInt32).toInt32) &&& (3 : Int32)) % (3 : Int32))), .val (.ref bR5), .unset, .unset, .unset, .unset, .unset, .unset, .unset, .unset, .unset] [(.int (pI3 &&& (255 : Int32))), (.int 0), (.ref bR5)] _
    refine XS.i2c X5.here hx rfl (hb hby at_37) rfl ?_
    refine st11 _ ?_
    refine XS.iconst X11.here hx rfl (hb hby at_39) ?_
    refine st14 _ ?_
    show oS p e below T14 m 42 #[.val (.int pI1), .val (.int pI2), .val (.int pI3), .val (.int pI4), .val (.int ((pI1 &&& (2147483647 : Int32)) % (5 : Int32))), .val (.int ((pI2 &&& (3 : Int32)) % (3 : Int32))), .val (.int ((((pI2.toUInt32 >>> ((2 : Int32) &&& 31).toUInt32).toInt32) &&& (3 : Int32)) % (3 : Int32))), .val (.ref bR5), .unset, .unset, .unset, .unset, .unset, .unset, .unset, .unset, .unset] [(.ref bR14)] _
    refine XS.astore X14.here hx rfl (hb hby at_42) rfl rfl (l' := #[.val (.int pI1), .val (.int pI2), .val (.int pI3), .val (.int pI4), .val (.int ((pI1 &&& (2147483647 : Int32)) % (5 : Int32))), .val (.int ((pI2 &&& (3 : Int32)) % (3 : Int32))), .val (.int ((((pI2.toUInt32 >>> ((2 : Int32) &&& 31).toUInt32).toInt32) &&& (3 : Int32)) % (3 : Int32))), .val (.ref bR5), .val (.ref bR14), .unset, .unset, .unset, .unset, .unset, .unset, .unset, .unset]) rfl ?_
    refine XS.aload X14.here hx rfl (hb hby at_44) rfl rfl ?_
    refine XS.iconst X14.here hx rfl (hb hby at_46) ?_
    refine XS.iloadN X14.here hx rfl (hb hby at_47) rfl ?_
    show oS p e below T14 m 48 #[.val (.int pI1), .val (.int pI2), .val (.int pI3), .val (.int pI4), .val (.int ((pI1 &&& (2147483647 : Int32)) % (5 : Int32))), .val (.int ((pI2 &&& (3 : Int32)) % (3 : Int32))), .val (.int ((((pI2.toUInt32 >>> ((2 : Int32) &&& 31).toUInt32).toInt32) &&& (3 : Int32)) % (3 : Int32))), .val (.ref bR5), .val (.ref bR14), .unset, .unset, .unset, .unset, .unset, .unset, .unset, .unset] [(.int pI3), (.int 0), (.ref bR14)] _
    refine XS.bipush X14.here hx rfl (hb hby at_48) ?_
    refine XS.iushr X14.here hx rfl (hb hby at_50) rfl ?_
    refine XS.sipush X14.here hx rfl (hb hby at_51) ?_
    refine XS.iand X14.here hx rfl (hb hby at_54) rfl ?_
    show oS p e below T14 m 55 #[.val (.int pI1), .val (.int pI2), .val (.int pI3), .val (.int pI4), .val (.int ((pI1 &&& (2147483647 : Int32)) % (5 : Int32))), .val (.int ((pI2 &&& (3 : Int32)) % (3 : Int32))), .val (.int ((((pI2.toUInt32 >>> ((2 : Int32) &&& 31).toUInt32).toInt32) &&& (3 : Int32)) % (3 : Int32))), .val (.ref bR5), .val (.ref bR14), .unset, .unset, .unset, .unset, .unset, .unset, .unset, .unset] [(.int (((pI3.toUInt32 >>> ((8 : Int32) &&& 31).toUInt32).toInt32) &&& (255 : Int32))), (.int 0), (.ref bR14)] _
    refine XS.i2c X14.here hx rfl (hb hby at_55) rfl ?_
    refine st20 _ ?_
    refine st23 _ ?_
    refine XS.dup X23.here hx rfl (hb hby at_60) rfl rfl ?_
    show oS p e below T23 m 61 #[.val (.int pI1), .val (.int pI2), .val (.int pI3), .val (.int pI4), .val (.int ((pI1 &&& (2147483647 : Int32)) % (5 : Int32))), .val (.int ((pI2 &&& (3 : Int32)) % (3 : Int32))), .val (.int ((((pI2.toUInt32 >>> ((2 : Int32) &&& 31).toUInt32).toInt32) &&& (3 : Int32)) % (3 : Int32))), .val (.ref bR5), .val (.ref bR14), .unset, .unset, .unset, .unset, .unset, .unset, .unset, .unset] [(.ref bR23), (.ref bR23)] _
    refine XS.aload X23.here hx rfl (hb hby at_61) rfl rfl ?_
    refine st38.trans ?_
    refine XS.astore X38.here hx rfl (hb hby at_66) rfl rfl (l' := #[.val (.int pI1), .val (.int pI2), .val (.int pI3), .val (.int pI4), .val (.int ((pI1 &&& (2147483647 : Int32)) % (5 : Int32))), .val (.int ((pI2 &&& (3 : Int32)) % (3 : Int32))), .val (.int ((((pI2.toUInt32 >>> ((2 : Int32) &&& 31).toUInt32).toInt32) &&& (3 : Int32)) % (3 : Int32))), .val (.ref bR5), .val (.ref bR14), .val (.ref bR23), .unset, .unset, .unset, .unset, .unset, .unset, .unset]) rfl ?_
    refine st41 _ ?_
    show oS p e below T41 m 71 #[.val (.int pI1), .val (.int pI2), .val (.int pI3), .val (.int pI4), .val (.int ((pI1 &&& (2147483647 : Int32)) % (5 : Int32))), .val (.int ((pI2 &&& (3 : Int32)) % (3 : Int32))), .val (.int ((((pI2.toUInt32 >>> ((2 : Int32) &&& 31).toUInt32).toInt32) &&& (3 : Int32)) % (3 : Int32))), .val (.ref bR5), .val (.ref bR14), .val (.ref bR23), .unset, .unset, .unset, .unset, .unset, .unset, .unset] [(.ref bR41)] _
    refine XS.dup X41.here hx rfl (hb hby at_71) rfl rfl ?_
    refine XS.aload X41.here hx rfl (hb hby at_72) rfl rfl ?_
    refine st52.trans ?_
    refine XS.astore X52.here hx rfl (hb hby at_77) rfl rfl (l' := #[.val (.int pI1), .val (.int pI2), .val (.int pI3), .val (.int pI4), .val (.int ((pI1 &&& (2147483647 : Int32)) % (5 : Int32))), .val (.int ((pI2 &&& (3 : Int32)) % (3 : Int32))), .val (.int ((((pI2.toUInt32 >>> ((2 : Int32) &&& 31).toUInt32).toInt32) &&& (3 : Int32)) % (3 : Int32))), .val (.ref bR5), .val (.ref bR14), .val (.ref bR23), .val (.ref bR41), .unset, .unset, .unset, .unset, .unset, .unset]) rfl ?_
    show oS p e below T52 m 79 #[.val (.int pI1), .val (.int pI2), .val (.int pI3), .val (.int pI4), .val (.int ((pI1 &&& (2147483647 : Int32)) % (5 : Int32))), .val (.int ((pI2 &&& (3 : Int32)) % (3 : Int32))), .val (.int ((((pI2.toUInt32 >>> ((2 : Int32) &&& 31).toUInt32).toInt32) &&& (3 : Int32)) % (3 : Int32))), .val (.ref bR5), .val (.ref bR14), .val (.ref bR23), .val (.ref bR41), .unset, .unset, .unset, .unset, .unset, .unset] [] _
    refine XS.iload X52.here hx rfl (hb hby at_79) rfl ?_
    refine XS.iloadN X52.here hx rfl (hb hby at_81) rfl ?_
    refine st55 _ ?_
    refine XS.astore X55.here hx rfl (hb hby at_85) rfl rfl (l' := #[.val (.int pI1), .val (.int pI2), .val (.int pI3), .val (.int pI4), .val (.int ((pI1 &&& (2147483647 : Int32)) % (5 : Int32))), .val (.int ((pI2 &&& (3 : Int32)) % (3 : Int32))), .val (.int ((((pI2.toUInt32 >>> ((2 : Int32) &&& 31).toUInt32).toInt32) &&& (3 : Int32)) % (3 : Int32))), .val (.ref bR5), .val (.ref bR14), .val (.ref bR23), .val (.ref bR41), .val .null, .unset, .unset, .unset, .unset, .unset]) rfl ?_
    show oS p e below T55 m 87 #[.val (.int pI1), .val (.int pI2), .val (.int pI3), .val (.int pI4), .val (.int ((pI1 &&& (2147483647 : Int32)) % (5 : Int32))), .val (.int ((pI2 &&& (3 : Int32)) % (3 : Int32))), .val (.int ((((pI2.toUInt32 >>> ((2 : Int32) &&& 31).toUInt32).toInt32) &&& (3 : Int32)) % (3 : Int32))), .val (.ref bR5), .val (.ref bR14), .val (.ref bR23), .val (.ref bR41), .val .null, .unset, .unset, .unset, .unset, .unset] [] _
    refine XS.iload X55.here hx rfl (hb hby at_87) rfl ?_
    refine XS.iloadN X55.here hx rfl (hb hby at_89) rfl ?_
    refine XS.bipush X55.here hx rfl (hb hby at_90) ?_
    refine XS.iushr X55.here hx rfl (hb hby at_92) rfl ?_
    show oS p e below T55 m 93 #[.val (.int pI1), .val (.int pI2), .val (.int pI3), .val (.int pI4), .val (.int ((pI1 &&& (2147483647 : Int32)) % (5 : Int32))), .val (.int ((pI2 &&& (3 : Int32)) % (3 : Int32))), .val (.int ((((pI2.toUInt32 >>> ((2 : Int32) &&& 31).toUInt32).toInt32) &&& (3 : Int32)) % (3 : Int32))), .val (.ref bR5), .val (.ref bR14), .val (.ref bR23), .val (.ref bR41), .val .null, .unset, .unset, .unset, .unset, .unset] [(.int ((pI4.toUInt32 >>> ((8 : Int32) &&& 31).toUInt32).toInt32)), (.int ((((pI2.toUInt32 >>> ((2 : Int32) &&& 31).toUInt32).toInt32) &&& (3 : Int32)) % (3 : Int32)))] _
    refine st57.trans ?_
    refine XS.astore X57.here hx rfl (hb hby at_96) rfl rfl (l' := #[.val (.int pI1), .val (.int pI2), .val (.int pI3), .val (.int pI4), .val (.int ((pI1 &&& (2147483647 : Int32)) % (5 : Int32))), .val (.int ((pI2 &&& (3 : Int32)) % (3 : Int32))), .val (.int ((((pI2.toUInt32 >>> ((2 : Int32) &&& 31).toUInt32).toInt32) &&& (3 : Int32)) % (3 : Int32))), .val (.ref bR5), .val (.ref bR14), .val (.ref bR23), .val (.ref bR41), .val .null, .val (.ref bR57_0), .unset, .unset, .unset, .unset]) rfl ?_
    refine st60 _ ?_
    refine XS.dup X60.here hx rfl (hb hby at_101) rfl rfl ?_
    show oS p e below T60 m 102 #[.val (.int pI1), .val (.int pI2), .val (.int pI3), .val (.int pI4), .val (.int ((pI1 &&& (2147483647 : Int32)) % (5 : Int32))), .val (.int ((pI2 &&& (3 : Int32)) % (3 : Int32))), .val (.int ((((pI2.toUInt32 >>> ((2 : Int32) &&& 31).toUInt32).toInt32) &&& (3 : Int32)) % (3 : Int32))), .val (.ref bR5), .val (.ref bR14), .val (.ref bR23), .val (.ref bR41), .val .null, .val (.ref bR57_0), .unset, .unset, .unset, .unset] [(.ref bR60), (.ref bR60)] _
    refine XS.iload X60.here hx rfl (hb hby at_102) rfl ?_
    refine st112 _ ?_
    refine XS.aload X112.here hx rfl (hb hby at_107) rfl rfl ?_
    refine XS.aload X112.here hx rfl (hb hby at_109) rfl rfl ?_
    show oS p e below T112 m 111 #[.val (.int pI1), .val (.int pI2), .val (.int pI3), .val (.int pI4), .val (.int ((pI1 &&& (2147483647 : Int32)) % (5 : Int32))), .val (.int ((pI2 &&& (3 : Int32)) % (3 : Int32))), .val (.int ((((pI2.toUInt32 >>> ((2 : Int32) &&& 31).toUInt32).toInt32) &&& (3 : Int32)) % (3 : Int32))), .val (.ref bR5), .val (.ref bR14), .val (.ref bR23), .val (.ref bR41), .val .null, .val (.ref bR57_0), .unset, .unset, .unset, .unset] [(.ref bR41), (.ref bR23), (.ref bR112_0), (.ref bR60), (.ref bR60)] _
    refine XS.aload X112.here hx rfl (hb hby at_111) rfl rfl ?_
    refine XS.aload X112.here hx rfl (hb hby at_113) rfl rfl ?_
    refine st122.trans ?_
    refine XS.astore X122.here hx rfl (hb hby at_118) rfl rfl (l' := #[.val (.int pI1), .val (.int pI2), .val (.int pI3), .val (.int pI4), .val (.int ((pI1 &&& (2147483647 : Int32)) % (5 : Int32))), .val (.int ((pI2 &&& (3 : Int32)) % (3 : Int32))), .val (.int ((((pI2.toUInt32 >>> ((2 : Int32) &&& 31).toUInt32).toInt32) &&& (3 : Int32)) % (3 : Int32))), .val (.ref bR5), .val (.ref bR14), .val (.ref bR23), .val (.ref bR41), .val .null, .val (.ref bR57_0), .val (.ref bR60), .unset, .unset, .unset]) rfl ?_
    show oS p e below T122 m 120 #[.val (.int pI1), .val (.int pI2), .val (.int pI3), .val (.int pI4), .val (.int ((pI1 &&& (2147483647 : Int32)) % (5 : Int32))), .val (.int ((pI2 &&& (3 : Int32)) % (3 : Int32))), .val (.int ((((pI2.toUInt32 >>> ((2 : Int32) &&& 31).toUInt32).toInt32) &&& (3 : Int32)) % (3 : Int32))), .val (.ref bR5), .val (.ref bR14), .val (.ref bR23), .val (.ref bR41), .val .null, .val (.ref bR57_0), .val (.ref bR60), .unset, .unset, .unset] [] _
    refine XS.iload X122.here hx rfl (hb hby at_120) rfl ?_
    refine XS.ifYes X122.here hx rfl (pc0 := 122) (pc' := 129) rfl (hb hby at_122) rfl ((if0 _ _).trans (teq hc82).1) (by decide) (by decide) ?_
    refine XS.iconst X122.here hx rfl (hb hby at_129) ?_
    refine XS.istore X122.here hx rfl (hb hby at_130) rfl (l' := #[.val (.int pI1), .val (.int pI2), .val (.int pI3), .val (.int pI4), .val (.int ((pI1 &&& (2147483647 : Int32)) % (5 : Int32))), .val (.int ((pI2 &&& (3 : Int32)) % (3 : Int32))), .val (.int ((((pI2.toUInt32 >>> ((2 : Int32) &&& 31).toUInt32).toInt32) &&& (3 : Int32)) % (3 : Int32))), .val (.ref bR5), .val (.ref bR14), .val (.ref bR23), .val (.ref bR41), .val .null, .val (.ref bR57_0), .val (.ref bR60), .val (.int 0), .unset, .unset]) rfl ?_
    show oS p e below T122 m 132 #[.val (.int pI1), .val (.int pI2), .val (.int pI3), .val (.int pI4), .val (.int ((pI1 &&& (2147483647 : Int32)) % (5 : Int32))), .val (.int ((pI2 &&& (3 : Int32)) % (3 : Int32))), .val (.int ((((pI2.toUInt32 >>> ((2 : Int32) &&& 31).toUInt32).toInt32) &&& (3 : Int32)) % (3 : Int32))), .val (.ref bR5), .val (.ref bR14), .val (.ref bR23), .val (.ref bR41), .val .null, .val (.ref bR57_0), .val (.ref bR60), .val (.int 0), .unset, .unset] [] _
    refine XS.iload X122.here hx rfl (hb hby at_132) rfl ?_
    refine XS.ifNo X122.here hx rfl (hb hby at_134) rfl ((if0 _ _).trans (feq hc93).1) ?_
    refine XS.iconst X122.here hx rfl (hb hby at_137) ?_
    refine XS.goto X122.here hx rfl (pc0 := 138) (pc' := 142) rfl (hb hby at_138) (by decide) (by decide) ?_
    show oS p e below T122 m 142 #[.val (.int pI1), .val (.int pI2), .val (.int pI3), .val (.int pI4), .val (.int ((pI1 &&& (2147483647 : Int32)) % (5 : Int32))), .val (.int ((pI2 &&& (3 : Int32)) % (3 : Int32))), .val (.int ((((pI2.toUInt32 >>> ((2 : Int32) &&& 31).toUInt32).toInt32) &&& (3 : Int32)) % (3 : Int32))), .val (.ref bR5), .val (.ref bR14), .val (.ref bR23), .val (.ref bR41), .val .null, .val (.ref bR57_0), .val (.ref bR60), .val (.int 0), .unset, .unset] [(.int 1)] _
    refine XS.istore X122.here hx rfl (hb hby at_142) rfl (l' := #[.val (.int pI1), .val (.int pI2), .val (.int pI3), .val (.int pI4), .val (.int ((pI1 &&& (2147483647 : Int32)) % (5 : Int32))), .val (.int ((pI2 &&& (3 : Int32)) % (3 : Int32))), .val (.int ((((pI2.toUInt32 >>> ((2 : Int32) &&& 31).toUInt32).toInt32) &&& (3 : Int32)) % (3 : Int32))), .val (.ref bR5), .val (.ref bR14), .val (.ref bR23), .val (.ref bR41), .val .null, .val (.ref bR57_0), .val (.ref bR60), .val (.int 0), .val (.int 1), .unset]) rfl ?_
    refine XS.iload X122.here hx rfl (hb hby at_144) rfl ?_
    refine XS.ifYes X122.here hx rfl (pc0 := 146) (pc' := 155) rfl (hb hby at_146) rfl ((if0 _ _).trans (teq (by decide : (0 : Int32) = (0 : Int32))).1) (by decide) (by decide) ?_
    refine XS.iload X122.here hx rfl (hb hby at_155) rfl ?_
    show oS p e below T122 m 157 #[.val (.int pI1), .val (.int pI2), .val (.int pI3), .val (.int pI4), .val (.int ((pI1 &&& (2147483647 : Int32)) % (5 : Int32))), .val (.int ((pI2 &&& (3 : Int32)) % (3 : Int32))), .val (.int ((((pI2.toUInt32 >>> ((2 : Int32) &&& 31).toUInt32).toInt32) &&& (3 : Int32)) % (3 : Int32))), .val (.ref bR5), .val (.ref bR14), .val (.ref bR23), .val (.ref bR41), .val .null, .val (.ref bR57_0), .val (.ref bR60), .val (.int 0), .val (.int 1), .unset] [(.int 1)] _
    refine XS.ifNo X122.here hx rfl (hb hby at_157) rfl ((if0 _ _).trans (feq (by decide : ¬ ((1 : Int32) = (0 : Int32)))).1) ?_
    refine XS.iconst X122.here hx rfl (hb hby at_160) ?_
    refine XS.istore X122.here hx rfl (hb hby at_161) rfl (l' := #[.val (.int pI1), .val (.int pI2), .val (.int pI3), .val (.int pI4), .val (.int ((pI1 &&& (2147483647 : Int32)) % (5 : Int32))), .val (.int ((pI2 &&& (3 : Int32)) % (3 : Int32))), .val (.int ((((pI2.toUInt32 >>> ((2 : Int32) &&& 31).toUInt32).toInt32) &&& (3 : Int32)) % (3 : Int32))), .val (.ref bR5), .val (.ref bR14), .val (.ref bR23), .val (.ref bR41), .val .null, .val (.ref bR57_0), .val (.ref bR60), .val (.int 0), .val (.int 1), .val (.int 1)]) rfl ?_
    refine XS.goto X122.here hx rfl (pc0 := 163) (pc' := 169) rfl (hb hby at_163) (by decide) (by decide) ?_
    show oS p e below T122 m 169 #[.val (.int pI1), .val (.int pI2), .val (.int pI3), .val (.int pI4), .val (.int ((pI1 &&& (2147483647 : Int32)) % (5 : Int32))), .val (.int ((pI2 &&& (3 : Int32)) % (3 : Int32))), .val (.int ((((pI2.toUInt32 >>> ((2 : Int32) &&& 31).toUInt32).toInt32) &&& (3 : Int32)) % (3 : Int32))), .val (.ref bR5), .val (.ref bR14), .val (.ref bR23), .val (.ref bR41), .val .null, .val (.ref bR57_0), .val (.ref bR60), .val (.int 0), .val (.int 1), .val (.int 1)] [] _
    refine XS.aload X122.here hx rfl (hb hby at_169) rfl rfl ?_
    refine st125.trans ?_
    refine XS.iload X125.here hx rfl (hb hby at_174) rfl ?_
    refine XS.icmpNo X125.here hx rfl (hb hby at_176) rfl (teq (by decide : (1 : Int32) = (1 : Int32))).2 ?_
    show oS p e below T125 m 179 #[.val (.int pI1), .val (.int pI2), .val (.int pI3), .val (.int pI4), .val (.int ((pI1 &&& (2147483647 : Int32)) % (5 : Int32))), .val (.int ((pI2 &&& (3 : Int32)) % (3 : Int32))), .val (.int ((((pI2.toUInt32 >>> ((2 : Int32) &&& 31).toUInt32).toInt32) &&& (3 : Int32)) % (3 : Int32))), .val (.ref bR5), .val (.ref bR14), .val (.ref bR23), .val (.ref bR41), .val .null, .val (.ref bR57_0), .val (.ref bR60), .val (.int 0), .val (.int 1), .val (.int 1)] [] _
    refine XS.iconst X125.here hx rfl (hb hby at_179) ?_
    refine XS.goto X125.here hx rfl (pc0 := 180) (pc' := 184) rfl (hb hby at_180) (by decide) (by decide) ?_
    exact retN X125 hx (t := .boolean) Bd.returns (by simp) (hb hby at_184) hr
  · show QlawRNR Z pI1 pI2 pI3 pI4 pI31 pR68 pR79 pR90 pR101 h0 n0 _ T125.heap _
    rw [e125]
    exact ⟨rfl, N125⟩
theorem ef_lawRRN (m : MethodId) (pI1 : Int32) (pI2 : Int32) (pI3 : Int32) (pI4 : Int32) : entryFrame m #[(.int pI1), (.int pI2), (.int pI3), (.int pI4)] maxLocals = mkF m 0 #[.val (.int pI1), .val (.int pI2), .val (.int pI3), .val (.int pI4), .unset, .unset, .unset, .unset, .unset, .unset, .unset, .unset, .unset, .unset, .unset, .unset, .unset] [] := by first | (simp [entryFrame, mkF, argsToLocals, Value.category, maxLocals]; done) | rfl
def QlawRRN (Z : State) (pI1 : Int32) (pI2 : Int32) (pI3 : Int32) (pI4 : Int32) (pI31 : Int32) (pR68 : Addr) (pR79 : Addr) (pR90 : Addr) (pR101 : Addr) (h0 : Heap) (n0 : Nat) (v : Option Value) (h : Heap) (L : List Loc) : Prop := v = some (.int 1) ∧ Fr n0 L
set_option maxRecDepth 65536 in
set_option maxHeartbeats 40000000 in
theorem lawRRN (l : Launch) (Z : State) (a0 : Array Value) (hw : ∀ d ∈ tables_1, d.before a0 Z = true) (ws : List Jvm.Cond) (pI1 : Int32) (pI2 : Int32) (pI3 : Int32) (pI4 : Int32) (pI31 : Int32) (pR68 : Addr) (pR79 : Addr) (pR90 : Addr) (pR101 : Addr) (h0 : Heap) (n0 : Nat) (Z0 : n0 ≤ h0.size) (S_String_COMPACT_STRINGS : Sta Z h0 "java/lang/String" "COMPACT_STRINGS" "Z" (.int pI31)) (S_LabResults_Comparator_LESS : Sta Z h0 "com/example/pergamena/pergamena/build/LabResults$Comparator" "LESS" "Lcom/example/pergamena/pergamena/build/LabResults$Comparator;" (.ref pR68)) (S_LabResults_Comparator_AT_MOST : Sta Z h0 "com/example/pergamena/pergamena/build/LabResults$Comparator" "AT_MOST" "Lcom/example/pergamena/pergamena/build/LabResults$Comparator;" (.ref pR79)) (S_LabResults_Comparator_GREATER : Sta Z h0 "com/example/pergamena/pergamena/build/LabResults$Comparator" "GREATER" "Lcom/example/pergamena/pergamena/build/LabResults$Comparator;" (.ref pR90)) (S_LabResults_Comparator_AT_LEAST : Sta Z h0 "com/example/pergamena/pergamena/build/LabResults$Comparator" "AT_LEAST" "Lcom/example/pergamena/pergamena/build/LabResults$Comparator;" (.ref pR101)) (hc63 : ¬ (pI31 = (0 : Int32))) (hc82 : ¬ (((pI2 &&& (3 : Int32)) % (3 : Int32)) = (0 : Int32))) (hc93 : ((((pI2.toUInt32 >>> ((2 : Int32) &&& 31).toUInt32).toInt32) &&& (3 : Int32)) % (3 : Int32)) = (0 : Int32)) (hc104 : ¬ (((pI1 &&& (2147483647 : Int32)) % (5 : Int32)) = (0 : Int32))) :
    oMW l x code maxLocals ret ws room_1 #[(.int pI1), (.int pI2), (.int pI3), (.int pI4)] Z h0 (QlawRRN Z pI1 pI2 pI3 pI4 pI31 pR68 pR79 pR90 pR101 h0 n0) := by
  refine MetFree.of_bodySF (plainFor_of_name pn_2) hisR ?_
  intro p e s m args below meth c s₁ Bd hml0 hP hK
  obtain ⟨rfl, hZ, hh⟩ := hP
  have hx := Bd.exec
  have hby := Bd.bytes
  have hml : c.maxLocals = 17 := hml0
  have hown : s.vm.findClass "com/example/pergamena/pergamena/build/QuantityHasRangePinLaw" = some m.cls := findClass_of_methodNamed Bd.named
  have hnm := (name_of_methodNamed Bd.named Bd.method).1
  have X0 : Stand p l e room_1 s m #[(.int pI1), (.int pI2), (.int pI3), (.int pI4)] below meth c s₁ [] 0 0 := Stand.of_body Bd
  have e0 : s₁.heap = h0 := by rw [← hh, Bd.state]; rfl
  have N0 := Fr.nil n0
  have X0 : Stand p l e room_1 (s.setVm s.vm) m #[(.int pI1), (.int pI2), (.int pI3), (.int pI4)] below meth c s₁ [] 0 0 := X0
  have hS0 : s.Since s.vm 0 := (State.WarmedH.refl s).since 0
  have hk0 : 0 ≤ h0.size := Nat.zero_le _
  have hZ : Z.Warmed39 (s.setVm s.vm).vm := hZ
  have hown : (s.setVm s.vm).vm.findClass "com/example/pergamena/pergamena/build/QuantityHasRangePinLaw" = some m.cls := hown
  obtain ⟨T5, h5, k5, X5, e5, E5, A5, st5⟩ := newP X0 hx hZ (ow hw 1 rfl) e0 (g := (mkF m 25 #[.val (.int pI1), .val (.int pI2), .val (.int pI3), .val (.int pI4), .val (.int ((pI1 &&& (2147483647 : Int32)) % (5 : Int32))), .val (.int ((pI2 &&& (3 : Int32)) % (3 : Int32))), .val (.int ((((pI2.toUInt32 >>> ((2 : Int32) &&& 31).toUInt32).toInt32) &&& (3 : Int32)) % (3 : Int32))), .unset, .unset, .unset, .unset, .unset, .unset, .unset, .unset, .unset, .unset] [(.int 1)])) rfl (hb hby at_25) rfl (by decide) (cap := 1) (by decide) (by decide) (by decide) (by decide)
  obtain ⟨bR5, g5⟩ : ∃ z, z = h0.size := ⟨_, rfl⟩
  rw [← g5] at A5 st5
  have Z7 : n0 ≤ h5.size := (Nat.le_trans Z0 E5.1)
  have V5 : Arv Z h5 bR5 k5 .char (1 : Int32) [(.int 0)] (.int (0 : Int32)) := (Arv.new A5 (by decide)).pad (pad_rep [] (.int (0 : Int32)) 1)
  have g8 : n0 ≤ bR5 := Nat.le_trans Z0 (Nat.le_of_eq g5.symm)
  obtain ⟨clq9, Arq9, Akq9, Asq9, Anq9, Ahq9, Agq9⟩ := id V5
  have hin10 : ¬ ((0 : Int32) < 0 ∨ clq9.slots.size ≤ ((0 : Int32)).toNatClampNeg) := inb_of Asq9 ⟨by decide, by decide⟩
  obtain ⟨T11, h11, X11, e11, W11, st11⟩ := stC X5 hx hZ e5 Arq9 (j := (0 : Int32)) hin10 (g := (mkF m 38 #[.val (.int pI1), .val (.int pI2), .val (.int pI3), .val (.int pI4), .val (.int ((pI1 &&& (2147483647 : Int32)) % (5 : Int32))), .val (.int ((pI2 &&& (3 : Int32)) % (3 : Int32))), .val (.int ((((pI2.toUInt32 >>> ((2 : Int32) &&& 31).toUInt32).toInt32) &&& (3 : Int32)) % (3 : Int32))), .val (.ref bR5), .unset, .unset, .unset, .unset, .unset, .unset, .unset, .unset, .unset] [(.int ((pI3 &&& (255 : Int32)).toUInt32.toUInt16.toUInt32.toInt32)), (.int 0), (.ref bR5)])) rfl rfl (hb hby at_38)
  rw [own_narc (own_c255 _)] at W11
  have Z13 : n0 ≤ h11.size := (Nat.le_trans Z7 (Keep.of_wr W11).1)
  have N11 := Fr.snoc X11 N0 g8
  obtain ⟨Lh11, X11, N11⟩ := own_hide X11 N11
  have V11 : Arv Z h11 bR5 k5 .char (1 : Int32) [(.int ((pI3 &&& (255 : Int32)).toUInt32.toUInt16.toUInt32.toInt32))] (.int (0 : Int32)) := Arv.set Arq9 Akq9 Asq9 Anq9 Ahq9 Agq9 (own_fitc (own_c255 _)) W11 0 rfl (Nat.le_of_ble_eq_true rfl)
  obtain ⟨T14, h14, k14, X14, e14, E14, A14, st14⟩ := newP X11 hx hZ (ow hw 1 rfl) e11 (g := (mkF m 40 #[.val (.int pI1), .val (.int pI2), .val (.int pI3), .val (.int pI4), .val (.int ((pI1 &&& (2147483647 : Int32)) % (5 : Int32))), .val (.int ((pI2 &&& (3 : Int32)) % (3 : Int32))), .val (.int ((((pI2.toUInt32 >>> ((2 : Int32) &&& 31).toUInt32).toInt32) &&& (3 : Int32)) % (3 : Int32))), .val (.ref bR5), .unset, .unset, .unset, .unset, .unset, .unset, .unset, .unset, .unset] [(.int 1)])) rfl (hb hby at_40) rfl (by decide) (cap := 1) (by decide) (by decide) (by decide) (by decide)
  obtain ⟨bR14, g14⟩ : ∃ z, z = h11.size := ⟨_, rfl⟩
  rw [← g14] at A14 st14
  have Z16 : n0 ≤ h14.size := (Nat.le_trans Z13 E14.1)
  have V14 : Arv Z h14 bR14 k14 .char (1 : Int32) [(.int 0)] (.int (0 : Int32)) := (Arv.new A14 (by decide)).pad (pad_rep [] (.int (0 : Int32)) 1)
  have g17 : n0 ≤ bR14 := Nat.le_trans Z13 (Nat.le_of_eq g14.symm)
  obtain ⟨clq18, Arq18, Akq18, Asq18, Anq18, Ahq18, Agq18⟩ := id V14
  have hin19 : ¬ ((0 : Int32) < 0 ∨ clq18.slots.size ≤ ((0 : Int32)).toNatClampNeg) := inb_of Asq18 ⟨by decide, by decide⟩
  obtain ⟨T20, h20, X20, e20, W20, st20⟩ := stC X14 hx hZ e14 Arq18 (j := (0 : Int32)) hin19 (g := (mkF m 56 #[.val (.int pI1), .val (.int pI2), .val (.int pI3), .val (.int pI4), .val (.int ((pI1 &&& (2147483647 : Int32)) % (5 : Int32))), .val (.int ((pI2 &&& (3 : Int32)) % (3 : Int32))), .val (.int ((((pI2.toUInt32 >>> ((2 : Int32) &&& 31).toUInt32).toInt32) &&& (3 : Int32)) % (3 : Int32))), .val (.ref bR5), .val (.ref bR14), .unset, .unset, .unset, .unset, .unset, .unset, .unset, .unset] [(.int ((((pI3.toUInt32 >>> ((8 : Int32) &&& 31).toUInt32).toInt32) &&& (255 : Int32)).toUInt32.toUInt16.toUInt32.toInt32)), (.int 0), (.ref bR14)])) rfl rfl (hb hby at_56)
  rw [own_narc (own_c255 _)] at W20
  have Z22 : n0 ≤ h20.size := (Nat.le_trans Z16 (Keep.of_wr W20).1)
  have N20 := Fr.snoc X20 N11 g17
  obtain ⟨Lh20, X20, N20⟩ := own_hide X20 N20
  have V20 : Arv Z h20 bR14 k14 .char (1 : Int32) [(.int ((((pI3.toUInt32 >>> ((8 : Int32) &&& 31).toUInt32).toInt32) &&& (255 : Int32)).toUInt32.toUInt16.toUInt32.toInt32))] (.int (0 : Int32)) := Arv.set Arq18 Akq18 Asq18 Anq18 Ahq18 Agq18 (own_fitc (own_c255 _)) W20 0 rfl (Nat.le_of_ble_eq_true rfl)
  obtain ⟨T23, h23, X23, e23, E23, A23, D23, U23, st23⟩ := newO X20 hx hZ hown (ow hw 2 rfl) (ow hw 3 rfl) (ow hw 4 rfl) e20 (g := (mkF m 57 #[.val (.int pI1), .val (.int pI2), .val (.int pI3), .val (.int pI4), .val (.int ((pI1 &&& (2147483647 : Int32)) % (5 : Int32))), .val (.int ((pI2 &&& (3 : Int32)) % (3 : Int32))), .val (.int ((((pI2.toUInt32 >>> ((2 : Int32) &&& 31).toUInt32).toInt32) &&& (3 : Int32)) % (3 : Int32))), .val (.ref bR5), .val (.ref bR14), .unset, .unset, .unset, .unset, .unset, .unset, .unset, .unset] [])) rfl (hb hby at_57) (by decide) (by decide)
  obtain ⟨bR23, g23⟩ : ∃ z, z = h20.size := ⟨_, rfl⟩
  rw [← g23] at A23 D23 U23 st23
  have Z25 : n0 ≤ h23.size := (Nat.le_trans Z22 E23.1)
  have F26 : Fld Z h23 bR23 "java/lang/String" "coder" "B" (.int 0) := D23 (Or.inr (ow hw 28 rfl)) (ty := .byte) (by decide)
  have F27 : Fld Z h23 bR23 "java/lang/String" "value" "[B" .null := D23 (Or.inr (ow hw 30 rfl)) (ty := (.array .byte)) (by decide)
  have c28 : Arv Z h14 bR5 k5 .char (1 : Int32) [(.int ((pI3 &&& (255 : Int32)).toUInt32.toUInt16.toUInt32.toInt32))] (.int (0 : Int32)) := V11.ext E14
  have c29 : Arv Z h20 bR5 k5 .char (1 : Int32) [(.int ((pI3 &&& (255 : Int32)).toUInt32.toUInt16.toUInt32.toInt32))] (.int (0 : Int32)) := c28.other W20 (Nat.ne_of_lt (Nat.lt_of_lt_of_le V11.lt (Nat.le_of_eq g14.symm)))
  have c30 : Arv Z h23 bR5 k5 .char (1 : Int32) [(.int ((pI3 &&& (255 : Int32)).toUInt32.toUInt16.toUInt32.toInt32))] (.int (0 : Int32)) := c29.ext E23
  have c32 : Sta Z h5 "java/lang/String" "COMPACT_STRINGS" "Z" (.int pI31) := S_String_COMPACT_STRINGS.ext E5
  have c33 : Sta Z h11 "java/lang/String" "COMPACT_STRINGS" "Z" (.int pI31) := c32.wr W11
  have c34 : Sta Z h14 "java/lang/String" "COMPACT_STRINGS" "Z" (.int pI31) := c33.ext E14
  have c35 : Sta Z h20 "java/lang/String" "COMPACT_STRINGS" "Z" (.int pI31) := c34.wr W20
  have c36 : Sta Z h23 "java/lang/String" "COMPACT_STRINGS" "Z" (.int pI31) := c35.ext E23
  have g37 : n0 ≤ bR23 := Nat.le_trans Z22 (Nat.le_of_eq g23.symm)
  obtain ⟨_, _, ⟨T38, L38, k38, n38⟩, -, X38, ⟨Lc38, hQ38, l38, y38, z38⟩, st38⟩ := X23.specialBack hx (y := yN4) rfl hown (mvT hZ (ow hw 5 rfl)) (mvT hZ (ow hw 6 rfl)) (mvT hZ (ow hw 7 rfl)) (by decide) (backOf (W := 1) (str l Z a0 hw [] bR23 bR5 ((pI3 &&& (255 : Int32)).toUInt32.toUInt16.toUInt32.toInt32) k5 pI31 h23 n0 Z25 c30 c36 A23 F26 g37 F27 hc63 (own_l255 _ : ¬ ((255 : Int32) < ((pI3 &&& (255 : Int32)).toUInt32.toUInt16.toUInt32.toInt32)))) hZ (ow hw 7 rfl) (ow hw 4 rfl) (by decide) (by decide)) (g := (mkF m 63 #[.val (.int pI1), .val (.int pI2), .val (.int pI3), .val (.int pI4), .val (.int ((pI1 &&& (2147483647 : Int32)) % (5 : Int32))), .val (.int ((pI2 &&& (3 : Int32)) % (3 : Int32))), .val (.int ((((pI2.toUInt32 >>> ((2 : Int32) &&& 31).toUInt32).toInt32) &&& (3 : Int32)) % (3 : Int32))), .val (.ref bR5), .val (.ref bR14), .unset, .unset, .unset, .unset, .unset, .unset, .unset, .unset] [(.ref bR5), (.ref bR23), (.ref bR23)])) rfl (by rw [hml]; rfl) (Steps.refl _) (a := bR23) (argsL := [(.ref bR5)]) (rest := [(.ref bR23)]) (lenOf pd_4 rfl) rfl (Nat.le_refl _) (hb hby at_63) (fun _ _ => ⟨rfl, e23, (by decide : 3 + 1 ≤ _), (by decide : 6 + 1 ≤ _)⟩)
  dsimp only [Pt.U, Pt.locs, Pt.cells, Pt.slots] at X38 l38 y38 z38 st38 hQ38
  subst l38 y38 z38
  obtain ⟨bR38_0, kK38_0, rfl, Nq38, Kq38, sz38_0, x38_0, x38_1, x38_2, x38_3⟩ := hQ38
  have N38 := Fr.app N20 Nq38
  obtain ⟨Lh38, X38, N38⟩ := own_hide X38 N38
  have Z40 : n0 ≤ T38.heap.size := (Nat.le_trans Z25 Kq38.1)
  obtain ⟨T41, h41, X41, e41, E41, A41, D41, U41, st41⟩ := newO X38 hx hZ hown (ow hw 2 rfl) (ow hw 3 rfl) (ow hw 4 rfl) rfl (g := (mkF m 68 #[.val (.int pI1), .val (.int pI2), .val (.int pI3), .val (.int pI4), .val (.int ((pI1 &&& (2147483647 : Int32)) % (5 : Int32))), .val (.int ((pI2 &&& (3 : Int32)) % (3 : Int32))), .val (.int ((((pI2.toUInt32 >>> ((2 : Int32) &&& 31).toUInt32).toInt32) &&& (3 : Int32)) % (3 : Int32))), .val (.ref bR5), .val (.ref bR14), .val (.ref bR23), .unset, .unset, .unset, .unset, .unset, .unset, .unset] [])) rfl (hb hby at_68) (by decide) (by decide)
  obtain ⟨bR41, g41⟩ : ∃ z, z = T38.heap.size := ⟨_, rfl⟩
  rw [← g41] at A41 D41 U41 st41
  have Z43 : n0 ≤ h41.size := (Nat.le_trans Z40 E41.1)
  have F44 : Fld Z h41 bR41 "java/lang/String" "coder" "B" (.int 0) := D41 (Or.inr (ow hw 28 rfl)) (ty := .byte) (by decide)
  have F45 : Fld Z h41 bR41 "java/lang/String" "value" "[B" .null := D41 (Or.inr (ow hw 30 rfl)) (ty := (.array .byte)) (by decide)
  have c46 : Arv Z h23 bR14 k14 .char (1 : Int32) [(.int ((((pI3.toUInt32 >>> ((8 : Int32) &&& 31).toUInt32).toInt32) &&& (255 : Int32)).toUInt32.toUInt16.toUInt32.toInt32))] (.int (0 : Int32)) := V20.ext E23
  have c47 : Arv Z T38.heap bR14 k14 .char (1 : Int32) [(.int ((((pI3.toUInt32 >>> ((8 : Int32) &&& 31).toUInt32).toInt32) &&& (255 : Int32)).toUInt32.toUInt16.toUInt32.toInt32))] (.int (0 : Int32)) := c46.keep Kq38 (ninS (Nat.ne_of_lt (Nat.lt_of_lt_of_le V20.lt (Nat.le_of_eq g23.symm))) nin0)
  have c48 : Arv Z h41 bR14 k14 .char (1 : Int32) [(.int ((((pI3.toUInt32 >>> ((8 : Int32) &&& 31).toUInt32).toInt32) &&& (255 : Int32)).toUInt32.toUInt16.toUInt32.toInt32))] (.int (0 : Int32)) := c47.ext E41
  have c49 : Sta Z T38.heap "java/lang/String" "COMPACT_STRINGS" "Z" (.int pI31) := own_sta_keep c36 Kq38 (allS (own_plain_E A23) all0)
  have c50 : Sta Z h41 "java/lang/String" "COMPACT_STRINGS" "Z" (.int pI31) := c49.ext E41
  have g51 : n0 ≤ bR41 := Nat.le_trans Z40 (Nat.le_of_eq g41.symm)
  obtain ⟨_, _, ⟨T52, L52, k52, n52⟩, -, X52, ⟨Lc52, hQ52, l52, y52, z52⟩, st52⟩ := X41.specialBack hx (y := yN4) rfl hown (mvT hZ (ow hw 5 rfl)) (mvT hZ (ow hw 6 rfl)) (mvT hZ (ow hw 7 rfl)) (by decide) (backOf (W := 1) (str l Z a0 hw [] bR41 bR14 ((((pI3.toUInt32 >>> ((8 : Int32) &&& 31).toUInt32).toInt32) &&& (255 : Int32)).toUInt32.toUInt16.toUInt32.toInt32) k14 pI31 h41 n0 Z43 c48 c50 A41 F44 g51 F45 hc63 (own_l255 _ : ¬ ((255 : Int32) < ((((pI3.toUInt32 >>> ((8 : Int32) &&& 31).toUInt32).toInt32) &&& (255 : Int32)).toUInt32.toUInt16.toUInt32.toInt32)))) hZ (ow hw 7 rfl) (ow hw 4 rfl) (by decide) (by decide)) (g := (mkF m 74 #[.val (.int pI1), .val (.int pI2), .val (.int pI3), .val (.int pI4), .val (.int ((pI1 &&& (2147483647 : Int32)) % (5 : Int32))), .val (.int ((pI2 &&& (3 : Int32)) % (3 : Int32))), .val (.int ((((pI2.toUInt32 >>> ((2 : Int32) &&& 31).toUInt32).toInt32) &&& (3 : Int32)) % (3 : Int32))), .val (.ref bR5), .val (.ref bR14), .val (.ref bR23), .unset, .unset, .unset, .unset, .unset, .unset, .unset] [(.ref bR14), (.ref bR41), (.ref bR41)])) rfl (by rw [hml]; rfl) (Steps.refl _) (a := bR41) (argsL := [(.ref bR14)]) (rest := [(.ref bR41)]) (lenOf pd_4 rfl) rfl (Nat.le_refl _) (hb hby at_74) (fun _ _ => ⟨rfl, e41, (by decide : 5 + 1 ≤ _), (by decide : 11 + 1 ≤ _)⟩)
  dsimp only [Pt.U, Pt.locs, Pt.cells, Pt.slots] at X52 l52 y52 z52 st52 hQ52
  subst l52 y52 z52
  obtain ⟨bR52_0, kK52_0, rfl, Nq52, Kq52, sz52_0, x52_0, x52_1, x52_2, x52_3⟩ := hQ52
  have N52 := Fr.app N38 Nq52
  obtain ⟨Lh52, X52, N52⟩ := own_hide X52 N52
  have Z54 : n0 ≤ T52.heap.size := (Nat.le_trans Z43 Kq52.1)
  have c55 : Sta Z T52.heap "java/lang/String" "COMPACT_STRINGS" "Z" (.int pI31) := own_sta_keep c50 Kq52 (allS (own_plain_E A41) all0)
  obtain ⟨_, _, ⟨T56, L56, k56, n56⟩, -, X56, hs256, hg256, ⟨Lc56, hQ56, l56, y56, z56⟩, st56⟩ := callSS X52 hx (y := yN5) hown (mvT hZ (ow hw 31 rfl)) (mvT hZ (ow hw 32 rfl)) (mvT hZ (ow hw 33 rfl)) (mvT hZ (ow hw 34 rfl)) (by decide) (backOfS (s := s.setVm s.vm) (W := 0) (endR l Z a0 hw [] ((pI2 &&& (3 : Int32)) % (3 : Int32)) pI4 pI31 T52.heap n0 Z54 c55 hc82 hc63) hZ (ow hw 34 rfl) (ow hw 33 rfl) (by decide) (by decide)) (g := (mkF m 82 #[.val (.int pI1), .val (.int pI2), .val (.int pI3), .val (.int pI4), .val (.int ((pI1 &&& (2147483647 : Int32)) % (5 : Int32))), .val (.int ((pI2 &&& (3 : Int32)) % (3 : Int32))), .val (.int ((((pI2.toUInt32 >>> ((2 : Int32) &&& 31).toUInt32).toInt32) &&& (3 : Int32)) % (3 : Int32))), .val (.ref bR5), .val (.ref bR14), .val (.ref bR23), .val (.ref bR41), .unset, .unset, .unset, .unset, .unset, .unset] [(.int pI4), (.int ((pI2 &&& (3 : Int32)) % (3 : Int32)))])) rfl (by rw [hml]; rfl) (argsL := [(.int ((pI2 &&& (3 : Int32)) % (3 : Int32))), (.int pI4)]) (rest := []) (lenOf pd_6 rfl) rfl (Nat.le_refl _) (hb hby at_82) (fun _ _ => ⟨rfl, rfl, (by decide : 6 + 3 ≤ _), (by decide : 12 + 6 ≤ _)⟩)
  dsimp only [Pt.U, Pt.locs, Pt.cells, Pt.slots] at X56 l56 y56 z56 st56 hQ56 hs256 hg256
  subst l56 y56 z56
  have X56 := own_refold X56
  have hS56 := foldS hS0 (Nat.le_trans (Nat.le_trans (Nat.le_trans (Nat.le_trans (Nat.le_trans (Nat.le_trans (Nat.le_trans (Nat.le_trans hk0 E5.1) (Keep.of_wr W11).1) E14.1) (Keep.of_wr W20).1) E23.1) Kq38.1) E41.1) Kq52.1) hs256 hg256
  have hk56 : T56.heap.size ≤ T56.heap.size := Nat.le_refl _
  have hZ56 : Z.Warmed39 (s.setVm T56.vm).vm := State.Warmed39.trans (t := s.setVm s.vm) hZ hs256.1
  have ho56 : (s.setVm T56.vm).vm.findClass "com/example/pergamena/pergamena/build/QuantityHasRangePinLaw" = some m.cls := by rw [show (s.setVm T56.vm).vm = T56.vm from rfl, hs256.1.alike.findClass]; exact hown
  obtain ⟨bR56_0, rfl, Nq56, Kq56⟩ := hQ56
  have N56 := Fr.app N52 Nq56
  obtain ⟨Lh56, X56, N56⟩ := own_hide X56 N56
  have Z58 : n0 ≤ T56.heap.size := (Nat.le_trans Z54 Kq56.1)
  obtain ⟨_, _, ⟨T59, L59, k59, n59⟩, -, X59, ⟨Lc59, hQ59, l59, y59, z59⟩, st59⟩ := Jvm.LawKit.callS X56 hx (y := yN5) ho56 (mvT hZ56 (ow hw 31 rfl)) (mvT hZ56 (ow hw 32 rfl)) (mvT hZ56 (ow hw 33 rfl)) (mvT hZ56 (ow hw 34 rfl)) (by decide) (backOf (W := 0) (endN l Z a0 hw [] ((((pI2.toUInt32 >>> ((2 : Int32) &&& 31).toUInt32).toInt32) &&& (3 : Int32)) % (3 : Int32)) ((pI4.toUInt32 >>> ((8 : Int32) &&& 31).toUInt32).toInt32) T56.heap n0 Z58 hc93) hZ56 (ow hw 34 rfl) (ow hw 33 rfl) (by decide) (by decide)) (g := (mkF m 93 #[.val (.int pI1), .val (.int pI2), .val (.int pI3), .val (.int pI4), .val (.int ((pI1 &&& (2147483647 : Int32)) % (5 : Int32))), .val (.int ((pI2 &&& (3 : Int32)) % (3 : Int32))), .val (.int ((((pI2.toUInt32 >>> ((2 : Int32) &&& 31).toUInt32).toInt32) &&& (3 : Int32)) % (3 : Int32))), .val (.ref bR5), .val (.ref bR14), .val (.ref bR23), .val (.ref bR41), .val (.ref bR56_0), .unset, .unset, .unset, .unset, .unset] [(.int ((pI4.toUInt32 >>> ((8 : Int32) &&& 31).toUInt32).toInt32)), (.int ((((pI2.toUInt32 >>> ((2 : Int32) &&& 31).toUInt32).toInt32) &&& (3 : Int32)) % (3 : Int32)))])) rfl (by rw [hml]; rfl) (argsL := [(.int ((((pI2.toUInt32 >>> ((2 : Int32) &&& 31).toUInt32).toInt32) &&& (3 : Int32)) % (3 : Int32))), (.int ((pI4.toUInt32 >>> ((8 : Int32) &&& 31).toUInt32).toInt32))]) (rest := []) (lenOf pd_6 rfl) rfl (Nat.le_refl _) (hb hby at_93) (fun _ _ => ⟨rfl, rfl, (by decide : 9 + 0 ≤ _), (by decide : 18 + 0 ≤ _)⟩)
  dsimp only [Pt.U, Pt.locs, Pt.cells, Pt.slots] at X59 l59 y59 z59 st59 hQ59
  subst l59 y59 z59
  obtain ⟨rfl, Nq59, e59⟩ := hQ59
  have N59 := Fr.app N56 Nq59
  obtain ⟨T60, h60, X60, e60, E60, A60, D60, U60, st60⟩ := newO X59 hx hZ56 ho56 (ow hw 35 rfl) (ow hw 36 rfl) (ow hw 37 rfl) e59 (g := (mkF m 98 #[.val (.int pI1), .val (.int pI2), .val (.int pI3), .val (.int pI4), .val (.int ((pI1 &&& (2147483647 : Int32)) % (5 : Int32))), .val (.int ((pI2 &&& (3 : Int32)) % (3 : Int32))), .val (.int ((((pI2.toUInt32 >>> ((2 : Int32) &&& 31).toUInt32).toInt32) &&& (3 : Int32)) % (3 : Int32))), .val (.ref bR5), .val (.ref bR14), .val (.ref bR23), .val (.ref bR41), .val (.ref bR56_0), .val .null, .unset, .unset, .unset, .unset] [])) rfl (hb hby at_98) (by decide) (by decide)
  obtain ⟨bR60, g60⟩ : ∃ z, z = T56.heap.size := ⟨_, rfl⟩
  rw [← g60] at A60 D60 U60 st60
  have Z62 : n0 ≤ h60.size := (Nat.le_trans Z58 E60.1)
  have F63 : Fld Z h60 bR60 "com/example/pergamena/pergamena/build/LabResults$Quantity" "comparator" "Lcom/example/pergamena/pergamena/build/LabResults$Comparator;" .null := D60 (Or.inr (ow hw 51 rfl)) (ty := (.object "com/example/pergamena/pergamena/build/LabResults$Comparator")) (by decide)
  have F64 : Fld Z h60 bR60 "com/example/pergamena/pergamena/build/LabResults$Quantity" "number" "Ljava/lang/String;" .null := D60 (Or.inr (ow hw 53 rfl)) (ty := (.object "java/lang/String")) (by decide)
  have F65 : Fld Z h60 bR60 "com/example/pergamena/pergamena/build/LabResults$Quantity" "unit" "Ljava/lang/String;" .null := D60 (Or.inr (ow hw 55 rfl)) (ty := (.object "java/lang/String")) (by decide)
  have F66 : Fld Z h60 bR60 "com/example/pergamena/pergamena/build/LabResults$Quantity" "low" "Ljava/lang/String;" .null := D60 (Or.inr (ow hw 57 rfl)) (ty := (.object "java/lang/String")) (by decide)
  have F67 : Fld Z h60 bR60 "com/example/pergamena/pergamena/build/LabResults$Quantity" "high" "Ljava/lang/String;" .null := D60 (Or.inr (ow hw 59 rfl)) (ty := (.object "java/lang/String")) (by decide)
  have c69 : Sta Z h5 "com/example/pergamena/pergamena/build/LabResults$Comparator" "LESS" "Lcom/example/pergamena/pergamena/build/LabResults$Comparator;" (.ref pR68) := S_LabResults_Comparator_LESS.ext E5
  have c70 : Sta Z h11 "com/example/pergamena/pergamena/build/LabResults$Comparator" "LESS" "Lcom/example/pergamena/pergamena/build/LabResults$Comparator;" (.ref pR68) := c69.wr W11
  have c71 : Sta Z h14 "com/example/pergamena/pergamena/build/LabResults$Comparator" "LESS" "Lcom/example/pergamena/pergamena/build/LabResults$Comparator;" (.ref pR68) := c70.ext E14
  have c72 : Sta Z h20 "com/example/pergamena/pergamena/build/LabResults$Comparator" "LESS" "Lcom/example/pergamena/pergamena/build/LabResults$Comparator;" (.ref pR68) := c71.wr W20
  have c73 : Sta Z h23 "com/example/pergamena/pergamena/build/LabResults$Comparator" "LESS" "Lcom/example/pergamena/pergamena/build/LabResults$Comparator;" (.ref pR68) := c72.ext E23
  have c74 : Sta Z T38.heap "com/example/pergamena/pergamena/build/LabResults$Comparator" "LESS" "Lcom/example/pergamena/pergamena/build/LabResults$Comparator;" (.ref pR68) := own_sta_keep c73 Kq38 (allS (own_plain_E A23) all0)
  have c75 : Sta Z h41 "com/example/pergamena/pergamena/build/LabResults$Comparator" "LESS" "Lcom/example/pergamena/pergamena/build/LabResults$Comparator;" (.ref pR68) := c74.ext E41
  have c76 : Sta Z T52.heap "com/example/pergamena/pergamena/build/LabResults$Comparator" "LESS" "Lcom/example/pergamena/pergamena/build/LabResults$Comparator;" (.ref pR68) := own_sta_keep c75 Kq52 (allS (own_plain_E A41) all0)
  have c77 : Sta Z T56.heap "com/example/pergamena/pergamena/build/LabResults$Comparator" "LESS" "Lcom/example/pergamena/pergamena/build/LabResults$Comparator;" (.ref pR68) := own_sta_keep c76 Kq56 all0
  have c78 : Sta Z h60 "com/example/pergamena/pergamena/build/LabResults$Comparator" "LESS" "Lcom/example/pergamena/pergamena/build/LabResults$Comparator;" (.ref pR68) := c77.ext E60
  have c80 : Sta Z h5 "com/example/pergamena/pergamena/build/LabResults$Comparator" "AT_MOST" "Lcom/example/pergamena/pergamena/build/LabResults$Comparator;" (.ref pR79) := S_LabResults_Comparator_AT_MOST.ext E5
  have c81 : Sta Z h11 "com/example/pergamena/pergamena/build/LabResults$Comparator" "AT_MOST" "Lcom/example/pergamena/pergamena/build/LabResults$Comparator;" (.ref pR79) := c80.wr W11
  have c82 : Sta Z h14 "com/example/pergamena/pergamena/build/LabResults$Comparator" "AT_MOST" "Lcom/example/pergamena/pergamena/build/LabResults$Comparator;" (.ref pR79) := c81.ext E14
  have c83 : Sta Z h20 "com/example/pergamena/pergamena/build/LabResults$Comparator" "AT_MOST" "Lcom/example/pergamena/pergamena/build/LabResults$Comparator;" (.ref pR79) := c82.wr W20
  have c84 : Sta Z h23 "com/example/pergamena/pergamena/build/LabResults$Comparator" "AT_MOST" "Lcom/example/pergamena/pergamena/build/LabResults$Comparator;" (.ref pR79) := c83.ext E23
  have c85 : Sta Z T38.heap "com/example/pergamena/pergamena/build/LabResults$Comparator" "AT_MOST" "Lcom/example/pergamena/pergamena/build/LabResults$Comparator;" (.ref pR79) := own_sta_keep c84 Kq38 (allS (own_plain_E A23) all0)
  have c86 : Sta Z h41 "com/example/pergamena/pergamena/build/LabResults$Comparator" "AT_MOST" "Lcom/example/pergamena/pergamena/build/LabResults$Comparator;" (.ref pR79) := c85.ext E41
  have c87 : Sta Z T52.heap "com/example/pergamena/pergamena/build/LabResults$Comparator" "AT_MOST" "Lcom/example/pergamena/pergamena/build/LabResults$Comparator;" (.ref pR79) := own_sta_keep c86 Kq52 (allS (own_plain_E A41) all0)
  have c88 : Sta Z T56.heap "com/example/pergamena/pergamena/build/LabResults$Comparator" "AT_MOST" "Lcom/example/pergamena/pergamena/build/LabResults$Comparator;" (.ref pR79) := own_sta_keep c87 Kq56 all0
  have c89 : Sta Z h60 "com/example/pergamena/pergamena/build/LabResults$Comparator" "AT_MOST" "Lcom/example/pergamena/pergamena/build/LabResults$Comparator;" (.ref pR79) := c88.ext E60
  have c91 : Sta Z h5 "com/example/pergamena/pergamena/build/LabResults$Comparator" "GREATER" "Lcom/example/pergamena/pergamena/build/LabResults$Comparator;" (.ref pR90) := S_LabResults_Comparator_GREATER.ext E5
  have c92 : Sta Z h11 "com/example/pergamena/pergamena/build/LabResults$Comparator" "GREATER" "Lcom/example/pergamena/pergamena/build/LabResults$Comparator;" (.ref pR90) := c91.wr W11
  have c93 : Sta Z h14 "com/example/pergamena/pergamena/build/LabResults$Comparator" "GREATER" "Lcom/example/pergamena/pergamena/build/LabResults$Comparator;" (.ref pR90) := c92.ext E14
  have c94 : Sta Z h20 "com/example/pergamena/pergamena/build/LabResults$Comparator" "GREATER" "Lcom/example/pergamena/pergamena/build/LabResults$Comparator;" (.ref pR90) := c93.wr W20
  have c95 : Sta Z h23 "com/example/pergamena/pergamena/build/LabResults$Comparator" "GREATER" "Lcom/example/pergamena/pergamena/build/LabResults$Comparator;" (.ref pR90) := c94.ext E23
  have c96 : Sta Z T38.heap "com/example/pergamena/pergamena/build/LabResults$Comparator" "GREATER" "Lcom/example/pergamena/pergamena/build/LabResults$Comparator;" (.ref pR90) := own_sta_keep c95 Kq38 (allS (own_plain_E A23) all0)
  have c97 : Sta Z h41 "com/example/pergamena/pergamena/build/LabResults$Comparator" "GREATER" "Lcom/example/pergamena/pergamena/build/LabResults$Comparator;" (.ref pR90) := c96.ext E41
  have c98 : Sta Z T52.heap "com/example/pergamena/pergamena/build/LabResults$Comparator" "GREATER" "Lcom/example/pergamena/pergamena/build/LabResults$Comparator;" (.ref pR90) := own_sta_keep c97 Kq52 (allS (own_plain_E A41) all0)
  have c99 : Sta Z T56.heap "com/example/pergamena/pergamena/build/LabResults$Comparator" "GREATER" "Lcom/example/pergamena/pergamena/build/LabResults$Comparator;" (.ref pR90) := own_sta_keep c98 Kq56 all0
  have c100 : Sta Z h60 "com/example/pergamena/pergamena/build/LabResults$Comparator" "GREATER" "Lcom/example/pergamena/pergamena/build/LabResults$Comparator;" (.ref pR90) := c99.ext E60
  have c102 : Sta Z h5 "com/example/pergamena/pergamena/build/LabResults$Comparator" "AT_LEAST" "Lcom/example/pergamena/pergamena/build/LabResults$Comparator;" (.ref pR101) := S_LabResults_Comparator_AT_LEAST.ext E5
  have c103 : Sta Z h11 "com/example/pergamena/pergamena/build/LabResults$Comparator" "AT_LEAST" "Lcom/example/pergamena/pergamena/build/LabResults$Comparator;" (.ref pR101) := c102.wr W11
  have c104 : Sta Z h14 "com/example/pergamena/pergamena/build/LabResults$Comparator" "AT_LEAST" "Lcom/example/pergamena/pergamena/build/LabResults$Comparator;" (.ref pR101) := c103.ext E14
  have c105 : Sta Z h20 "com/example/pergamena/pergamena/build/LabResults$Comparator" "AT_LEAST" "Lcom/example/pergamena/pergamena/build/LabResults$Comparator;" (.ref pR101) := c104.wr W20
  have c106 : Sta Z h23 "com/example/pergamena/pergamena/build/LabResults$Comparator" "AT_LEAST" "Lcom/example/pergamena/pergamena/build/LabResults$Comparator;" (.ref pR101) := c105.ext E23
  have c107 : Sta Z T38.heap "com/example/pergamena/pergamena/build/LabResults$Comparator" "AT_LEAST" "Lcom/example/pergamena/pergamena/build/LabResults$Comparator;" (.ref pR101) := own_sta_keep c106 Kq38 (allS (own_plain_E A23) all0)
  have c108 : Sta Z h41 "com/example/pergamena/pergamena/build/LabResults$Comparator" "AT_LEAST" "Lcom/example/pergamena/pergamena/build/LabResults$Comparator;" (.ref pR101) := c107.ext E41
  have c109 : Sta Z T52.heap "com/example/pergamena/pergamena/build/LabResults$Comparator" "AT_LEAST" "Lcom/example/pergamena/pergamena/build/LabResults$Comparator;" (.ref pR101) := own_sta_keep c108 Kq52 (allS (own_plain_E A41) all0)
  have c110 : Sta Z T56.heap "com/example/pergamena/pergamena/build/LabResults$Comparator" "AT_LEAST" "Lcom/example/pergamena/pergamena/build/LabResults$Comparator;" (.ref pR101) := own_sta_keep c109 Kq56 all0
  have c111 : Sta Z h60 "com/example/pergamena/pergamena/build/LabResults$Comparator" "AT_LEAST" "Lcom/example/pergamena/pergamena/build/LabResults$Comparator;" (.ref pR101) := c110.ext E60
  obtain ⟨_, _, ⟨T112, L112, k112, n112⟩, -, X112, ⟨Lc112, hQ112, l112, y112, z112⟩, st112⟩ := Jvm.LawKit.callS X60 hx (y := yN6) ho56 (mvT hZ56 (ow hw 38 rfl)) (mvT hZ56 (ow hw 39 rfl)) (mvT hZ56 (ow hw 33 rfl)) (mvT hZ56 (ow hw 40 rfl)) (by decide) (backOf (W := 2) (comR l Z a0 hw [] ((pI1 &&& (2147483647 : Int32)) % (5 : Int32)) pR68 pR79 pR90 pR101 h60 n0 Z62 c78 c89 c100 c111 hc104) hZ56 (ow hw 40 rfl) (ow hw 33 rfl) (by decide) (by decide)) (g := (mkF m 104 #[.val (.int pI1), .val (.int pI2), .val (.int pI3), .val (.int pI4), .val (.int ((pI1 &&& (2147483647 : Int32)) % (5 : Int32))), .val (.int ((pI2 &&& (3 : Int32)) % (3 : Int32))), .val (.int ((((pI2.toUInt32 >>> ((2 : Int32) &&& 31).toUInt32).toInt32) &&& (3 : Int32)) % (3 : Int32))), .val (.ref bR5), .val (.ref bR14), .val (.ref bR23), .val (.ref bR41), .val (.ref bR56_0), .val .null, .unset, .unset, .unset, .unset] [(.int ((pI1 &&& (2147483647 : Int32)) % (5 : Int32))), (.ref bR60), (.ref bR60)])) rfl (by rw [hml]; rfl) (argsL := [(.int ((pI1 &&& (2147483647 : Int32)) % (5 : Int32)))]) (rest := [(.ref bR60), (.ref bR60)]) (lenOf pd_7 rfl) rfl (Nat.le_refl _) (hb hby at_104) (fun _ _ => ⟨rfl, e60, (by decide : 10 + 0 ≤ _), (by decide : 23 + 0 ≤ _)⟩)
  dsimp only [Pt.U, Pt.locs, Pt.cells, Pt.slots] at X112 l112 y112 z112 st112 hQ112
  subst l112 y112 z112
  obtain ⟨bR112_0, rfl, Nq112, Kq112⟩ := hQ112
  have N112 := Fr.app N59 Nq112
  obtain ⟨Lh112, X112, N112⟩ := own_hide X112 N112
  have Z114 : n0 ≤ T112.heap.size := (Nat.le_trans Z62 Kq112.1)
  have c115 : Exa Z T112.heap bR60 "com/example/pergamena/pergamena/build/LabResults$Quantity" := A60.keep Kq112
  have c116 : Fld Z T112.heap bR60 "com/example/pergamena/pergamena/build/LabResults$Quantity" "comparator" "Lcom/example/pergamena/pergamena/build/LabResults$Comparator;" .null := F63.keep Kq112 nin0
  have g117 : n0 ≤ bR60 := Nat.le_trans Z58 (Nat.le_of_eq g60.symm)
  have c118 : Fld Z T112.heap bR60 "com/example/pergamena/pergamena/build/LabResults$Quantity" "number" "Ljava/lang/String;" .null := F64.keep Kq112 nin0
  have c119 : Fld Z T112.heap bR60 "com/example/pergamena/pergamena/build/LabResults$Quantity" "unit" "Ljava/lang/String;" .null := F65.keep Kq112 nin0
  have c120 : Fld Z T112.heap bR60 "com/example/pergamena/pergamena/build/LabResults$Quantity" "low" "Ljava/lang/String;" .null := F66.keep Kq112 nin0
  have c121 : Fld Z T112.heap bR60 "com/example/pergamena/pergamena/build/LabResults$Quantity" "high" "Ljava/lang/String;" .null := F67.keep Kq112 nin0
  obtain ⟨_, _, ⟨T122, L122, k122, n122⟩, -, X122, ⟨Lc122, hQ122, l122, y122, z122⟩, st122⟩ := X112.specialBack hx (y := yN8) rfl ho56 (mvT hZ56 (ow hw 41 rfl)) (mvT hZ56 (ow hw 42 rfl)) (mvT hZ56 (ow hw 43 rfl)) (by decide) (backOf (W := 1) (qRRN l Z a0 hw [] bR60 bR112_0 bR23 bR41 bR56_0 T112.heap n0 Z114 c115 c116 g117 c118 c119 c120 c121) hZ56 (ow hw 43 rfl) (ow hw 37 rfl) (by decide) (by decide)) (g := (mkF m 115 #[.val (.int pI1), .val (.int pI2), .val (.int pI3), .val (.int pI4), .val (.int ((pI1 &&& (2147483647 : Int32)) % (5 : Int32))), .val (.int ((pI2 &&& (3 : Int32)) % (3 : Int32))), .val (.int ((((pI2.toUInt32 >>> ((2 : Int32) &&& 31).toUInt32).toInt32) &&& (3 : Int32)) % (3 : Int32))), .val (.ref bR5), .val (.ref bR14), .val (.ref bR23), .val (.ref bR41), .val (.ref bR56_0), .val .null, .unset, .unset, .unset, .unset] [.null, (.ref bR56_0), (.ref bR41), (.ref bR23), (.ref bR112_0), (.ref bR60), (.ref bR60)])) rfl (by rw [hml]; rfl) (Steps.refl _) (a := bR60) (argsL := [(.ref bR112_0), (.ref bR23), (.ref bR41), (.ref bR56_0), .null]) (rest := [(.ref bR60)]) (lenOf pd_8 rfl) rfl (Nat.le_refl _) (hb hby at_115) (fun _ _ => ⟨rfl, rfl, (by decide : 10 + 0 ≤ _), (by decide : 23 + 0 ≤ _)⟩)
  dsimp only [Pt.U, Pt.locs, Pt.cells, Pt.slots] at X122 l122 y122 z122 st122 hQ122
  subst l122 y122 z122
  obtain ⟨rfl, Nq122, Kq122, x122_0, x122_1, x122_2, x122_3, x122_4, x122_5⟩ := hQ122
  have N122 := Fr.app N112 Nq122
  obtain ⟨Lh122, X122, N122⟩ := own_hide X122 N122
  have Z124 : n0 ≤ T122.heap.size := (Nat.le_trans Z114 Kq122.1)
  obtain ⟨cq125, kq125, q125a, q125b, q125c⟩ := isOf hZ56 rfl x122_0
  obtain ⟨_, _, ⟨T125, L125, k125, n125⟩, -, X125, ⟨Lc125, hQ125, l125, y125, z125⟩, st125⟩ := X122.virtualBack hx (y := yN9) (z := yN9) ho56 (mvT hZ56 (ow hw 60 rfl)) (mvT hZ56 (ow hw 61 rfl)) (notFace_of_selects (args := #[]) (mvT hZ56 (ow hw 63 rfl))) (mvT hZ56 (ow hw 63 rfl)) (mvT hZ56 (ow hw 62 rfl)) (by decide) (backOf (W := 0) (hrR l Z a0 hw [] bR60 bR56_0 T122.heap n0 Z124 x122_4) hZ56 (ow hw 64 rfl) (ow hw 37 rfl) (by decide) (by decide)) q125a q125c (g := (mkF m 171 #[.val (.int pI1), .val (.int pI2), .val (.int pI3), .val (.int pI4), .val (.int ((pI1 &&& (2147483647 : Int32)) % (5 : Int32))), .val (.int ((pI2 &&& (3 : Int32)) % (3 : Int32))), .val (.int ((((pI2.toUInt32 >>> ((2 : Int32) &&& 31).toUInt32).toInt32) &&& (3 : Int32)) % (3 : Int32))), .val (.ref bR5), .val (.ref bR14), .val (.ref bR23), .val (.ref bR41), .val (.ref bR56_0), .val .null, .val (.ref bR60), .val (.int 1), .val (.int 0), .val (.int 1)] [(.ref bR60)])) rfl (by rw [hml]; rfl) (Steps.refl _) (argsL := []) (rest := []) (lenOf pd_9 rfl) rfl (Nat.le_refl _) (hb hby at_171) (fun _ _ => ⟨rfl, rfl, (by decide : 10 + 0 ≤ _), (by decide : 23 + 0 ≤ _)⟩)
  dsimp only [Pt.U, Pt.locs, Pt.cells, Pt.slots] at X125 l125 y125 z125 st125 hQ125
  subst l125 y125 z125
  obtain ⟨rfl, Nq125, e125⟩ := hQ125
  have N125 := Fr.app N122 Nq125
  obtain ⟨fs, hr, hrun, hended, hE⟩ := X125.leaveW hS56 (by rw [e125]; exact (Nat.le_trans (Nat.le_trans (Nat.le_trans hk56 E60.1) Kq112.1) Kq122.1)) (v := some (.int 1)) (fun h => by rw [Bd.returns] at h; cases h)
  refine ⟨_, _, castTop (ef_lawRRN m pI1 pI2 pI3 pI4) ?_, hrun, hended, _, _, rfl, ?_, hE.1, hE.2.1, hE.2.2.1, hE.2.2.2.mono (by decide) (by decide)⟩
  · show oS p e below s₁ m 0 #[.val (.int pI1), .val (.int pI2), .val (.int pI3), .val (.int pI4), .unset, .unset, .unset, .unset, .unset, .unset, .unset, .unset, .unset, .unset, .unset, .unset, .unset] [] _
    refine XS.iloadN X0.here hx rfl (hb hby at_0) rfl ?_
    refine X0.ldcInt hx hown (mvT hZ (ow hw 0 rfl)) (g := (mkF m 1 #[.val (.int pI1), .val (.int pI2), .val (.int pI3), .val (.int pI4), .unset, .unset, .unset, .unset, .unset, .unset, .unset, .unset, .unset, .unset, .unset, .unset, .unset] [(.int pI1)])) rfl (hb hby at_1) _ ?_
    refine XS.iand X0.here hx rfl (hb hby at_3) rfl ?_
    refine XS.iconst X0.here hx rfl (hb hby at_4) ?_
    show Steps p.tables e below (s₁.setTop (mkF m 5 #[.val (.int pI1), .val (.int pI2), .val (.int pI3), .val (.int pI4), .unset, .unset, .unset, .unset, .unset, .unset, .unset, .unset, .unset, .unset, .unset, .unset, .unset] [(.int 5), (.int (pI1 &&& (2147483647 : Int32)))])) _
    refine iremM (g := (mkF m 5 #[.val (.int pI1), .val (.int pI2), .val (.int pI3), .val (.int pI4), .unset, .unset, .unset, .unset, .unset, .unset, .unset, .unset, .unset, .unset, .unset, .unset, .unset] [(.int 5), (.int (pI1 &&& (2147483647 : Int32)))])) X0 hx rfl (hb hby at_5) rfl (by decide) ?_
    refine XS.istore X0.here hx rfl (hb hby at_6) rfl (l' := #[.val (.int pI1), .val (.int pI2), .val (.int pI3), .val (.int pI4), .val (.int ((pI1 &&& (2147483647 : Int32)) % (5 : Int32))), .unset, .unset, .unset, .unset, .unset, .unset, .unset, .unset, .unset, .unset, .unset, .unset]) rfl ?_
    refine XS.iloadN X0.here hx rfl (hb hby at_8) rfl ?_
    refine XS.iconst X0.here hx rfl (hb hby at_9) ?_
    show oS p e below s₁ m 10 #[.val (.int pI1), .val (.int pI2), .val (.int pI3), .val (.int pI4), .val (.int ((pI1 &&& (2147483647 : Int32)) % (5 : Int32))), .unset, .unset, .unset, .unset, .unset, .unset, .unset, .unset, .unset, .unset, .unset, .unset] [(.int 3), (.int pI2)] _
    refine XS.iand X0.here hx rfl (hb hby at_10) rfl ?_
    refine XS.iconst X0.here hx rfl (hb hby at_11) ?_
    show Steps p.tables e below (s₁.setTop (mkF m 12 #[.val (.int pI1), .val (.int pI2), .val (.int pI3), .val (.int pI4), .val (.int ((pI1 &&& (2147483647 : Int32)) % (5 : Int32))), .unset, .unset, .unset, .unset, .unset, .unset, .unset, .unset, .unset, .unset, .unset, .unset] [(.int 3), (.int (pI2 &&& (3 : Int32)))])) _
    refine iremM (g := (mkF m 12 #[.val (.int pI1), .val (.int pI2), .val (.int pI3), .val (.int pI4), .val (.int ((pI1 &&& (2147483647 : Int32)) % (5 : Int32))), .unset, .unset, .unset, .unset, .unset, .unset, .unset, .unset, .unset, .unset, .unset, .unset] [(.int 3), (.int (pI2 &&& (3 : Int32)))])) X0 hx rfl (hb hby at_12) rfl (by decide) ?_
    refine XS.istore X0.here hx rfl (hb hby at_13) rfl (l' := #[.val (.int pI1), .val (.int pI2), .val (.int pI3), .val (.int pI4), .val (.int ((pI1 &&& (2147483647 : Int32)) % (5 : Int32))), .val (.int ((pI2 &&& (3 : Int32)) % (3 : Int32))), .unset, .unset, .unset, .unset, .unset, .unset, .unset, .unset, .unset, .unset, .unset]) rfl ?_
    show oS p e below s₁ m 15 #[.val (.int pI1), .val (.int pI2), .val (.int pI3), .val (.int pI4), .val (.int ((pI1 &&& (2147483647 : Int32)) % (5 : Int32))), .val (.int ((pI2 &&& (3 : Int32)) % (3 : Int32))), .unset, .unset, .unset, .unset, .unset, .unset, .unset, .unset, .unset, .unset, .unset] [] _
    refine XS.iloadN X0.here hx rfl (hb hby at_15) rfl ?_
    refine XS.iconst X0.here hx rfl (hb hby at_16) ?_
    refine XS.iushr X0.here hx rfl (hb hby at_17) rfl ?_
    refine XS.iconst X0.here hx rfl (hb hby at_18) ?_
    show oS p e below s₁ m 19 #[.val (.int pI1), .val (.int pI2), .val (.int pI3), .val (.int pI4), .val (.int ((pI1 &&& (2147483647 : Int32)) % (5 : Int32))), .val (.int ((pI2 &&& (3 : Int32)) % (3 : Int32))), .unset, .unset, .unset, .unset, .unset, .unset, .unset, .unset, .unset, .unset, .unset] [(.int 3), (.int ((pI2.toUInt32 >>> ((2 : Int32) &&& 31).toUInt32).toInt32))] _
    refine XS.iand X0.here hx rfl (hb hby at_19) rfl ?_
    refine XS.iconst X0.here hx rfl (hb hby at_20) ?_
    show Steps p.tables e below (s₁.setTop (mkF m 21 #[.val (.int pI1), .val (.int pI2), .val (.int pI3), .val (.int pI4), .val (.int ((pI1 &&& (2147483647 : Int32)) % (5 : Int32))), .val (.int ((pI2 &&& (3 : Int32)) % (3 : Int32))), .unset, .unset, .unset, .unset, .unset, .unset, .unset, .unset, .unset, .unset, .unset] [(.int 3), (.int (((pI2.toUInt32 >>> ((2 : Int32) &&& 31).toUInt32).toInt32) &&& (3 : Int32)))])) _
    refine iremM (g := (mkF m 21 #[.val (.int pI1), .val (.int pI2), .val (.int pI3), .val (.int pI4), .val (.int ((pI1 &&& (2147483647 : Int32)) % (5 : Int32))), .val (.int ((pI2 &&& (3 : Int32)) % (3 : Int32))), .unset, .unset, .unset, .unset, .unset, .unset, .unset, .unset, .unset, .unset, .unset] [(.int 3), (.int (((pI2.toUInt32 >>> ((2 : Int32) &&& 31).toUInt32).toInt32) &&& (3 : Int32)))])) X0 hx rfl (hb hby at_21) rfl (by decide) ?_
    refine XS.istore X0.here hx rfl (hb hby at_22) rfl (l' := #[.val (.int pI1), .val (.int pI2), .val (.int pI3), .val (.int pI4), .val (.int ((pI1 &&& (2147483647 : Int32)) % (5 : Int32))), .val (.int ((pI2 &&& (3 : Int32)) % (3 : Int32))), .val (.int ((((pI2.toUInt32 >>> ((2 : Int32) &&& 31).toUInt32).toInt32) &&& (3 : Int32)) % (3 : Int32))), .unset, .unset, .unset, .unset, .unset, .unset, .unset, .unset, .unset, .unset]) rfl ?_
    show oS p e below s₁ m 24 #[.val (.int pI1), .val (.int pI2), .val (.int pI3), .val (.int pI4), .val (.int ((pI1 &&& (2147483647 : Int32)) % (5 : Int32))), .val (.int ((pI2 &&& (3 : Int32)) % (3 : Int32))), .val (.int ((((pI2.toUInt32 >>> ((2 : Int32) &&& 31).toUInt32).toInt32) &&& (3 : Int32)) % (3 : Int32))), .unset, .unset, .unset, .unset, .unset, .unset, .unset, .unset, .unset, .unset] [] _
    refine XS.iconst X0.here hx rfl (hb hby at_24) ?_
    refine st5 _ ?_
    refine XS.astore X5.here hx rfl (hb hby at_27) rfl rfl (l' := #[.val (.int pI1), .val (.int pI2), .val (.int pI3), .val (.int pI4), .val (.int ((pI1 &&& (2147483647 : Int32)) % (5 : Int32))), .val (.int ((pI2 &&& (3 : Int32)) % (3 : Int32))), .val (.int ((((pI2.toUInt32 >>> ((2 : Int32) &&& 31).toUInt32).toInt32) &&& (3 : Int32)) % (3 : Int32))), .val (.ref bR5), .unset, .unset, .unset, .unset, .unset, .unset, .unset, .unset, .unset]) rfl ?_
    refine XS.aload X5.here hx rfl (hb hby at_29) rfl rfl ?_
    show oS p e below T5 m 31 #[.val (.int pI1), .val (.int pI2), .val (.int pI3), .val (.int pI4), .val (.int ((pI1 &&& (2147483647 : Int32)) % (5 : Int32))), .val (.int ((pI2 &&& (3 : Int32)) % (3 : Int32))), .val (.int ((((pI2.toUInt32 >>> ((2 : Int32) &&& 31).toUInt32).toInt32) &&& (3 : Int32)) % (3 : Int32))), .val (.ref bR5), .unset, .unset, .unset, .unset, .unset, .unset, .unset, .unset, .unset] [(.ref bR5)] _
    refine XS.iconst X5.here hx rfl (hb hby at_31) ?_
    refine XS.iloadN X5.here hx rfl (hb hby at_32) rfl ?_
    refine XS.sipush X5.here hx rfl (hb hby at_33) ?_
    refine XS.iand X5.here hx rfl (hb hby at_36) rfl ?_
    show oS p e below T5 m 37 #[.val (.int pI1), .val (.int pI2), .val (.int pI3), .val (.int pI4), .val (.int ((pI1 &&& (2147483647 : Int32)) % (5 : Int32))), .val (.int ((pI2 &&& (3 : Int32)) % (3 : Int32))), .val (.int ((((pI2.toUInt32 >>> ((2 : Int32) &&& 31).toUInt32).toInt32) &&& (3 : Int32)) % (3 : Int32))), .val (.ref bR5), .unset, .unset, .unset, .unset, .unset, .unset, .unset, .unset, .unset] [(.int (pI3 &&& (255 : Int32))), (.int 0), (.ref bR5)] _
    refine XS.i2c X5.here hx rfl (hb hby at_37) rfl ?_
    refine st11 _ ?_
    refine XS.iconst X11.here hx rfl (hb hby at_39) ?_
    refine st14 _ ?_
    show oS p e below T14 m 42 #[.val (.int pI1), .val (.int pI2), .val (.int pI3), .val (.int pI4), .val (.int ((pI1 &&& (2147483647 : Int32)) % (5 : Int32))), .val (.int ((pI2 &&& (3 : Int32)) % (3 : Int32))), .val (.int ((((pI2.toUInt32 >>> ((2 : Int32) &&& 31).toUInt32).toInt32) &&& (3 : Int32)) % (3 : Int32))), .val (.ref bR5), .unset, .unset, .unset, .unset, .unset, .unset, .unset, .unset, .unset] [(.ref bR14)] _
    refine XS.astore X14.here hx rfl (hb hby at_42) rfl rfl (l' := #[.val (.int pI1), .val (.int pI2), .val (.int pI3), .val (.int pI4), .val (.int ((pI1 &&& (2147483647 : Int32)) % (5 : Int32))), .val (.int ((pI2 &&& (3 : Int32)) % (3 : Int32))), .val (.int ((((pI2.toUInt32 >>> ((2 : Int32) &&& 31).toUInt32).toInt32) &&& (3 : Int32)) % (3 : Int32))), .val (.ref bR5), .val (.ref bR14), .unset, .unset, .unset, .unset, .unset, .unset, .unset, .unset]) rfl ?_
    refine XS.aload X14.here hx rfl (hb hby at_44) rfl rfl ?_
    refine XS.iconst X14.here hx rfl (hb hby at_46) ?_
    refine XS.iloadN X14.here hx rfl (hb hby at_47) rfl ?_
    show oS p e below T14 m 48 #[.val (.int pI1), .val (.int pI2), .val (.int pI3), .val (.int pI4), .val (.int ((pI1 &&& (2147483647 : Int32)) % (5 : Int32))), .val (.int ((pI2 &&& (3 : Int32)) % (3 : Int32))), .val (.int ((((pI2.toUInt32 >>> ((2 : Int32) &&& 31).toUInt32).toInt32) &&& (3 : Int32)) % (3 : Int32))), .val (.ref bR5), .val (.ref bR14), .unset, .unset, .unset, .unset, .unset, .unset, .unset, .unset] [(.int pI3), (.int 0), (.ref bR14)] _
    refine XS.bipush X14.here hx rfl (hb hby at_48) ?_
    refine XS.iushr X14.here hx rfl (hb hby at_50) rfl ?_
    refine XS.sipush X14.here hx rfl (hb hby at_51) ?_
    refine XS.iand X14.here hx rfl (hb hby at_54) rfl ?_
    show oS p e below T14 m 55 #[.val (.int pI1), .val (.int pI2), .val (.int pI3), .val (.int pI4), .val (.int ((pI1 &&& (2147483647 : Int32)) % (5 : Int32))), .val (.int ((pI2 &&& (3 : Int32)) % (3 : Int32))), .val (.int ((((pI2.toUInt32 >>> ((2 : Int32) &&& 31).toUInt32).toInt32) &&& (3 : Int32)) % (3 : Int32))), .val (.ref bR5), .val (.ref bR14), .unset, .unset, .unset, .unset, .unset, .unset, .unset, .unset] [(.int (((pI3.toUInt32 >>> ((8 : Int32) &&& 31).toUInt32).toInt32) &&& (255 : Int32))), (.int 0), (.ref bR14)] _
    refine XS.i2c X14.here hx rfl (hb hby at_55) rfl ?_
    refine st20 _ ?_
    refine st23 _ ?_
    refine XS.dup X23.here hx rfl (hb hby at_60) rfl rfl ?_
    show oS p e below T23 m 61 #[.val (.int pI1), .val (.int pI2), .val (.int pI3), .val (.int pI4), .val (.int ((pI1 &&& (2147483647 : Int32)) % (5 : Int32))), .val (.int ((pI2 &&& (3 : Int32)) % (3 : Int32))), .val (.int ((((pI2.toUInt32 >>> ((2 : Int32) &&& 31).toUInt32).toInt32) &&& (3 : Int32)) % (3 : Int32))), .val (.ref bR5), .val (.ref bR14), .unset, .unset, .unset, .unset, .unset, .unset, .unset, .unset] [(.ref bR23), (.ref bR23)] _
    refine XS.aload X23.here hx rfl (hb hby at_61) rfl rfl ?_
    refine st38.trans ?_
    refine XS.astore X38.here hx rfl (hb hby at_66) rfl rfl (l' := #[.val (.int pI1), .val (.int pI2), .val (.int pI3), .val (.int pI4), .val (.int ((pI1 &&& (2147483647 : Int32)) % (5 : Int32))), .val (.int ((pI2 &&& (3 : Int32)) % (3 : Int32))), .val (.int ((((pI2.toUInt32 >>> ((2 : Int32) &&& 31).toUInt32).toInt32) &&& (3 : Int32)) % (3 : Int32))), .val (.ref bR5), .val (.ref bR14), .val (.ref bR23), .unset, .unset, .unset, .unset, .unset, .unset, .unset]) rfl ?_
    refine st41 _ ?_
    show oS p e below T41 m 71 #[.val (.int pI1), .val (.int pI2), .val (.int pI3), .val (.int pI4), .val (.int ((pI1 &&& (2147483647 : Int32)) % (5 : Int32))), .val (.int ((pI2 &&& (3 : Int32)) % (3 : Int32))), .val (.int ((((pI2.toUInt32 >>> ((2 : Int32) &&& 31).toUInt32).toInt32) &&& (3 : Int32)) % (3 : Int32))), .val (.ref bR5), .val (.ref bR14), .val (.ref bR23), .unset, .unset, .unset, .unset, .unset, .unset, .unset] [(.ref bR41)] _
    refine XS.dup X41.here hx rfl (hb hby at_71) rfl rfl ?_
    refine XS.aload X41.here hx rfl (hb hby at_72) rfl rfl ?_
    refine st52.trans ?_
    refine XS.astore X52.here hx rfl (hb hby at_77) rfl rfl (l' := #[.val (.int pI1), .val (.int pI2), .val (.int pI3), .val (.int pI4), .val (.int ((pI1 &&& (2147483647 : Int32)) % (5 : Int32))), .val (.int ((pI2 &&& (3 : Int32)) % (3 : Int32))), .val (.int ((((pI2.toUInt32 >>> ((2 : Int32) &&& 31).toUInt32).toInt32) &&& (3 : Int32)) % (3 : Int32))), .val (.ref bR5), .val (.ref bR14), .val (.ref bR23), .val (.ref bR41), .unset, .unset, .unset, .unset, .unset, .unset]) rfl ?_
    show oS p e below T52 m 79 #[.val (.int pI1), .val (.int pI2), .val (.int pI3), .val (.int pI4), .val (.int ((pI1 &&& (2147483647 : Int32)) % (5 : Int32))), .val (.int ((pI2 &&& (3 : Int32)) % (3 : Int32))), .val (.int ((((pI2.toUInt32 >>> ((2 : Int32) &&& 31).toUInt32).toInt32) &&& (3 : Int32)) % (3 : Int32))), .val (.ref bR5), .val (.ref bR14), .val (.ref bR23), .val (.ref bR41), .unset, .unset, .unset, .unset, .unset, .unset] [] _
    refine XS.iload X52.here hx rfl (hb hby at_79) rfl ?_
    refine XS.iloadN X52.here hx rfl (hb hby at_81) rfl ?_
    refine st56.trans ?_
    refine XS.astore X56.here hx rfl (hb hby at_85) rfl rfl (l' := #[.val (.int pI1), .val (.int pI2), .val (.int pI3), .val (.int pI4), .val (.int ((pI1 &&& (2147483647 : Int32)) % (5 : Int32))), .val (.int ((pI2 &&& (3 : Int32)) % (3 : Int32))), .val (.int ((((pI2.toUInt32 >>> ((2 : Int32) &&& 31).toUInt32).toInt32) &&& (3 : Int32)) % (3 : Int32))), .val (.ref bR5), .val (.ref bR14), .val (.ref bR23), .val (.ref bR41), .val (.ref bR56_0), .unset, .unset, .unset, .unset, .unset]) rfl ?_
    show oS p e below T56 m 87 #[.val (.int pI1), .val (.int pI2), .val (.int pI3), .val (.int pI4), .val (.int ((pI1 &&& (2147483647 : Int32)) % (5 : Int32))), .val (.int ((pI2 &&& (3 : Int32)) % (3 : Int32))), .val (.int ((((pI2.toUInt32 >>> ((2 : Int32) &&& 31).toUInt32).toInt32) &&& (3 : Int32)) % (3 : Int32))), .val (.ref bR5), .val (.ref bR14), .val (.ref bR23), .val (.ref bR41), .val (.ref bR56_0), .unset, .unset, .unset, .unset, .unset] [] _
    refine XS.iload X56.here hx rfl (hb hby at_87) rfl ?_
    refine XS.iloadN X56.here hx rfl (hb hby at_89) rfl ?_
    refine XS.bipush X56.here hx rfl (hb hby at_90) ?_
    refine XS.iushr X56.here hx rfl (hb hby at_92) rfl ?_
    show oS p e below T56 m 93 #[.val (.int pI1), .val (.int pI2), .val (.int pI3), .val (.int pI4), .val (.int ((pI1 &&& (2147483647 : Int32)) % (5 : Int32))), .val (.int ((pI2 &&& (3 : Int32)) % (3 : Int32))), .val (.int ((((pI2.toUInt32 >>> ((2 : Int32) &&& 31).toUInt32).toInt32) &&& (3 : Int32)) % (3 : Int32))), .val (.ref bR5), .val (.ref bR14), .val (.ref bR23), .val (.ref bR41), .val (.ref bR56_0), .unset, .unset, .unset, .unset, .unset] [(.int ((pI4.toUInt32 >>> ((8 : Int32) &&& 31).toUInt32).toInt32)), (.int ((((pI2.toUInt32 >>> ((2 : Int32) &&& 31).toUInt32).toInt32) &&& (3 : Int32)) % (3 : Int32)))] _
    refine st59 _ ?_
    refine XS.astore X59.here hx rfl (hb hby at_96) rfl rfl (l' := #[.val (.int pI1), .val (.int pI2), .val (.int pI3), .val (.int pI4), .val (.int ((pI1 &&& (2147483647 : Int32)) % (5 : Int32))), .val (.int ((pI2 &&& (3 : Int32)) % (3 : Int32))), .val (.int ((((pI2.toUInt32 >>> ((2 : Int32) &&& 31).toUInt32).toInt32) &&& (3 : Int32)) % (3 : Int32))), .val (.ref bR5), .val (.ref bR14), .val (.ref bR23), .val (.ref bR41), .val (.ref bR56_0), .val .null, .unset, .unset, .unset, .unset]) rfl ?_
    refine st60 _ ?_
    refine XS.dup X60.here hx rfl (hb hby at_101) rfl rfl ?_
    show oS p e below T60 m 102 #[.val (.int pI1), .val (.int pI2), .val (.int pI3), .val (.int pI4), .val (.int ((pI1 &&& (2147483647 : Int32)) % (5 : Int32))), .val (.int ((pI2 &&& (3 : Int32)) % (3 : Int32))), .val (.int ((((pI2.toUInt32 >>> ((2 : Int32) &&& 31).toUInt32).toInt32) &&& (3 : Int32)) % (3 : Int32))), .val (.ref bR5), .val (.ref bR14), .val (.ref bR23), .val (.ref bR41), .val (.ref bR56_0), .val .null, .unset, .unset, .unset, .unset] [(.ref bR60), (.ref bR60)] _
    refine XS.iload X60.here hx rfl (hb hby at_102) rfl ?_
    refine st112 _ ?_
    refine XS.aload X112.here hx rfl (hb hby at_107) rfl rfl ?_
    refine XS.aload X112.here hx rfl (hb hby at_109) rfl rfl ?_
    show oS p e below T112 m 111 #[.val (.int pI1), .val (.int pI2), .val (.int pI3), .val (.int pI4), .val (.int ((pI1 &&& (2147483647 : Int32)) % (5 : Int32))), .val (.int ((pI2 &&& (3 : Int32)) % (3 : Int32))), .val (.int ((((pI2.toUInt32 >>> ((2 : Int32) &&& 31).toUInt32).toInt32) &&& (3 : Int32)) % (3 : Int32))), .val (.ref bR5), .val (.ref bR14), .val (.ref bR23), .val (.ref bR41), .val (.ref bR56_0), .val .null, .unset, .unset, .unset, .unset] [(.ref bR41), (.ref bR23), (.ref bR112_0), (.ref bR60), (.ref bR60)] _
    refine XS.aload X112.here hx rfl (hb hby at_111) rfl rfl ?_
    refine XS.aload X112.here hx rfl (hb hby at_113) rfl rfl ?_
    refine st122.trans ?_
    refine XS.astore X122.here hx rfl (hb hby at_118) rfl rfl (l' := #[.val (.int pI1), .val (.int pI2), .val (.int pI3), .val (.int pI4), .val (.int ((pI1 &&& (2147483647 : Int32)) % (5 : Int32))), .val (.int ((pI2 &&& (3 : Int32)) % (3 : Int32))), .val (.int ((((pI2.toUInt32 >>> ((2 : Int32) &&& 31).toUInt32).toInt32) &&& (3 : Int32)) % (3 : Int32))), .val (.ref bR5), .val (.ref bR14), .val (.ref bR23), .val (.ref bR41), .val (.ref bR56_0), .val .null, .val (.ref bR60), .unset, .unset, .unset]) rfl ?_
    show oS p e below T122 m 120 #[.val (.int pI1), .val (.int pI2), .val (.int pI3), .val (.int pI4), .val (.int ((pI1 &&& (2147483647 : Int32)) % (5 : Int32))), .val (.int ((pI2 &&& (3 : Int32)) % (3 : Int32))), .val (.int ((((pI2.toUInt32 >>> ((2 : Int32) &&& 31).toUInt32).toInt32) &&& (3 : Int32)) % (3 : Int32))), .val (.ref bR5), .val (.ref bR14), .val (.ref bR23), .val (.ref bR41), .val (.ref bR56_0), .val .null, .val (.ref bR60), .unset, .unset, .unset] [] _
    refine XS.iload X122.here hx rfl (hb hby at_120) rfl ?_
    refine XS.ifNo X122.here hx rfl (hb hby at_122) rfl ((if0 _ _).trans (feq hc82).1) ?_
    refine XS.iconst X122.here hx rfl (hb hby at_125) ?_
    refine XS.goto X122.here hx rfl (pc0 := 126) (pc' := 130) rfl (hb hby at_126) (by decide) (by decide) ?_
    show oS p e below T122 m 130 #[.val (.int pI1), .val (.int pI2), .val (.int pI3), .val (.int pI4), .val (.int ((pI1 &&& (2147483647 : Int32)) % (5 : Int32))), .val (.int ((pI2 &&& (3 : Int32)) % (3 : Int32))), .val (.int ((((pI2.toUInt32 >>> ((2 : Int32) &&& 31).toUInt32).toInt32) &&& (3 : Int32)) % (3 : Int32))), .val (.ref bR5), .val (.ref bR14), .val (.ref bR23), .val (.ref bR41), .val (.ref bR56_0), .val .null, .val (.ref bR60), .unset, .unset, .unset] [(.int 1)] _
    refine XS.istore X122.here hx rfl (hb hby at_130) rfl (l' := #[.val (.int pI1), .val (.int pI2), .val (.int pI3), .val (.int pI4), .val (.int ((pI1 &&& (2147483647 : Int32)) % (5 : Int32))), .val (.int ((pI2 &&& (3 : Int32)) % (3 : Int32))), .val (.int ((((pI2.toUInt32 >>> ((2 : Int32) &&& 31).toUInt32).toInt32) &&& (3 : Int32)) % (3 : Int32))), .val (.ref bR5), .val (.ref bR14), .val (.ref bR23), .val (.ref bR41), .val (.ref bR56_0), .val .null, .val (.ref bR60), .val (.int 1), .unset, .unset]) rfl ?_
    refine XS.iload X122.here hx rfl (hb hby at_132) rfl ?_
    refine XS.ifYes X122.here hx rfl (pc0 := 134) (pc' := 141) rfl (hb hby at_134) rfl ((if0 _ _).trans (teq hc93).1) (by decide) (by decide) ?_
    refine XS.iconst X122.here hx rfl (hb hby at_141) ?_
    show oS p e below T122 m 142 #[.val (.int pI1), .val (.int pI2), .val (.int pI3), .val (.int pI4), .val (.int ((pI1 &&& (2147483647 : Int32)) % (5 : Int32))), .val (.int ((pI2 &&& (3 : Int32)) % (3 : Int32))), .val (.int ((((pI2.toUInt32 >>> ((2 : Int32) &&& 31).toUInt32).toInt32) &&& (3 : Int32)) % (3 : Int32))), .val (.ref bR5), .val (.ref bR14), .val (.ref bR23), .val (.ref bR41), .val (.ref bR56_0), .val .null, .val (.ref bR60), .val (.int 1), .unset, .unset] [(.int 0)] _
    refine XS.istore X122.here hx rfl (hb hby at_142) rfl (l' := #[.val (.int pI1), .val (.int pI2), .val (.int pI3), .val (.int pI4), .val (.int ((pI1 &&& (2147483647 : Int32)) % (5 : Int32))), .val (.int ((pI2 &&& (3 : Int32)) % (3 : Int32))), .val (.int ((((pI2.toUInt32 >>> ((2 : Int32) &&& 31).toUInt32).toInt32) &&& (3 : Int32)) % (3 : Int32))), .val (.ref bR5), .val (.ref bR14), .val (.ref bR23), .val (.ref bR41), .val (.ref bR56_0), .val .null, .val (.ref bR60), .val (.int 1), .val (.int 0), .unset]) rfl ?_
    refine XS.iload X122.here hx rfl (hb hby at_144) rfl ?_
    refine XS.ifNo X122.here hx rfl (hb hby at_146) rfl ((if0 _ _).trans (feq (by decide : ¬ ((1 : Int32) = (0 : Int32)))).1) ?_
    refine XS.iconst X122.here hx rfl (hb hby at_149) ?_
    show oS p e below T122 m 150 #[.val (.int pI1), .val (.int pI2), .val (.int pI3), .val (.int pI4), .val (.int ((pI1 &&& (2147483647 : Int32)) % (5 : Int32))), .val (.int ((pI2 &&& (3 : Int32)) % (3 : Int32))), .val (.int ((((pI2.toUInt32 >>> ((2 : Int32) &&& 31).toUInt32).toInt32) &&& (3 : Int32)) % (3 : Int32))), .val (.ref bR5), .val (.ref bR14), .val (.ref bR23), .val (.ref bR41), .val (.ref bR56_0), .val .null, .val (.ref bR60), .val (.int 1), .val (.int 0), .unset] [(.int 1)] _
    refine XS.istore X122.here hx rfl (hb hby at_150) rfl (l' := #[.val (.int pI1), .val (.int pI2), .val (.int pI3), .val (.int pI4), .val (.int ((pI1 &&& (2147483647 : Int32)) % (5 : Int32))), .val (.int ((pI2 &&& (3 : Int32)) % (3 : Int32))), .val (.int ((((pI2.toUInt32 >>> ((2 : Int32) &&& 31).toUInt32).toInt32) &&& (3 : Int32)) % (3 : Int32))), .val (.ref bR5), .val (.ref bR14), .val (.ref bR23), .val (.ref bR41), .val (.ref bR56_0), .val .null, .val (.ref bR60), .val (.int 1), .val (.int 0), .val (.int 1)]) rfl ?_
    refine XS.goto X122.here hx rfl (pc0 := 152) (pc' := 169) rfl (hb hby at_152) (by decide) (by decide) ?_
    refine XS.aload X122.here hx rfl (hb hby at_169) rfl rfl ?_
    refine st125.trans ?_
    show oS p e below T125 m 174 #[.val (.int pI1), .val (.int pI2), .val (.int pI3), .val (.int pI4), .val (.int ((pI1 &&& (2147483647 : Int32)) % (5 : Int32))), .val (.int ((pI2 &&& (3 : Int32)) % (3 : Int32))), .val (.int ((((pI2.toUInt32 >>> ((2 : Int32) &&& 31).toUInt32).toInt32) &&& (3 : Int32)) % (3 : Int32))), .val (.ref bR5), .val (.ref bR14), .val (.ref bR23), .val (.ref bR41), .val (.ref bR56_0), .val .null, .val (.ref bR60), .val (.int 1), .val (.int 0), .val (.int 1)] [(.int 1)] _
    refine XS.iload X125.here hx rfl (hb hby at_174) rfl ?_
    refine XS.icmpNo X125.here hx rfl (hb hby at_176) rfl (teq (by decide : (1 : Int32) = (1 : Int32))).2 ?_
    refine XS.iconst X125.here hx rfl (hb hby at_179) ?_
    refine XS.goto X125.here hx rfl (pc0 := 180) (pc' := 184) rfl (hb hby at_180) (by decide) (by decide) ?_
    show oS p e below T125 m 184 #[.val (.int pI1), .val (.int pI2), .val (.int pI3), .val (.int pI4), .val (.int ((pI1 &&& (2147483647 : Int32)) % (5 : Int32))), .val (.int ((pI2 &&& (3 : Int32)) % (3 : Int32))), .val (.int ((((pI2.toUInt32 >>> ((2 : Int32) &&& 31).toUInt32).toInt32) &&& (3 : Int32)) % (3 : Int32))), .val (.ref bR5), .val (.ref bR14), .val (.ref bR23), .val (.ref bR41), .val (.ref bR56_0), .val .null, .val (.ref bR60), .val (.int 1), .val (.int 0), .val (.int 1)] [(.int 1)] _
    exact retN X125 hx (t := .boolean) Bd.returns (by simp) (hb hby at_184) hr
  · show QlawRRN Z pI1 pI2 pI3 pI4 pI31 pR68 pR79 pR90 pR101 h0 n0 _ T125.heap _
    rw [e125]
    exact ⟨rfl, N125⟩
theorem ef_lawRRR (m : MethodId) (pI1 : Int32) (pI2 : Int32) (pI3 : Int32) (pI4 : Int32) : entryFrame m #[(.int pI1), (.int pI2), (.int pI3), (.int pI4)] maxLocals = mkF m 0 #[.val (.int pI1), .val (.int pI2), .val (.int pI3), .val (.int pI4), .unset, .unset, .unset, .unset, .unset, .unset, .unset, .unset, .unset, .unset, .unset, .unset, .unset] [] := by first | (simp [entryFrame, mkF, argsToLocals, Value.category, maxLocals]; done) | rfl
def QlawRRR (Z : State) (pI1 : Int32) (pI2 : Int32) (pI3 : Int32) (pI4 : Int32) (pI31 : Int32) (pR71 : Addr) (pR83 : Addr) (pR95 : Addr) (pR107 : Addr) (h0 : Heap) (n0 : Nat) (v : Option Value) (h : Heap) (L : List Loc) : Prop := v = some (.int 1) ∧ Fr n0 L
set_option maxRecDepth 65536 in
set_option maxHeartbeats 40000000 in
theorem lawRRR (l : Launch) (Z : State) (a0 : Array Value) (hw : ∀ d ∈ tables_1, d.before a0 Z = true) (ws : List Jvm.Cond) (pI1 : Int32) (pI2 : Int32) (pI3 : Int32) (pI4 : Int32) (pI31 : Int32) (pR71 : Addr) (pR83 : Addr) (pR95 : Addr) (pR107 : Addr) (h0 : Heap) (n0 : Nat) (Z0 : n0 ≤ h0.size) (S_String_COMPACT_STRINGS : Sta Z h0 "java/lang/String" "COMPACT_STRINGS" "Z" (.int pI31)) (S_LabResults_Comparator_LESS : Sta Z h0 "com/example/pergamena/pergamena/build/LabResults$Comparator" "LESS" "Lcom/example/pergamena/pergamena/build/LabResults$Comparator;" (.ref pR71)) (S_LabResults_Comparator_AT_MOST : Sta Z h0 "com/example/pergamena/pergamena/build/LabResults$Comparator" "AT_MOST" "Lcom/example/pergamena/pergamena/build/LabResults$Comparator;" (.ref pR83)) (S_LabResults_Comparator_GREATER : Sta Z h0 "com/example/pergamena/pergamena/build/LabResults$Comparator" "GREATER" "Lcom/example/pergamena/pergamena/build/LabResults$Comparator;" (.ref pR95)) (S_LabResults_Comparator_AT_LEAST : Sta Z h0 "com/example/pergamena/pergamena/build/LabResults$Comparator" "AT_LEAST" "Lcom/example/pergamena/pergamena/build/LabResults$Comparator;" (.ref pR107)) (hc63 : ¬ (pI31 = (0 : Int32))) (hc82 : ¬ (((pI2 &&& (3 : Int32)) % (3 : Int32)) = (0 : Int32))) (hc93 : ¬ (((((pI2.toUInt32 >>> ((2 : Int32) &&& 31).toUInt32).toInt32) &&& (3 : Int32)) % (3 : Int32)) = (0 : Int32))) (hc104 : ¬ (((pI1 &&& (2147483647 : Int32)) % (5 : Int32)) = (0 : Int32))) :
    oMW l x code maxLocals ret ws room_1 #[(.int pI1), (.int pI2), (.int pI3), (.int pI4)] Z h0 (QlawRRR Z pI1 pI2 pI3 pI4 pI31 pR71 pR83 pR95 pR107 h0 n0) := by
  refine MetFree.of_bodySF (plainFor_of_name pn_2) hisR ?_
  intro p e s m args below meth c s₁ Bd hml0 hP hK
  obtain ⟨rfl, hZ, hh⟩ := hP
  have hx := Bd.exec
  have hby := Bd.bytes
  have hml : c.maxLocals = 17 := hml0
  have hown : s.vm.findClass "com/example/pergamena/pergamena/build/QuantityHasRangePinLaw" = some m.cls := findClass_of_methodNamed Bd.named
  have hnm := (name_of_methodNamed Bd.named Bd.method).1
  have X0 : Stand p l e room_1 s m #[(.int pI1), (.int pI2), (.int pI3), (.int pI4)] below meth c s₁ [] 0 0 := Stand.of_body Bd
  have e0 : s₁.heap = h0 := by rw [← hh, Bd.state]; rfl
  have N0 := Fr.nil n0
  have X0 : Stand p l e room_1 (s.setVm s.vm) m #[(.int pI1), (.int pI2), (.int pI3), (.int pI4)] below meth c s₁ [] 0 0 := X0
  have hS0 : s.Since s.vm 0 := (State.WarmedH.refl s).since 0
  have hk0 : 0 ≤ h0.size := Nat.zero_le _
  have hZ : Z.Warmed39 (s.setVm s.vm).vm := hZ
  have hown : (s.setVm s.vm).vm.findClass "com/example/pergamena/pergamena/build/QuantityHasRangePinLaw" = some m.cls := hown
  obtain ⟨T5, h5, k5, X5, e5, E5, A5, st5⟩ := newP X0 hx hZ (ow hw 1 rfl) e0 (g := (mkF m 25 #[.val (.int pI1), .val (.int pI2), .val (.int pI3), .val (.int pI4), .val (.int ((pI1 &&& (2147483647 : Int32)) % (5 : Int32))), .val (.int ((pI2 &&& (3 : Int32)) % (3 : Int32))), .val (.int ((((pI2.toUInt32 >>> ((2 : Int32) &&& 31).toUInt32).toInt32) &&& (3 : Int32)) % (3 : Int32))), .unset, .unset, .unset, .unset, .unset, .unset, .unset, .unset, .unset, .unset] [(.int 1)])) rfl (hb hby at_25) rfl (by decide) (cap := 1) (by decide) (by decide) (by decide) (by decide)
  obtain ⟨bR5, g5⟩ : ∃ z, z = h0.size := ⟨_, rfl⟩
  rw [← g5] at A5 st5
  have Z7 : n0 ≤ h5.size := (Nat.le_trans Z0 E5.1)
  have V5 : Arv Z h5 bR5 k5 .char (1 : Int32) [(.int 0)] (.int (0 : Int32)) := (Arv.new A5 (by decide)).pad (pad_rep [] (.int (0 : Int32)) 1)
  have g8 : n0 ≤ bR5 := Nat.le_trans Z0 (Nat.le_of_eq g5.symm)
  obtain ⟨clq9, Arq9, Akq9, Asq9, Anq9, Ahq9, Agq9⟩ := id V5
  have hin10 : ¬ ((0 : Int32) < 0 ∨ clq9.slots.size ≤ ((0 : Int32)).toNatClampNeg) := inb_of Asq9 ⟨by decide, by decide⟩
  obtain ⟨T11, h11, X11, e11, W11, st11⟩ := stC X5 hx hZ e5 Arq9 (j := (0 : Int32)) hin10 (g := (mkF m 38 #[.val (.int pI1), .val (.int pI2), .val (.int pI3), .val (.int pI4), .val (.int ((pI1 &&& (2147483647 : Int32)) % (5 : Int32))), .val (.int ((pI2 &&& (3 : Int32)) % (3 : Int32))), .val (.int ((((pI2.toUInt32 >>> ((2 : Int32) &&& 31).toUInt32).toInt32) &&& (3 : Int32)) % (3 : Int32))), .val (.ref bR5), .unset, .unset, .unset, .unset, .unset, .unset, .unset, .unset, .unset] [(.int ((pI3 &&& (255 : Int32)).toUInt32.toUInt16.toUInt32.toInt32)), (.int 0), (.ref bR5)])) rfl rfl (hb hby at_38)
  rw [own_narc (own_c255 _)] at W11
  have Z13 : n0 ≤ h11.size := (Nat.le_trans Z7 (Keep.of_wr W11).1)
  have N11 := Fr.snoc X11 N0 g8
  obtain ⟨Lh11, X11, N11⟩ := own_hide X11 N11
  have V11 : Arv Z h11 bR5 k5 .char (1 : Int32) [(.int ((pI3 &&& (255 : Int32)).toUInt32.toUInt16.toUInt32.toInt32))] (.int (0 : Int32)) := Arv.set Arq9 Akq9 Asq9 Anq9 Ahq9 Agq9 (own_fitc (own_c255 _)) W11 0 rfl (Nat.le_of_ble_eq_true rfl)
  obtain ⟨T14, h14, k14, X14, e14, E14, A14, st14⟩ := newP X11 hx hZ (ow hw 1 rfl) e11 (g := (mkF m 40 #[.val (.int pI1), .val (.int pI2), .val (.int pI3), .val (.int pI4), .val (.int ((pI1 &&& (2147483647 : Int32)) % (5 : Int32))), .val (.int ((pI2 &&& (3 : Int32)) % (3 : Int32))), .val (.int ((((pI2.toUInt32 >>> ((2 : Int32) &&& 31).toUInt32).toInt32) &&& (3 : Int32)) % (3 : Int32))), .val (.ref bR5), .unset, .unset, .unset, .unset, .unset, .unset, .unset, .unset, .unset] [(.int 1)])) rfl (hb hby at_40) rfl (by decide) (cap := 1) (by decide) (by decide) (by decide) (by decide)
  obtain ⟨bR14, g14⟩ : ∃ z, z = h11.size := ⟨_, rfl⟩
  rw [← g14] at A14 st14
  have Z16 : n0 ≤ h14.size := (Nat.le_trans Z13 E14.1)
  have V14 : Arv Z h14 bR14 k14 .char (1 : Int32) [(.int 0)] (.int (0 : Int32)) := (Arv.new A14 (by decide)).pad (pad_rep [] (.int (0 : Int32)) 1)
  have g17 : n0 ≤ bR14 := Nat.le_trans Z13 (Nat.le_of_eq g14.symm)
  obtain ⟨clq18, Arq18, Akq18, Asq18, Anq18, Ahq18, Agq18⟩ := id V14
  have hin19 : ¬ ((0 : Int32) < 0 ∨ clq18.slots.size ≤ ((0 : Int32)).toNatClampNeg) := inb_of Asq18 ⟨by decide, by decide⟩
  obtain ⟨T20, h20, X20, e20, W20, st20⟩ := stC X14 hx hZ e14 Arq18 (j := (0 : Int32)) hin19 (g := (mkF m 56 #[.val (.int pI1), .val (.int pI2), .val (.int pI3), .val (.int pI4), .val (.int ((pI1 &&& (2147483647 : Int32)) % (5 : Int32))), .val (.int ((pI2 &&& (3 : Int32)) % (3 : Int32))), .val (.int ((((pI2.toUInt32 >>> ((2 : Int32) &&& 31).toUInt32).toInt32) &&& (3 : Int32)) % (3 : Int32))), .val (.ref bR5), .val (.ref bR14), .unset, .unset, .unset, .unset, .unset, .unset, .unset, .unset] [(.int ((((pI3.toUInt32 >>> ((8 : Int32) &&& 31).toUInt32).toInt32) &&& (255 : Int32)).toUInt32.toUInt16.toUInt32.toInt32)), (.int 0), (.ref bR14)])) rfl rfl (hb hby at_56)
  rw [own_narc (own_c255 _)] at W20
  have Z22 : n0 ≤ h20.size := (Nat.le_trans Z16 (Keep.of_wr W20).1)
  have N20 := Fr.snoc X20 N11 g17
  obtain ⟨Lh20, X20, N20⟩ := own_hide X20 N20
  have V20 : Arv Z h20 bR14 k14 .char (1 : Int32) [(.int ((((pI3.toUInt32 >>> ((8 : Int32) &&& 31).toUInt32).toInt32) &&& (255 : Int32)).toUInt32.toUInt16.toUInt32.toInt32))] (.int (0 : Int32)) := Arv.set Arq18 Akq18 Asq18 Anq18 Ahq18 Agq18 (own_fitc (own_c255 _)) W20 0 rfl (Nat.le_of_ble_eq_true rfl)
  obtain ⟨T23, h23, X23, e23, E23, A23, D23, U23, st23⟩ := newO X20 hx hZ hown (ow hw 2 rfl) (ow hw 3 rfl) (ow hw 4 rfl) e20 (g := (mkF m 57 #[.val (.int pI1), .val (.int pI2), .val (.int pI3), .val (.int pI4), .val (.int ((pI1 &&& (2147483647 : Int32)) % (5 : Int32))), .val (.int ((pI2 &&& (3 : Int32)) % (3 : Int32))), .val (.int ((((pI2.toUInt32 >>> ((2 : Int32) &&& 31).toUInt32).toInt32) &&& (3 : Int32)) % (3 : Int32))), .val (.ref bR5), .val (.ref bR14), .unset, .unset, .unset, .unset, .unset, .unset, .unset, .unset] [])) rfl (hb hby at_57) (by decide) (by decide)
  obtain ⟨bR23, g23⟩ : ∃ z, z = h20.size := ⟨_, rfl⟩
  rw [← g23] at A23 D23 U23 st23
  have Z25 : n0 ≤ h23.size := (Nat.le_trans Z22 E23.1)
  have F26 : Fld Z h23 bR23 "java/lang/String" "coder" "B" (.int 0) := D23 (Or.inr (ow hw 28 rfl)) (ty := .byte) (by decide)
  have F27 : Fld Z h23 bR23 "java/lang/String" "value" "[B" .null := D23 (Or.inr (ow hw 30 rfl)) (ty := (.array .byte)) (by decide)
  have c28 : Arv Z h14 bR5 k5 .char (1 : Int32) [(.int ((pI3 &&& (255 : Int32)).toUInt32.toUInt16.toUInt32.toInt32))] (.int (0 : Int32)) := V11.ext E14
  have c29 : Arv Z h20 bR5 k5 .char (1 : Int32) [(.int ((pI3 &&& (255 : Int32)).toUInt32.toUInt16.toUInt32.toInt32))] (.int (0 : Int32)) := c28.other W20 (Nat.ne_of_lt (Nat.lt_of_lt_of_le V11.lt (Nat.le_of_eq g14.symm)))
  have c30 : Arv Z h23 bR5 k5 .char (1 : Int32) [(.int ((pI3 &&& (255 : Int32)).toUInt32.toUInt16.toUInt32.toInt32))] (.int (0 : Int32)) := c29.ext E23
  have c32 : Sta Z h5 "java/lang/String" "COMPACT_STRINGS" "Z" (.int pI31) := S_String_COMPACT_STRINGS.ext E5
  have c33 : Sta Z h11 "java/lang/String" "COMPACT_STRINGS" "Z" (.int pI31) := c32.wr W11
  have c34 : Sta Z h14 "java/lang/String" "COMPACT_STRINGS" "Z" (.int pI31) := c33.ext E14
  have c35 : Sta Z h20 "java/lang/String" "COMPACT_STRINGS" "Z" (.int pI31) := c34.wr W20
  have c36 : Sta Z h23 "java/lang/String" "COMPACT_STRINGS" "Z" (.int pI31) := c35.ext E23
  have g37 : n0 ≤ bR23 := Nat.le_trans Z22 (Nat.le_of_eq g23.symm)
  obtain ⟨_, _, ⟨T38, L38, k38, n38⟩, -, X38, ⟨Lc38, hQ38, l38, y38, z38⟩, st38⟩ := X23.specialBack hx (y := yN4) rfl hown (mvT hZ (ow hw 5 rfl)) (mvT hZ (ow hw 6 rfl)) (mvT hZ (ow hw 7 rfl)) (by decide) (backOf (W := 1) (str l Z a0 hw [] bR23 bR5 ((pI3 &&& (255 : Int32)).toUInt32.toUInt16.toUInt32.toInt32) k5 pI31 h23 n0 Z25 c30 c36 A23 F26 g37 F27 hc63 (own_l255 _ : ¬ ((255 : Int32) < ((pI3 &&& (255 : Int32)).toUInt32.toUInt16.toUInt32.toInt32)))) hZ (ow hw 7 rfl) (ow hw 4 rfl) (by decide) (by decide)) (g := (mkF m 63 #[.val (.int pI1), .val (.int pI2), .val (.int pI3), .val (.int pI4), .val (.int ((pI1 &&& (2147483647 : Int32)) % (5 : Int32))), .val (.int ((pI2 &&& (3 : Int32)) % (3 : Int32))), .val (.int ((((pI2.toUInt32 >>> ((2 : Int32) &&& 31).toUInt32).toInt32) &&& (3 : Int32)) % (3 : Int32))), .val (.ref bR5), .val (.ref bR14), .unset, .unset, .unset, .unset, .unset, .unset, .unset, .unset] [(.ref bR5), (.ref bR23), (.ref bR23)])) rfl (by rw [hml]; rfl) (Steps.refl _) (a := bR23) (argsL := [(.ref bR5)]) (rest := [(.ref bR23)]) (lenOf pd_4 rfl) rfl (Nat.le_refl _) (hb hby at_63) (fun _ _ => ⟨rfl, e23, (by decide : 3 + 1 ≤ _), (by decide : 6 + 1 ≤ _)⟩)
  dsimp only [Pt.U, Pt.locs, Pt.cells, Pt.slots] at X38 l38 y38 z38 st38 hQ38
  subst l38 y38 z38
  obtain ⟨bR38_0, kK38_0, rfl, Nq38, Kq38, sz38_0, x38_0, x38_1, x38_2, x38_3⟩ := hQ38
  have N38 := Fr.app N20 Nq38
  obtain ⟨Lh38, X38, N38⟩ := own_hide X38 N38
  have Z40 : n0 ≤ T38.heap.size := (Nat.le_trans Z25 Kq38.1)
  obtain ⟨T41, h41, X41, e41, E41, A41, D41, U41, st41⟩ := newO X38 hx hZ hown (ow hw 2 rfl) (ow hw 3 rfl) (ow hw 4 rfl) rfl (g := (mkF m 68 #[.val (.int pI1), .val (.int pI2), .val (.int pI3), .val (.int pI4), .val (.int ((pI1 &&& (2147483647 : Int32)) % (5 : Int32))), .val (.int ((pI2 &&& (3 : Int32)) % (3 : Int32))), .val (.int ((((pI2.toUInt32 >>> ((2 : Int32) &&& 31).toUInt32).toInt32) &&& (3 : Int32)) % (3 : Int32))), .val (.ref bR5), .val (.ref bR14), .val (.ref bR23), .unset, .unset, .unset, .unset, .unset, .unset, .unset] [])) rfl (hb hby at_68) (by decide) (by decide)
  obtain ⟨bR41, g41⟩ : ∃ z, z = T38.heap.size := ⟨_, rfl⟩
  rw [← g41] at A41 D41 U41 st41
  have Z43 : n0 ≤ h41.size := (Nat.le_trans Z40 E41.1)
  have F44 : Fld Z h41 bR41 "java/lang/String" "coder" "B" (.int 0) := D41 (Or.inr (ow hw 28 rfl)) (ty := .byte) (by decide)
  have F45 : Fld Z h41 bR41 "java/lang/String" "value" "[B" .null := D41 (Or.inr (ow hw 30 rfl)) (ty := (.array .byte)) (by decide)
  have c46 : Arv Z h23 bR14 k14 .char (1 : Int32) [(.int ((((pI3.toUInt32 >>> ((8 : Int32) &&& 31).toUInt32).toInt32) &&& (255 : Int32)).toUInt32.toUInt16.toUInt32.toInt32))] (.int (0 : Int32)) := V20.ext E23
  have c47 : Arv Z T38.heap bR14 k14 .char (1 : Int32) [(.int ((((pI3.toUInt32 >>> ((8 : Int32) &&& 31).toUInt32).toInt32) &&& (255 : Int32)).toUInt32.toUInt16.toUInt32.toInt32))] (.int (0 : Int32)) := c46.keep Kq38 (ninS (Nat.ne_of_lt (Nat.lt_of_lt_of_le V20.lt (Nat.le_of_eq g23.symm))) nin0)
  have c48 : Arv Z h41 bR14 k14 .char (1 : Int32) [(.int ((((pI3.toUInt32 >>> ((8 : Int32) &&& 31).toUInt32).toInt32) &&& (255 : Int32)).toUInt32.toUInt16.toUInt32.toInt32))] (.int (0 : Int32)) := c47.ext E41
  have c49 : Sta Z T38.heap "java/lang/String" "COMPACT_STRINGS" "Z" (.int pI31) := own_sta_keep c36 Kq38 (allS (own_plain_E A23) all0)
  have c50 : Sta Z h41 "java/lang/String" "COMPACT_STRINGS" "Z" (.int pI31) := c49.ext E41
  have g51 : n0 ≤ bR41 := Nat.le_trans Z40 (Nat.le_of_eq g41.symm)
  obtain ⟨_, _, ⟨T52, L52, k52, n52⟩, -, X52, ⟨Lc52, hQ52, l52, y52, z52⟩, st52⟩ := X41.specialBack hx (y := yN4) rfl hown (mvT hZ (ow hw 5 rfl)) (mvT hZ (ow hw 6 rfl)) (mvT hZ (ow hw 7 rfl)) (by decide) (backOf (W := 1) (str l Z a0 hw [] bR41 bR14 ((((pI3.toUInt32 >>> ((8 : Int32) &&& 31).toUInt32).toInt32) &&& (255 : Int32)).toUInt32.toUInt16.toUInt32.toInt32) k14 pI31 h41 n0 Z43 c48 c50 A41 F44 g51 F45 hc63 (own_l255 _ : ¬ ((255 : Int32) < ((((pI3.toUInt32 >>> ((8 : Int32) &&& 31).toUInt32).toInt32) &&& (255 : Int32)).toUInt32.toUInt16.toUInt32.toInt32)))) hZ (ow hw 7 rfl) (ow hw 4 rfl) (by decide) (by decide)) (g := (mkF m 74 #[.val (.int pI1), .val (.int pI2), .val (.int pI3), .val (.int pI4), .val (.int ((pI1 &&& (2147483647 : Int32)) % (5 : Int32))), .val (.int ((pI2 &&& (3 : Int32)) % (3 : Int32))), .val (.int ((((pI2.toUInt32 >>> ((2 : Int32) &&& 31).toUInt32).toInt32) &&& (3 : Int32)) % (3 : Int32))), .val (.ref bR5), .val (.ref bR14), .val (.ref bR23), .unset, .unset, .unset, .unset, .unset, .unset, .unset] [(.ref bR14), (.ref bR41), (.ref bR41)])) rfl (by rw [hml]; rfl) (Steps.refl _) (a := bR41) (argsL := [(.ref bR14)]) (rest := [(.ref bR41)]) (lenOf pd_4 rfl) rfl (Nat.le_refl _) (hb hby at_74) (fun _ _ => ⟨rfl, e41, (by decide : 5 + 1 ≤ _), (by decide : 11 + 1 ≤ _)⟩)
  dsimp only [Pt.U, Pt.locs, Pt.cells, Pt.slots] at X52 l52 y52 z52 st52 hQ52
  subst l52 y52 z52
  obtain ⟨bR52_0, kK52_0, rfl, Nq52, Kq52, sz52_0, x52_0, x52_1, x52_2, x52_3⟩ := hQ52
  have N52 := Fr.app N38 Nq52
  obtain ⟨Lh52, X52, N52⟩ := own_hide X52 N52
  have Z54 : n0 ≤ T52.heap.size := (Nat.le_trans Z43 Kq52.1)
  have c55 : Sta Z T52.heap "java/lang/String" "COMPACT_STRINGS" "Z" (.int pI31) := own_sta_keep c50 Kq52 (allS (own_plain_E A41) all0)
  obtain ⟨_, _, ⟨T56, L56, k56, n56⟩, -, X56, hs256, hg256, ⟨Lc56, hQ56, l56, y56, z56⟩, st56⟩ := callSS X52 hx (y := yN5) hown (mvT hZ (ow hw 31 rfl)) (mvT hZ (ow hw 32 rfl)) (mvT hZ (ow hw 33 rfl)) (mvT hZ (ow hw 34 rfl)) (by decide) (backOfS (s := s.setVm s.vm) (W := 0) (endR l Z a0 hw [] ((pI2 &&& (3 : Int32)) % (3 : Int32)) pI4 pI31 T52.heap n0 Z54 c55 hc82 hc63) hZ (ow hw 34 rfl) (ow hw 33 rfl) (by decide) (by decide)) (g := (mkF m 82 #[.val (.int pI1), .val (.int pI2), .val (.int pI3), .val (.int pI4), .val (.int ((pI1 &&& (2147483647 : Int32)) % (5 : Int32))), .val (.int ((pI2 &&& (3 : Int32)) % (3 : Int32))), .val (.int ((((pI2.toUInt32 >>> ((2 : Int32) &&& 31).toUInt32).toInt32) &&& (3 : Int32)) % (3 : Int32))), .val (.ref bR5), .val (.ref bR14), .val (.ref bR23), .val (.ref bR41), .unset, .unset, .unset, .unset, .unset, .unset] [(.int pI4), (.int ((pI2 &&& (3 : Int32)) % (3 : Int32)))])) rfl (by rw [hml]; rfl) (argsL := [(.int ((pI2 &&& (3 : Int32)) % (3 : Int32))), (.int pI4)]) (rest := []) (lenOf pd_6 rfl) rfl (Nat.le_refl _) (hb hby at_82) (fun _ _ => ⟨rfl, rfl, (by decide : 6 + 3 ≤ _), (by decide : 12 + 6 ≤ _)⟩)
  dsimp only [Pt.U, Pt.locs, Pt.cells, Pt.slots] at X56 l56 y56 z56 st56 hQ56 hs256 hg256
  subst l56 y56 z56
  have X56 := own_refold X56
  have hS56 := foldS hS0 (Nat.le_trans (Nat.le_trans (Nat.le_trans (Nat.le_trans (Nat.le_trans (Nat.le_trans (Nat.le_trans (Nat.le_trans hk0 E5.1) (Keep.of_wr W11).1) E14.1) (Keep.of_wr W20).1) E23.1) Kq38.1) E41.1) Kq52.1) hs256 hg256
  have hk56 : T56.heap.size ≤ T56.heap.size := Nat.le_refl _
  have hZ56 : Z.Warmed39 (s.setVm T56.vm).vm := State.Warmed39.trans (t := s.setVm s.vm) hZ hs256.1
  have ho56 : (s.setVm T56.vm).vm.findClass "com/example/pergamena/pergamena/build/QuantityHasRangePinLaw" = some m.cls := by rw [show (s.setVm T56.vm).vm = T56.vm from rfl, hs256.1.alike.findClass]; exact hown
  obtain ⟨bR56_0, rfl, Nq56, Kq56⟩ := hQ56
  have N56 := Fr.app N52 Nq56
  obtain ⟨Lh56, X56, N56⟩ := own_hide X56 N56
  have Z58 : n0 ≤ T56.heap.size := (Nat.le_trans Z54 Kq56.1)
  have c59 : Sta Z T56.heap "java/lang/String" "COMPACT_STRINGS" "Z" (.int pI31) := own_sta_keep c55 Kq56 all0
  obtain ⟨_, _, ⟨T60, L60, k60, n60⟩, -, X60, hs260, hg260, ⟨Lc60, hQ60, l60, y60, z60⟩, st60⟩ := callSS X56 hx (y := yN5) ho56 (mvT hZ56 (ow hw 31 rfl)) (mvT hZ56 (ow hw 32 rfl)) (mvT hZ56 (ow hw 33 rfl)) (mvT hZ56 (ow hw 34 rfl)) (by decide) (backOfS (s := s.setVm T56.vm) (W := 0) (endR l Z a0 hw [] ((((pI2.toUInt32 >>> ((2 : Int32) &&& 31).toUInt32).toInt32) &&& (3 : Int32)) % (3 : Int32)) ((pI4.toUInt32 >>> ((8 : Int32) &&& 31).toUInt32).toInt32) pI31 T56.heap n0 Z58 c59 hc93 hc63) hZ56 (ow hw 34 rfl) (ow hw 33 rfl) (by decide) (by decide)) (g := (mkF m 93 #[.val (.int pI1), .val (.int pI2), .val (.int pI3), .val (.int pI4), .val (.int ((pI1 &&& (2147483647 : Int32)) % (5 : Int32))), .val (.int ((pI2 &&& (3 : Int32)) % (3 : Int32))), .val (.int ((((pI2.toUInt32 >>> ((2 : Int32) &&& 31).toUInt32).toInt32) &&& (3 : Int32)) % (3 : Int32))), .val (.ref bR5), .val (.ref bR14), .val (.ref bR23), .val (.ref bR41), .val (.ref bR56_0), .unset, .unset, .unset, .unset, .unset] [(.int ((pI4.toUInt32 >>> ((8 : Int32) &&& 31).toUInt32).toInt32)), (.int ((((pI2.toUInt32 >>> ((2 : Int32) &&& 31).toUInt32).toInt32) &&& (3 : Int32)) % (3 : Int32)))])) rfl (by rw [hml]; rfl) (argsL := [(.int ((((pI2.toUInt32 >>> ((2 : Int32) &&& 31).toUInt32).toInt32) &&& (3 : Int32)) % (3 : Int32))), (.int ((pI4.toUInt32 >>> ((8 : Int32) &&& 31).toUInt32).toInt32))]) (rest := []) (lenOf pd_6 rfl) rfl (Nat.le_refl _) (hb hby at_93) (fun _ _ => ⟨rfl, rfl, (by decide : 9 + 3 ≤ _), (by decide : 18 + 6 ≤ _)⟩)
  dsimp only [Pt.U, Pt.locs, Pt.cells, Pt.slots] at X60 l60 y60 z60 st60 hQ60 hs260 hg260
  subst l60 y60 z60
  have X60 := own_refold X60
  have hS60 := foldS hS56 hk56 hs260 hg260
  have hk60 : T60.heap.size ≤ T60.heap.size := Nat.le_refl _
  have hZ60 : Z.Warmed39 (s.setVm T60.vm).vm := State.Warmed39.trans (t := s.setVm T56.vm) hZ56 hs260.1
  have ho60 : (s.setVm T60.vm).vm.findClass "com/example/pergamena/pergamena/build/QuantityHasRangePinLaw" = some m.cls := by rw [show (s.setVm T60.vm).vm = T60.vm from rfl, hs260.1.alike.findClass]; exact ho56
  obtain ⟨bR60_0, rfl, Nq60, Kq60⟩ := hQ60
  have N60 := Fr.app N56 Nq60
  obtain ⟨Lh60, X60, N60⟩ := own_hide X60 N60
  have Z62 : n0 ≤ T60.heap.size := (Nat.le_trans Z58 Kq60.1)
  obtain ⟨T63, h63, X63, e63, E63, A63, D63, U63, st63⟩ := newO X60 hx hZ60 ho60 (ow hw 35 rfl) (ow hw 36 rfl) (ow hw 37 rfl) rfl (g := (mkF m 98 #[.val (.int pI1), .val (.int pI2), .val (.int pI3), .val (.int pI4), .val (.int ((pI1 &&& (2147483647 : Int32)) % (5 : Int32))), .val (.int ((pI2 &&& (3 : Int32)) % (3 : Int32))), .val (.int ((((pI2.toUInt32 >>> ((2 : Int32) &&& 31).toUInt32).toInt32) &&& (3 : Int32)) % (3 : Int32))), .val (.ref bR5), .val (.ref bR14), .val (.ref bR23), .val (.ref bR41), .val (.ref bR56_0), .val (.ref bR60_0), .unset, .unset, .unset, .unset] [])) rfl (hb hby at_98) (by decide) (by decide)
  obtain ⟨bR63, g63⟩ : ∃ z, z = T60.heap.size := ⟨_, rfl⟩
  rw [← g63] at A63 D63 U63 st63
  have Z65 : n0 ≤ h63.size := (Nat.le_trans Z62 E63.1)
  have F66 : Fld Z h63 bR63 "com/example/pergamena/pergamena/build/LabResults$Quantity" "comparator" "Lcom/example/pergamena/pergamena/build/LabResults$Comparator;" .null := D63 (Or.inr (ow hw 51 rfl)) (ty := (.object "com/example/pergamena/pergamena/build/LabResults$Comparator")) (by decide)
  have F67 : Fld Z h63 bR63 "com/example/pergamena/pergamena/build/LabResults$Quantity" "number" "Ljava/lang/String;" .null := D63 (Or.inr (ow hw 53 rfl)) (ty := (.object "java/lang/String")) (by decide)
  have F68 : Fld Z h63 bR63 "com/example/pergamena/pergamena/build/LabResults$Quantity" "unit" "Ljava/lang/String;" .null := D63 (Or.inr (ow hw 55 rfl)) (ty := (.object "java/lang/String")) (by decide)
  have F69 : Fld Z h63 bR63 "com/example/pergamena/pergamena/build/LabResults$Quantity" "low" "Ljava/lang/String;" .null := D63 (Or.inr (ow hw 57 rfl)) (ty := (.object "java/lang/String")) (by decide)
  have F70 : Fld Z h63 bR63 "com/example/pergamena/pergamena/build/LabResults$Quantity" "high" "Ljava/lang/String;" .null := D63 (Or.inr (ow hw 59 rfl)) (ty := (.object "java/lang/String")) (by decide)
  have c72 : Sta Z h5 "com/example/pergamena/pergamena/build/LabResults$Comparator" "LESS" "Lcom/example/pergamena/pergamena/build/LabResults$Comparator;" (.ref pR71) := S_LabResults_Comparator_LESS.ext E5
  have c73 : Sta Z h11 "com/example/pergamena/pergamena/build/LabResults$Comparator" "LESS" "Lcom/example/pergamena/pergamena/build/LabResults$Comparator;" (.ref pR71) := c72.wr W11
  have c74 : Sta Z h14 "com/example/pergamena/pergamena/build/LabResults$Comparator" "LESS" "Lcom/example/pergamena/pergamena/build/LabResults$Comparator;" (.ref pR71) := c73.ext E14
  have c75 : Sta Z h20 "com/example/pergamena/pergamena/build/LabResults$Comparator" "LESS" "Lcom/example/pergamena/pergamena/build/LabResults$Comparator;" (.ref pR71) := c74.wr W20
  have c76 : Sta Z h23 "com/example/pergamena/pergamena/build/LabResults$Comparator" "LESS" "Lcom/example/pergamena/pergamena/build/LabResults$Comparator;" (.ref pR71) := c75.ext E23
  have c77 : Sta Z T38.heap "com/example/pergamena/pergamena/build/LabResults$Comparator" "LESS" "Lcom/example/pergamena/pergamena/build/LabResults$Comparator;" (.ref pR71) := own_sta_keep c76 Kq38 (allS (own_plain_E A23) all0)
  have c78 : Sta Z h41 "com/example/pergamena/pergamena/build/LabResults$Comparator" "LESS" "Lcom/example/pergamena/pergamena/build/LabResults$Comparator;" (.ref pR71) := c77.ext E41
  have c79 : Sta Z T52.heap "com/example/pergamena/pergamena/build/LabResults$Comparator" "LESS" "Lcom/example/pergamena/pergamena/build/LabResults$Comparator;" (.ref pR71) := own_sta_keep c78 Kq52 (allS (own_plain_E A41) all0)
  have c80 : Sta Z T56.heap "com/example/pergamena/pergamena/build/LabResults$Comparator" "LESS" "Lcom/example/pergamena/pergamena/build/LabResults$Comparator;" (.ref pR71) := own_sta_keep c79 Kq56 all0
  have c81 : Sta Z T60.heap "com/example/pergamena/pergamena/build/LabResults$Comparator" "LESS" "Lcom/example/pergamena/pergamena/build/LabResults$Comparator;" (.ref pR71) := own_sta_keep c80 Kq60 all0
  have c82 : Sta Z h63 "com/example/pergamena/pergamena/build/LabResults$Comparator" "LESS" "Lcom/example/pergamena/pergamena/build/LabResults$Comparator;" (.ref pR71) := c81.ext E63
  have c84 : Sta Z h5 "com/example/pergamena/pergamena/build/LabResults$Comparator" "AT_MOST" "Lcom/example/pergamena/pergamena/build/LabResults$Comparator;" (.ref pR83) := S_LabResults_Comparator_AT_MOST.ext E5
  have c85 : Sta Z h11 "com/example/pergamena/pergamena/build/LabResults$Comparator" "AT_MOST" "Lcom/example/pergamena/pergamena/build/LabResults$Comparator;" (.ref pR83) := c84.wr W11
  have c86 : Sta Z h14 "com/example/pergamena/pergamena/build/LabResults$Comparator" "AT_MOST" "Lcom/example/pergamena/pergamena/build/LabResults$Comparator;" (.ref pR83) := c85.ext E14
  have c87 : Sta Z h20 "com/example/pergamena/pergamena/build/LabResults$Comparator" "AT_MOST" "Lcom/example/pergamena/pergamena/build/LabResults$Comparator;" (.ref pR83) := c86.wr W20
  have c88 : Sta Z h23 "com/example/pergamena/pergamena/build/LabResults$Comparator" "AT_MOST" "Lcom/example/pergamena/pergamena/build/LabResults$Comparator;" (.ref pR83) := c87.ext E23
  have c89 : Sta Z T38.heap "com/example/pergamena/pergamena/build/LabResults$Comparator" "AT_MOST" "Lcom/example/pergamena/pergamena/build/LabResults$Comparator;" (.ref pR83) := own_sta_keep c88 Kq38 (allS (own_plain_E A23) all0)
  have c90 : Sta Z h41 "com/example/pergamena/pergamena/build/LabResults$Comparator" "AT_MOST" "Lcom/example/pergamena/pergamena/build/LabResults$Comparator;" (.ref pR83) := c89.ext E41
  have c91 : Sta Z T52.heap "com/example/pergamena/pergamena/build/LabResults$Comparator" "AT_MOST" "Lcom/example/pergamena/pergamena/build/LabResults$Comparator;" (.ref pR83) := own_sta_keep c90 Kq52 (allS (own_plain_E A41) all0)
  have c92 : Sta Z T56.heap "com/example/pergamena/pergamena/build/LabResults$Comparator" "AT_MOST" "Lcom/example/pergamena/pergamena/build/LabResults$Comparator;" (.ref pR83) := own_sta_keep c91 Kq56 all0
  have c93 : Sta Z T60.heap "com/example/pergamena/pergamena/build/LabResults$Comparator" "AT_MOST" "Lcom/example/pergamena/pergamena/build/LabResults$Comparator;" (.ref pR83) := own_sta_keep c92 Kq60 all0
  have c94 : Sta Z h63 "com/example/pergamena/pergamena/build/LabResults$Comparator" "AT_MOST" "Lcom/example/pergamena/pergamena/build/LabResults$Comparator;" (.ref pR83) := c93.ext E63
  have c96 : Sta Z h5 "com/example/pergamena/pergamena/build/LabResults$Comparator" "GREATER" "Lcom/example/pergamena/pergamena/build/LabResults$Comparator;" (.ref pR95) := S_LabResults_Comparator_GREATER.ext E5
  have c97 : Sta Z h11 "com/example/pergamena/pergamena/build/LabResults$Comparator" "GREATER" "Lcom/example/pergamena/pergamena/build/LabResults$Comparator;" (.ref pR95) := c96.wr W11
  have c98 : Sta Z h14 "com/example/pergamena/pergamena/build/LabResults$Comparator" "GREATER" "Lcom/example/pergamena/pergamena/build/LabResults$Comparator;" (.ref pR95) := c97.ext E14
  have c99 : Sta Z h20 "com/example/pergamena/pergamena/build/LabResults$Comparator" "GREATER" "Lcom/example/pergamena/pergamena/build/LabResults$Comparator;" (.ref pR95) := c98.wr W20
  have c100 : Sta Z h23 "com/example/pergamena/pergamena/build/LabResults$Comparator" "GREATER" "Lcom/example/pergamena/pergamena/build/LabResults$Comparator;" (.ref pR95) := c99.ext E23
  have c101 : Sta Z T38.heap "com/example/pergamena/pergamena/build/LabResults$Comparator" "GREATER" "Lcom/example/pergamena/pergamena/build/LabResults$Comparator;" (.ref pR95) := own_sta_keep c100 Kq38 (allS (own_plain_E A23) all0)
  have c102 : Sta Z h41 "com/example/pergamena/pergamena/build/LabResults$Comparator" "GREATER" "Lcom/example/pergamena/pergamena/build/LabResults$Comparator;" (.ref pR95) := c101.ext E41
  have c103 : Sta Z T52.heap "com/example/pergamena/pergamena/build/LabResults$Comparator" "GREATER" "Lcom/example/pergamena/pergamena/build/LabResults$Comparator;" (.ref pR95) := own_sta_keep c102 Kq52 (allS (own_plain_E A41) all0)
  have c104 : Sta Z T56.heap "com/example/pergamena/pergamena/build/LabResults$Comparator" "GREATER" "Lcom/example/pergamena/pergamena/build/LabResults$Comparator;" (.ref pR95) := own_sta_keep c103 Kq56 all0
  have c105 : Sta Z T60.heap "com/example/pergamena/pergamena/build/LabResults$Comparator" "GREATER" "Lcom/example/pergamena/pergamena/build/LabResults$Comparator;" (.ref pR95) := own_sta_keep c104 Kq60 all0
  have c106 : Sta Z h63 "com/example/pergamena/pergamena/build/LabResults$Comparator" "GREATER" "Lcom/example/pergamena/pergamena/build/LabResults$Comparator;" (.ref pR95) := c105.ext E63
  have c108 : Sta Z h5 "com/example/pergamena/pergamena/build/LabResults$Comparator" "AT_LEAST" "Lcom/example/pergamena/pergamena/build/LabResults$Comparator;" (.ref pR107) := S_LabResults_Comparator_AT_LEAST.ext E5
  have c109 : Sta Z h11 "com/example/pergamena/pergamena/build/LabResults$Comparator" "AT_LEAST" "Lcom/example/pergamena/pergamena/build/LabResults$Comparator;" (.ref pR107) := c108.wr W11
  have c110 : Sta Z h14 "com/example/pergamena/pergamena/build/LabResults$Comparator" "AT_LEAST" "Lcom/example/pergamena/pergamena/build/LabResults$Comparator;" (.ref pR107) := c109.ext E14
  have c111 : Sta Z h20 "com/example/pergamena/pergamena/build/LabResults$Comparator" "AT_LEAST" "Lcom/example/pergamena/pergamena/build/LabResults$Comparator;" (.ref pR107) := c110.wr W20
  have c112 : Sta Z h23 "com/example/pergamena/pergamena/build/LabResults$Comparator" "AT_LEAST" "Lcom/example/pergamena/pergamena/build/LabResults$Comparator;" (.ref pR107) := c111.ext E23
  have c113 : Sta Z T38.heap "com/example/pergamena/pergamena/build/LabResults$Comparator" "AT_LEAST" "Lcom/example/pergamena/pergamena/build/LabResults$Comparator;" (.ref pR107) := own_sta_keep c112 Kq38 (allS (own_plain_E A23) all0)
  have c114 : Sta Z h41 "com/example/pergamena/pergamena/build/LabResults$Comparator" "AT_LEAST" "Lcom/example/pergamena/pergamena/build/LabResults$Comparator;" (.ref pR107) := c113.ext E41
  have c115 : Sta Z T52.heap "com/example/pergamena/pergamena/build/LabResults$Comparator" "AT_LEAST" "Lcom/example/pergamena/pergamena/build/LabResults$Comparator;" (.ref pR107) := own_sta_keep c114 Kq52 (allS (own_plain_E A41) all0)
  have c116 : Sta Z T56.heap "com/example/pergamena/pergamena/build/LabResults$Comparator" "AT_LEAST" "Lcom/example/pergamena/pergamena/build/LabResults$Comparator;" (.ref pR107) := own_sta_keep c115 Kq56 all0
  have c117 : Sta Z T60.heap "com/example/pergamena/pergamena/build/LabResults$Comparator" "AT_LEAST" "Lcom/example/pergamena/pergamena/build/LabResults$Comparator;" (.ref pR107) := own_sta_keep c116 Kq60 all0
  have c118 : Sta Z h63 "com/example/pergamena/pergamena/build/LabResults$Comparator" "AT_LEAST" "Lcom/example/pergamena/pergamena/build/LabResults$Comparator;" (.ref pR107) := c117.ext E63
  obtain ⟨_, _, ⟨T119, L119, k119, n119⟩, -, X119, ⟨Lc119, hQ119, l119, y119, z119⟩, st119⟩ := Jvm.LawKit.callS X63 hx (y := yN6) ho60 (mvT hZ60 (ow hw 38 rfl)) (mvT hZ60 (ow hw 39 rfl)) (mvT hZ60 (ow hw 33 rfl)) (mvT hZ60 (ow hw 40 rfl)) (by decide) (backOf (W := 2) (comR l Z a0 hw [] ((pI1 &&& (2147483647 : Int32)) % (5 : Int32)) pR71 pR83 pR95 pR107 h63 n0 Z65 c82 c94 c106 c118 hc104) hZ60 (ow hw 40 rfl) (ow hw 33 rfl) (by decide) (by decide)) (g := (mkF m 104 #[.val (.int pI1), .val (.int pI2), .val (.int pI3), .val (.int pI4), .val (.int ((pI1 &&& (2147483647 : Int32)) % (5 : Int32))), .val (.int ((pI2 &&& (3 : Int32)) % (3 : Int32))), .val (.int ((((pI2.toUInt32 >>> ((2 : Int32) &&& 31).toUInt32).toInt32) &&& (3 : Int32)) % (3 : Int32))), .val (.ref bR5), .val (.ref bR14), .val (.ref bR23), .val (.ref bR41), .val (.ref bR56_0), .val (.ref bR60_0), .unset, .unset, .unset, .unset] [(.int ((pI1 &&& (2147483647 : Int32)) % (5 : Int32))), (.ref bR63), (.ref bR63)])) rfl (by rw [hml]; rfl) (argsL := [(.int ((pI1 &&& (2147483647 : Int32)) % (5 : Int32)))]) (rest := [(.ref bR63), (.ref bR63)]) (lenOf pd_7 rfl) rfl (Nat.le_refl _) (hb hby at_104) (fun _ _ => ⟨rfl, e63, (by decide : 13 + 0 ≤ _), (by decide : 29 + 0 ≤ _)⟩)
  dsimp only [Pt.U, Pt.locs, Pt.cells, Pt.slots] at X119 l119 y119 z119 st119 hQ119
  subst l119 y119 z119
  obtain ⟨bR119_0, rfl, Nq119, Kq119⟩ := hQ119
  have N119 := Fr.app N60 Nq119
  obtain ⟨Lh119, X119, N119⟩ := own_hide X119 N119
  have Z121 : n0 ≤ T119.heap.size := (Nat.le_trans Z65 Kq119.1)
  have c122 : Exa Z T119.heap bR63 "com/example/pergamena/pergamena/build/LabResults$Quantity" := A63.keep Kq119
  have c123 : Fld Z T119.heap bR63 "com/example/pergamena/pergamena/build/LabResults$Quantity" "comparator" "Lcom/example/pergamena/pergamena/build/LabResults$Comparator;" .null := F66.keep Kq119 nin0
  have g124 : n0 ≤ bR63 := Nat.le_trans Z62 (Nat.le_of_eq g63.symm)
  have c125 : Fld Z T119.heap bR63 "com/example/pergamena/pergamena/build/LabResults$Quantity" "number" "Ljava/lang/String;" .null := F67.keep Kq119 nin0
  have c126 : Fld Z T119.heap bR63 "com/example/pergamena/pergamena/build/LabResults$Quantity" "unit" "Ljava/lang/String;" .null := F68.keep Kq119 nin0
  have c127 : Fld Z T119.heap bR63 "com/example/pergamena/pergamena/build/LabResults$Quantity" "low" "Ljava/lang/String;" .null := F69.keep Kq119 nin0
  have c128 : Fld Z T119.heap bR63 "com/example/pergamena/pergamena/build/LabResults$Quantity" "high" "Ljava/lang/String;" .null := F70.keep Kq119 nin0
  obtain ⟨_, _, ⟨T129, L129, k129, n129⟩, -, X129, ⟨Lc129, hQ129, l129, y129, z129⟩, st129⟩ := X119.specialBack hx (y := yN8) rfl ho60 (mvT hZ60 (ow hw 41 rfl)) (mvT hZ60 (ow hw 42 rfl)) (mvT hZ60 (ow hw 43 rfl)) (by decide) (backOf (W := 1) (qRRR l Z a0 hw [] bR63 bR119_0 bR23 bR41 bR56_0 bR60_0 T119.heap n0 Z121 c122 c123 g124 c125 c126 c127 c128) hZ60 (ow hw 43 rfl) (ow hw 37 rfl) (by decide) (by decide)) (g := (mkF m 115 #[.val (.int pI1), .val (.int pI2), .val (.int pI3), .val (.int pI4), .val (.int ((pI1 &&& (2147483647 : Int32)) % (5 : Int32))), .val (.int ((pI2 &&& (3 : Int32)) % (3 : Int32))), .val (.int ((((pI2.toUInt32 >>> ((2 : Int32) &&& 31).toUInt32).toInt32) &&& (3 : Int32)) % (3 : Int32))), .val (.ref bR5), .val (.ref bR14), .val (.ref bR23), .val (.ref bR41), .val (.ref bR56_0), .val (.ref bR60_0), .unset, .unset, .unset, .unset] [(.ref bR60_0), (.ref bR56_0), (.ref bR41), (.ref bR23), (.ref bR119_0), (.ref bR63), (.ref bR63)])) rfl (by rw [hml]; rfl) (Steps.refl _) (a := bR63) (argsL := [(.ref bR119_0), (.ref bR23), (.ref bR41), (.ref bR56_0), (.ref bR60_0)]) (rest := [(.ref bR63)]) (lenOf pd_8 rfl) rfl (Nat.le_refl _) (hb hby at_115) (fun _ _ => ⟨rfl, rfl, (by decide : 13 + 0 ≤ _), (by decide : 29 + 0 ≤ _)⟩)
  dsimp only [Pt.U, Pt.locs, Pt.cells, Pt.slots] at X129 l129 y129 z129 st129 hQ129
  subst l129 y129 z129
  obtain ⟨rfl, Nq129, Kq129, x129_0, x129_1, x129_2, x129_3, x129_4, x129_5⟩ := hQ129
  have N129 := Fr.app N119 Nq129
  obtain ⟨Lh129, X129, N129⟩ := own_hide X129 N129
  have Z131 : n0 ≤ T129.heap.size := (Nat.le_trans Z121 Kq129.1)
  obtain ⟨cq132, kq132, q132a, q132b, q132c⟩ := isOf hZ60 rfl x129_0
  obtain ⟨_, _, ⟨T132, L132, k132, n132⟩, -, X132, ⟨Lc132, hQ132, l132, y132, z132⟩, st132⟩ := X129.virtualBack hx (y := yN9) (z := yN9) ho60 (mvT hZ60 (ow hw 60 rfl)) (mvT hZ60 (ow hw 61 rfl)) (notFace_of_selects (args := #[]) (mvT hZ60 (ow hw 63 rfl))) (mvT hZ60 (ow hw 63 rfl)) (mvT hZ60 (ow hw 62 rfl)) (by decide) (backOf (W := 0) (hrR l Z a0 hw [] bR63 bR56_0 T129.heap n0 Z131 x129_4) hZ60 (ow hw 64 rfl) (ow hw 37 rfl) (by decide) (by decide)) q132a q132c (g := (mkF m 171 #[.val (.int pI1), .val (.int pI2), .val (.int pI3), .val (.int pI4), .val (.int ((pI1 &&& (2147483647 : Int32)) % (5 : Int32))), .val (.int ((pI2 &&& (3 : Int32)) % (3 : Int32))), .val (.int ((((pI2.toUInt32 >>> ((2 : Int32) &&& 31).toUInt32).toInt32) &&& (3 : Int32)) % (3 : Int32))), .val (.ref bR5), .val (.ref bR14), .val (.ref bR23), .val (.ref bR41), .val (.ref bR56_0), .val (.ref bR60_0), .val (.ref bR63), .val (.int 1), .val (.int 1), .val (.int 1)] [(.ref bR63)])) rfl (by rw [hml]; rfl) (Steps.refl _) (argsL := []) (rest := []) (lenOf pd_9 rfl) rfl (Nat.le_refl _) (hb hby at_171) (fun _ _ => ⟨rfl, rfl, (by decide : 13 + 0 ≤ _), (by decide : 29 + 0 ≤ _)⟩)
  dsimp only [Pt.U, Pt.locs, Pt.cells, Pt.slots] at X132 l132 y132 z132 st132 hQ132
  subst l132 y132 z132
  obtain ⟨rfl, Nq132, e132⟩ := hQ132
  have N132 := Fr.app N129 Nq132
  obtain ⟨fs, hr, hrun, hended, hE⟩ := X132.leaveW hS60 (by rw [e132]; exact (Nat.le_trans (Nat.le_trans (Nat.le_trans hk60 E63.1) Kq119.1) Kq129.1)) (v := some (.int 1)) (fun h => by rw [Bd.returns] at h; cases h)
  refine ⟨_, _, castTop (ef_lawRRR m pI1 pI2 pI3 pI4) ?_, hrun, hended, _, _, rfl, ?_, hE.1, hE.2.1, hE.2.2.1, hE.2.2.2.mono (by decide) (by decide)⟩
  · show oS p e below s₁ m 0 #[.val (.int pI1), .val (.int pI2), .val (.int pI3), .val (.int pI4), .unset, .unset, .unset, .unset, .unset, .unset, .unset, .unset, .unset, .unset, .unset, .unset, .unset] [] _
    refine XS.iloadN X0.here hx rfl (hb hby at_0) rfl ?_
    refine X0.ldcInt hx hown (mvT hZ (ow hw 0 rfl)) (g := (mkF m 1 #[.val (.int pI1), .val (.int pI2), .val (.int pI3), .val (.int pI4), .unset, .unset, .unset, .unset, .unset, .unset, .unset, .unset, .unset, .unset, .unset, .unset, .unset] [(.int pI1)])) rfl (hb hby at_1) _ ?_
    refine XS.iand X0.here hx rfl (hb hby at_3) rfl ?_
    refine XS.iconst X0.here hx rfl (hb hby at_4) ?_
    show Steps p.tables e below (s₁.setTop (mkF m 5 #[.val (.int pI1), .val (.int pI2), .val (.int pI3), .val (.int pI4), .unset, .unset, .unset, .unset, .unset, .unset, .unset, .unset, .unset, .unset, .unset, .unset, .unset] [(.int 5), (.int (pI1 &&& (2147483647 : Int32)))])) _
    refine iremM (g := (mkF m 5 #[.val (.int pI1), .val (.int pI2), .val (.int pI3), .val (.int pI4), .unset, .unset, .unset, .unset, .unset, .unset, .unset, .unset, .unset, .unset, .unset, .unset, .unset] [(.int 5), (.int (pI1 &&& (2147483647 : Int32)))])) X0 hx rfl (hb hby at_5) rfl (by decide) ?_
    refine XS.istore X0.here hx rfl (hb hby at_6) rfl (l' := #[.val (.int pI1), .val (.int pI2), .val (.int pI3), .val (.int pI4), .val (.int ((pI1 &&& (2147483647 : Int32)) % (5 : Int32))), .unset, .unset, .unset, .unset, .unset, .unset, .unset, .unset, .unset, .unset, .unset, .unset]) rfl ?_
    refine XS.iloadN X0.here hx rfl (hb hby at_8) rfl ?_
    refine XS.iconst X0.here hx rfl (hb hby at_9) ?_
    show oS p e below s₁ m 10 #[.val (.int pI1), .val (.int pI2), .val (.int pI3), .val (.int pI4), .val (.int ((pI1 &&& (2147483647 : Int32)) % (5 : Int32))), .unset, .unset, .unset, .unset, .unset, .unset, .unset, .unset, .unset, .unset, .unset, .unset] [(.int 3), (.int pI2)] _
    refine XS.iand X0.here hx rfl (hb hby at_10) rfl ?_
    refine XS.iconst X0.here hx rfl (hb hby at_11) ?_
    show Steps p.tables e below (s₁.setTop (mkF m 12 #[.val (.int pI1), .val (.int pI2), .val (.int pI3), .val (.int pI4), .val (.int ((pI1 &&& (2147483647 : Int32)) % (5 : Int32))), .unset, .unset, .unset, .unset, .unset, .unset, .unset, .unset, .unset, .unset, .unset, .unset] [(.int 3), (.int (pI2 &&& (3 : Int32)))])) _
    refine iremM (g := (mkF m 12 #[.val (.int pI1), .val (.int pI2), .val (.int pI3), .val (.int pI4), .val (.int ((pI1 &&& (2147483647 : Int32)) % (5 : Int32))), .unset, .unset, .unset, .unset, .unset, .unset, .unset, .unset, .unset, .unset, .unset, .unset] [(.int 3), (.int (pI2 &&& (3 : Int32)))])) X0 hx rfl (hb hby at_12) rfl (by decide) ?_
    refine XS.istore X0.here hx rfl (hb hby at_13) rfl (l' := #[.val (.int pI1), .val (.int pI2), .val (.int pI3), .val (.int pI4), .val (.int ((pI1 &&& (2147483647 : Int32)) % (5 : Int32))), .val (.int ((pI2 &&& (3 : Int32)) % (3 : Int32))), .unset, .unset, .unset, .unset, .unset, .unset, .unset, .unset, .unset, .unset, .unset]) rfl ?_
    show oS p e below s₁ m 15 #[.val (.int pI1), .val (.int pI2), .val (.int pI3), .val (.int pI4), .val (.int ((pI1 &&& (2147483647 : Int32)) % (5 : Int32))), .val (.int ((pI2 &&& (3 : Int32)) % (3 : Int32))), .unset, .unset, .unset, .unset, .unset, .unset, .unset, .unset, .unset, .unset, .unset] [] _
    refine XS.iloadN X0.here hx rfl (hb hby at_15) rfl ?_
    refine XS.iconst X0.here hx rfl (hb hby at_16) ?_
    refine XS.iushr X0.here hx rfl (hb hby at_17) rfl ?_
    refine XS.iconst X0.here hx rfl (hb hby at_18) ?_
    show oS p e below s₁ m 19 #[.val (.int pI1), .val (.int pI2), .val (.int pI3), .val (.int pI4), .val (.int ((pI1 &&& (2147483647 : Int32)) % (5 : Int32))), .val (.int ((pI2 &&& (3 : Int32)) % (3 : Int32))), .unset, .unset, .unset, .unset, .unset, .unset, .unset, .unset, .unset, .unset, .unset] [(.int 3), (.int ((pI2.toUInt32 >>> ((2 : Int32) &&& 31).toUInt32).toInt32))] _
    refine XS.iand X0.here hx rfl (hb hby at_19) rfl ?_
    refine XS.iconst X0.here hx rfl (hb hby at_20) ?_
    show Steps p.tables e below (s₁.setTop (mkF m 21 #[.val (.int pI1), .val (.int pI2), .val (.int pI3), .val (.int pI4), .val (.int ((pI1 &&& (2147483647 : Int32)) % (5 : Int32))), .val (.int ((pI2 &&& (3 : Int32)) % (3 : Int32))), .unset, .unset, .unset, .unset, .unset, .unset, .unset, .unset, .unset, .unset, .unset] [(.int 3), (.int (((pI2.toUInt32 >>> ((2 : Int32) &&& 31).toUInt32).toInt32) &&& (3 : Int32)))])) _
    refine iremM (g := (mkF m 21 #[.val (.int pI1), .val (.int pI2), .val (.int pI3), .val (.int pI4), .val (.int ((pI1 &&& (2147483647 : Int32)) % (5 : Int32))), .val (.int ((pI2 &&& (3 : Int32)) % (3 : Int32))), .unset, .unset, .unset, .unset, .unset, .unset, .unset, .unset, .unset, .unset, .unset] [(.int 3), (.int (((pI2.toUInt32 >>> ((2 : Int32) &&& 31).toUInt32).toInt32) &&& (3 : Int32)))])) X0 hx rfl (hb hby at_21) rfl (by decide) ?_
    refine XS.istore X0.here hx rfl (hb hby at_22) rfl (l' := #[.val (.int pI1), .val (.int pI2), .val (.int pI3), .val (.int pI4), .val (.int ((pI1 &&& (2147483647 : Int32)) % (5 : Int32))), .val (.int ((pI2 &&& (3 : Int32)) % (3 : Int32))), .val (.int ((((pI2.toUInt32 >>> ((2 : Int32) &&& 31).toUInt32).toInt32) &&& (3 : Int32)) % (3 : Int32))), .unset, .unset, .unset, .unset, .unset, .unset, .unset, .unset, .unset, .unset]) rfl ?_
    show oS p e below s₁ m 24 #[.val (.int pI1), .val (.int pI2), .val (.int pI3), .val (.int pI4), .val (.int ((pI1 &&& (2147483647 : Int32)) % (5 : Int32))), .val (.int ((pI2 &&& (3 : Int32)) % (3 : Int32))), .val (.int ((((pI2.toUInt32 >>> ((2 : Int32) &&& 31).toUInt32).toInt32) &&& (3 : Int32)) % (3 : Int32))), .unset, .unset, .unset, .unset, .unset, .unset, .unset, .unset, .unset, .unset] [] _
    refine XS.iconst X0.here hx rfl (hb hby at_24) ?_
    refine st5 _ ?_
    refine XS.astore X5.here hx rfl (hb hby at_27) rfl rfl (l' := #[.val (.int pI1), .val (.int pI2), .val (.int pI3), .val (.int pI4), .val (.int ((pI1 &&& (2147483647 : Int32)) % (5 : Int32))), .val (.int ((pI2 &&& (3 : Int32)) % (3 : Int32))), .val (.int ((((pI2.toUInt32 >>> ((2 : Int32) &&& 31).toUInt32).toInt32) &&& (3 : Int32)) % (3 : Int32))), .val (.ref bR5), .unset, .unset, .unset, .unset, .unset, .unset, .unset, .unset, .unset]) rfl ?_
    refine XS.aload X5.here hx rfl (hb hby at_29) rfl rfl ?_
    show oS p e below T5 m 31 #[.val (.int pI1), .val (.int pI2), .val (.int pI3), .val (.int pI4), .val (.int ((pI1 &&& (2147483647 : Int32)) % (5 : Int32))), .val (.int ((pI2 &&& (3 : Int32)) % (3 : Int32))), .val (.int ((((pI2.toUInt32 >>> ((2 : Int32) &&& 31).toUInt32).toInt32) &&& (3 : Int32)) % (3 : Int32))), .val (.ref bR5), .unset, .unset, .unset, .unset, .unset, .unset, .unset, .unset, .unset] [(.ref bR5)] _
    refine XS.iconst X5.here hx rfl (hb hby at_31) ?_
    refine XS.iloadN X5.here hx rfl (hb hby at_32) rfl ?_
    refine XS.sipush X5.here hx rfl (hb hby at_33) ?_
    refine XS.iand X5.here hx rfl (hb hby at_36) rfl ?_
    show oS p e below T5 m 37 #[.val (.int pI1), .val (.int pI2), .val (.int pI3), .val (.int pI4), .val (.int ((pI1 &&& (2147483647 : Int32)) % (5 : Int32))), .val (.int ((pI2 &&& (3 : Int32)) % (3 : Int32))), .val (.int ((((pI2.toUInt32 >>> ((2 : Int32) &&& 31).toUInt32).toInt32) &&& (3 : Int32)) % (3 : Int32))), .val (.ref bR5), .unset, .unset, .unset, .unset, .unset, .unset, .unset, .unset, .unset] [(.int (pI3 &&& (255 : Int32))), (.int 0), (.ref bR5)] _
    refine XS.i2c X5.here hx rfl (hb hby at_37) rfl ?_
    refine st11 _ ?_
    refine XS.iconst X11.here hx rfl (hb hby at_39) ?_
    refine st14 _ ?_
    show oS p e below T14 m 42 #[.val (.int pI1), .val (.int pI2), .val (.int pI3), .val (.int pI4), .val (.int ((pI1 &&& (2147483647 : Int32)) % (5 : Int32))), .val (.int ((pI2 &&& (3 : Int32)) % (3 : Int32))), .val (.int ((((pI2.toUInt32 >>> ((2 : Int32) &&& 31).toUInt32).toInt32) &&& (3 : Int32)) % (3 : Int32))), .val (.ref bR5), .unset, .unset, .unset, .unset, .unset, .unset, .unset, .unset, .unset] [(.ref bR14)] _
    refine XS.astore X14.here hx rfl (hb hby at_42) rfl rfl (l' := #[.val (.int pI1), .val (.int pI2), .val (.int pI3), .val (.int pI4), .val (.int ((pI1 &&& (2147483647 : Int32)) % (5 : Int32))), .val (.int ((pI2 &&& (3 : Int32)) % (3 : Int32))), .val (.int ((((pI2.toUInt32 >>> ((2 : Int32) &&& 31).toUInt32).toInt32) &&& (3 : Int32)) % (3 : Int32))), .val (.ref bR5), .val (.ref bR14), .unset, .unset, .unset, .unset, .unset, .unset, .unset, .unset]) rfl ?_
    refine XS.aload X14.here hx rfl (hb hby at_44) rfl rfl ?_
    refine XS.iconst X14.here hx rfl (hb hby at_46) ?_
    refine XS.iloadN X14.here hx rfl (hb hby at_47) rfl ?_
    show oS p e below T14 m 48 #[.val (.int pI1), .val (.int pI2), .val (.int pI3), .val (.int pI4), .val (.int ((pI1 &&& (2147483647 : Int32)) % (5 : Int32))), .val (.int ((pI2 &&& (3 : Int32)) % (3 : Int32))), .val (.int ((((pI2.toUInt32 >>> ((2 : Int32) &&& 31).toUInt32).toInt32) &&& (3 : Int32)) % (3 : Int32))), .val (.ref bR5), .val (.ref bR14), .unset, .unset, .unset, .unset, .unset, .unset, .unset, .unset] [(.int pI3), (.int 0), (.ref bR14)] _
    refine XS.bipush X14.here hx rfl (hb hby at_48) ?_
    refine XS.iushr X14.here hx rfl (hb hby at_50) rfl ?_
    refine XS.sipush X14.here hx rfl (hb hby at_51) ?_
    refine XS.iand X14.here hx rfl (hb hby at_54) rfl ?_
    show oS p e below T14 m 55 #[.val (.int pI1), .val (.int pI2), .val (.int pI3), .val (.int pI4), .val (.int ((pI1 &&& (2147483647 : Int32)) % (5 : Int32))), .val (.int ((pI2 &&& (3 : Int32)) % (3 : Int32))), .val (.int ((((pI2.toUInt32 >>> ((2 : Int32) &&& 31).toUInt32).toInt32) &&& (3 : Int32)) % (3 : Int32))), .val (.ref bR5), .val (.ref bR14), .unset, .unset, .unset, .unset, .unset, .unset, .unset, .unset] [(.int (((pI3.toUInt32 >>> ((8 : Int32) &&& 31).toUInt32).toInt32) &&& (255 : Int32))), (.int 0), (.ref bR14)] _
    refine XS.i2c X14.here hx rfl (hb hby at_55) rfl ?_
    refine st20 _ ?_
    refine st23 _ ?_
    refine XS.dup X23.here hx rfl (hb hby at_60) rfl rfl ?_
    show oS p e below T23 m 61 #[.val (.int pI1), .val (.int pI2), .val (.int pI3), .val (.int pI4), .val (.int ((pI1 &&& (2147483647 : Int32)) % (5 : Int32))), .val (.int ((pI2 &&& (3 : Int32)) % (3 : Int32))), .val (.int ((((pI2.toUInt32 >>> ((2 : Int32) &&& 31).toUInt32).toInt32) &&& (3 : Int32)) % (3 : Int32))), .val (.ref bR5), .val (.ref bR14), .unset, .unset, .unset, .unset, .unset, .unset, .unset, .unset] [(.ref bR23), (.ref bR23)] _
    refine XS.aload X23.here hx rfl (hb hby at_61) rfl rfl ?_
    refine st38.trans ?_
    refine XS.astore X38.here hx rfl (hb hby at_66) rfl rfl (l' := #[.val (.int pI1), .val (.int pI2), .val (.int pI3), .val (.int pI4), .val (.int ((pI1 &&& (2147483647 : Int32)) % (5 : Int32))), .val (.int ((pI2 &&& (3 : Int32)) % (3 : Int32))), .val (.int ((((pI2.toUInt32 >>> ((2 : Int32) &&& 31).toUInt32).toInt32) &&& (3 : Int32)) % (3 : Int32))), .val (.ref bR5), .val (.ref bR14), .val (.ref bR23), .unset, .unset, .unset, .unset, .unset, .unset, .unset]) rfl ?_
    refine st41 _ ?_
    show oS p e below T41 m 71 #[.val (.int pI1), .val (.int pI2), .val (.int pI3), .val (.int pI4), .val (.int ((pI1 &&& (2147483647 : Int32)) % (5 : Int32))), .val (.int ((pI2 &&& (3 : Int32)) % (3 : Int32))), .val (.int ((((pI2.toUInt32 >>> ((2 : Int32) &&& 31).toUInt32).toInt32) &&& (3 : Int32)) % (3 : Int32))), .val (.ref bR5), .val (.ref bR14), .val (.ref bR23), .unset, .unset, .unset, .unset, .unset, .unset, .unset] [(.ref bR41)] _
    refine XS.dup X41.here hx rfl (hb hby at_71) rfl rfl ?_
    refine XS.aload X41.here hx rfl (hb hby at_72) rfl rfl ?_
    refine st52.trans ?_
    refine XS.astore X52.here hx rfl (hb hby at_77) rfl rfl (l' := #[.val (.int pI1), .val (.int pI2), .val (.int pI3), .val (.int pI4), .val (.int ((pI1 &&& (2147483647 : Int32)) % (5 : Int32))), .val (.int ((pI2 &&& (3 : Int32)) % (3 : Int32))), .val (.int ((((pI2.toUInt32 >>> ((2 : Int32) &&& 31).toUInt32).toInt32) &&& (3 : Int32)) % (3 : Int32))), .val (.ref bR5), .val (.ref bR14), .val (.ref bR23), .val (.ref bR41), .unset, .unset, .unset, .unset, .unset, .unset]) rfl ?_
    show oS p e below T52 m 79 #[.val (.int pI1), .val (.int pI2), .val (.int pI3), .val (.int pI4), .val (.int ((pI1 &&& (2147483647 : Int32)) % (5 : Int32))), .val (.int ((pI2 &&& (3 : Int32)) % (3 : Int32))), .val (.int ((((pI2.toUInt32 >>> ((2 : Int32) &&& 31).toUInt32).toInt32) &&& (3 : Int32)) % (3 : Int32))), .val (.ref bR5), .val (.ref bR14), .val (.ref bR23), .val (.ref bR41), .unset, .unset, .unset, .unset, .unset, .unset] [] _
    refine XS.iload X52.here hx rfl (hb hby at_79) rfl ?_
    refine XS.iloadN X52.here hx rfl (hb hby at_81) rfl ?_
    refine st56.trans ?_
    refine XS.astore X56.here hx rfl (hb hby at_85) rfl rfl (l' := #[.val (.int pI1), .val (.int pI2), .val (.int pI3), .val (.int pI4), .val (.int ((pI1 &&& (2147483647 : Int32)) % (5 : Int32))), .val (.int ((pI2 &&& (3 : Int32)) % (3 : Int32))), .val (.int ((((pI2.toUInt32 >>> ((2 : Int32) &&& 31).toUInt32).toInt32) &&& (3 : Int32)) % (3 : Int32))), .val (.ref bR5), .val (.ref bR14), .val (.ref bR23), .val (.ref bR41), .val (.ref bR56_0), .unset, .unset, .unset, .unset, .unset]) rfl ?_
    show oS p e below T56 m 87 #[.val (.int pI1), .val (.int pI2), .val (.int pI3), .val (.int pI4), .val (.int ((pI1 &&& (2147483647 : Int32)) % (5 : Int32))), .val (.int ((pI2 &&& (3 : Int32)) % (3 : Int32))), .val (.int ((((pI2.toUInt32 >>> ((2 : Int32) &&& 31).toUInt32).toInt32) &&& (3 : Int32)) % (3 : Int32))), .val (.ref bR5), .val (.ref bR14), .val (.ref bR23), .val (.ref bR41), .val (.ref bR56_0), .unset, .unset, .unset, .unset, .unset] [] _
    refine XS.iload X56.here hx rfl (hb hby at_87) rfl ?_
    refine XS.iloadN X56.here hx rfl (hb hby at_89) rfl ?_
    refine XS.bipush X56.here hx rfl (hb hby at_90) ?_
    refine XS.iushr X56.here hx rfl (hb hby at_92) rfl ?_
    show oS p e below T56 m 93 #[.val (.int pI1), .val (.int pI2), .val (.int pI3), .val (.int pI4), .val (.int ((pI1 &&& (2147483647 : Int32)) % (5 : Int32))), .val (.int ((pI2 &&& (3 : Int32)) % (3 : Int32))), .val (.int ((((pI2.toUInt32 >>> ((2 : Int32) &&& 31).toUInt32).toInt32) &&& (3 : Int32)) % (3 : Int32))), .val (.ref bR5), .val (.ref bR14), .val (.ref bR23), .val (.ref bR41), .val (.ref bR56_0), .unset, .unset, .unset, .unset, .unset] [(.int ((pI4.toUInt32 >>> ((8 : Int32) &&& 31).toUInt32).toInt32)), (.int ((((pI2.toUInt32 >>> ((2 : Int32) &&& 31).toUInt32).toInt32) &&& (3 : Int32)) % (3 : Int32)))] _
    refine st60.trans ?_
    refine XS.astore X60.here hx rfl (hb hby at_96) rfl rfl (l' := #[.val (.int pI1), .val (.int pI2), .val (.int pI3), .val (.int pI4), .val (.int ((pI1 &&& (2147483647 : Int32)) % (5 : Int32))), .val (.int ((pI2 &&& (3 : Int32)) % (3 : Int32))), .val (.int ((((pI2.toUInt32 >>> ((2 : Int32) &&& 31).toUInt32).toInt32) &&& (3 : Int32)) % (3 : Int32))), .val (.ref bR5), .val (.ref bR14), .val (.ref bR23), .val (.ref bR41), .val (.ref bR56_0), .val (.ref bR60_0), .unset, .unset, .unset, .unset]) rfl ?_
    refine st63 _ ?_
    refine XS.dup X63.here hx rfl (hb hby at_101) rfl rfl ?_
    show oS p e below T63 m 102 #[.val (.int pI1), .val (.int pI2), .val (.int pI3), .val (.int pI4), .val (.int ((pI1 &&& (2147483647 : Int32)) % (5 : Int32))), .val (.int ((pI2 &&& (3 : Int32)) % (3 : Int32))), .val (.int ((((pI2.toUInt32 >>> ((2 : Int32) &&& 31).toUInt32).toInt32) &&& (3 : Int32)) % (3 : Int32))), .val (.ref bR5), .val (.ref bR14), .val (.ref bR23), .val (.ref bR41), .val (.ref bR56_0), .val (.ref bR60_0), .unset, .unset, .unset, .unset] [(.ref bR63), (.ref bR63)] _
    refine XS.iload X63.here hx rfl (hb hby at_102) rfl ?_
    refine st119 _ ?_
    refine XS.aload X119.here hx rfl (hb hby at_107) rfl rfl ?_
    refine XS.aload X119.here hx rfl (hb hby at_109) rfl rfl ?_
    show oS p e below T119 m 111 #[.val (.int pI1), .val (.int pI2), .val (.int pI3), .val (.int pI4), .val (.int ((pI1 &&& (2147483647 : Int32)) % (5 : Int32))), .val (.int ((pI2 &&& (3 : Int32)) % (3 : Int32))), .val (.int ((((pI2.toUInt32 >>> ((2 : Int32) &&& 31).toUInt32).toInt32) &&& (3 : Int32)) % (3 : Int32))), .val (.ref bR5), .val (.ref bR14), .val (.ref bR23), .val (.ref bR41), .val (.ref bR56_0), .val (.ref bR60_0), .unset, .unset, .unset, .unset] [(.ref bR41), (.ref bR23), (.ref bR119_0), (.ref bR63), (.ref bR63)] _
    refine XS.aload X119.here hx rfl (hb hby at_111) rfl rfl ?_
    refine XS.aload X119.here hx rfl (hb hby at_113) rfl rfl ?_
    refine st129.trans ?_
    refine XS.astore X129.here hx rfl (hb hby at_118) rfl rfl (l' := #[.val (.int pI1), .val (.int pI2), .val (.int pI3), .val (.int pI4), .val (.int ((pI1 &&& (2147483647 : Int32)) % (5 : Int32))), .val (.int ((pI2 &&& (3 : Int32)) % (3 : Int32))), .val (.int ((((pI2.toUInt32 >>> ((2 : Int32) &&& 31).toUInt32).toInt32) &&& (3 : Int32)) % (3 : Int32))), .val (.ref bR5), .val (.ref bR14), .val (.ref bR23), .val (.ref bR41), .val (.ref bR56_0), .val (.ref bR60_0), .val (.ref bR63), .unset, .unset, .unset]) rfl ?_
    show oS p e below T129 m 120 #[.val (.int pI1), .val (.int pI2), .val (.int pI3), .val (.int pI4), .val (.int ((pI1 &&& (2147483647 : Int32)) % (5 : Int32))), .val (.int ((pI2 &&& (3 : Int32)) % (3 : Int32))), .val (.int ((((pI2.toUInt32 >>> ((2 : Int32) &&& 31).toUInt32).toInt32) &&& (3 : Int32)) % (3 : Int32))), .val (.ref bR5), .val (.ref bR14), .val (.ref bR23), .val (.ref bR41), .val (.ref bR56_0), .val (.ref bR60_0), .val (.ref bR63), .unset, .unset, .unset] [] _
    refine XS.iload X129.here hx rfl (hb hby at_120) rfl ?_
    refine XS.ifNo X129.here hx rfl (hb hby at_122) rfl ((if0 _ _).trans (feq hc82).1) ?_
    refine XS.iconst X129.here hx rfl (hb hby at_125) ?_
    refine XS.goto X129.here hx rfl (pc0 := 126) (pc' := 130) rfl (hb hby at_126) (by decide) (by decide) ?_
    show oS p e below T129 m 130 #[.val (.int pI1), .val (.int pI2), .val (.int pI3), .val (.int pI4), .val (.int ((pI1 &&& (2147483647 : Int32)) % (5 : Int32))), .val (.int ((pI2 &&& (3 : Int32)) % (3 : Int32))), .val (.int ((((pI2.toUInt32 >>> ((2 : Int32) &&& 31).toUInt32).toInt32) &&& (3 : Int32)) % (3 : Int32))), .val (.ref bR5), .val (.ref bR14), .val (.ref bR23), .val (.ref bR41), .val (.ref bR56_0), .val (.ref bR60_0), .val (.ref bR63), .unset, .unset, .unset] [(.int 1)] _
    refine XS.istore X129.here hx rfl (hb hby at_130) rfl (l' := #[.val (.int pI1), .val (.int pI2), .val (.int pI3), .val (.int pI4), .val (.int ((pI1 &&& (2147483647 : Int32)) % (5 : Int32))), .val (.int ((pI2 &&& (3 : Int32)) % (3 : Int32))), .val (.int ((((pI2.toUInt32 >>> ((2 : Int32) &&& 31).toUInt32).toInt32) &&& (3 : Int32)) % (3 : Int32))), .val (.ref bR5), .val (.ref bR14), .val (.ref bR23), .val (.ref bR41), .val (.ref bR56_0), .val (.ref bR60_0), .val (.ref bR63), .val (.int 1), .unset, .unset]) rfl ?_
    refine XS.iload X129.here hx rfl (hb hby at_132) rfl ?_
    refine XS.ifNo X129.here hx rfl (hb hby at_134) rfl ((if0 _ _).trans (feq hc93).1) ?_
    refine XS.iconst X129.here hx rfl (hb hby at_137) ?_
    show oS p e below T129 m 138 #[.val (.int pI1), .val (.int pI2), .val (.int pI3), .val (.int pI4), .val (.int ((pI1 &&& (2147483647 : Int32)) % (5 : Int32))), .val (.int ((pI2 &&& (3 : Int32)) % (3 : Int32))), .val (.int ((((pI2.toUInt32 >>> ((2 : Int32) &&& 31).toUInt32).toInt32) &&& (3 : Int32)) % (3 : Int32))), .val (.ref bR5), .val (.ref bR14), .val (.ref bR23), .val (.ref bR41), .val (.ref bR56_0), .val (.ref bR60_0), .val (.ref bR63), .val (.int 1), .unset, .unset] [(.int 1)] _
    refine XS.goto X129.here hx rfl (pc0 := 138) (pc' := 142) rfl (hb hby at_138) (by decide) (by decide) ?_
    refine XS.istore X129.here hx rfl (hb hby at_142) rfl (l' := #[.val (.int pI1), .val (.int pI2), .val (.int pI3), .val (.int pI4), .val (.int ((pI1 &&& (2147483647 : Int32)) % (5 : Int32))), .val (.int ((pI2 &&& (3 : Int32)) % (3 : Int32))), .val (.int ((((pI2.toUInt32 >>> ((2 : Int32) &&& 31).toUInt32).toInt32) &&& (3 : Int32)) % (3 : Int32))), .val (.ref bR5), .val (.ref bR14), .val (.ref bR23), .val (.ref bR41), .val (.ref bR56_0), .val (.ref bR60_0), .val (.ref bR63), .val (.int 1), .val (.int 1), .unset]) rfl ?_
    refine XS.iload X129.here hx rfl (hb hby at_144) rfl ?_
    refine XS.ifNo X129.here hx rfl (hb hby at_146) rfl ((if0 _ _).trans (feq (by decide : ¬ ((1 : Int32) = (0 : Int32)))).1) ?_
    show oS p e below T129 m 149 #[.val (.int pI1), .val (.int pI2), .val (.int pI3), .val (.int pI4), .val (.int ((pI1 &&& (2147483647 : Int32)) % (5 : Int32))), .val (.int ((pI2 &&& (3 : Int32)) % (3 : Int32))), .val (.int ((((pI2.toUInt32 >>> ((2 : Int32) &&& 31).toUInt32).toInt32) &&& (3 : Int32)) % (3 : Int32))), .val (.ref bR5), .val (.ref bR14), .val (.ref bR23), .val (.ref bR41), .val (.ref bR56_0), .val (.ref bR60_0), .val (.ref bR63), .val (.int 1), .val (.int 1), .unset] [] _
    refine XS.iconst X129.here hx rfl (hb hby at_149) ?_
    refine XS.istore X129.here hx rfl (hb hby at_150) rfl (l' := #[.val (.int pI1), .val (.int pI2), .val (.int pI3), .val (.int pI4), .val (.int ((pI1 &&& (2147483647 : Int32)) % (5 : Int32))), .val (.int ((pI2 &&& (3 : Int32)) % (3 : Int32))), .val (.int ((((pI2.toUInt32 >>> ((2 : Int32) &&& 31).toUInt32).toInt32) &&& (3 : Int32)) % (3 : Int32))), .val (.ref bR5), .val (.ref bR14), .val (.ref bR23), .val (.ref bR41), .val (.ref bR56_0), .val (.ref bR60_0), .val (.ref bR63), .val (.int 1), .val (.int 1), .val (.int 1)]) rfl ?_
    refine XS.goto X129.here hx rfl (pc0 := 152) (pc' := 169) rfl (hb hby at_152) (by decide) (by decide) ?_
    refine XS.aload X129.here hx rfl (hb hby at_169) rfl rfl ?_
    show oS p e below T129 m 171 #[.val (.int pI1), .val (.int pI2), .val (.int pI3), .val (.int pI4), .val (.int ((pI1 &&& (2147483647 : Int32)) % (5 : Int32))), .val (.int ((pI2 &&& (3 : Int32)) % (3 : Int32))), .val (.int ((((pI2.toUInt32 >>> ((2 : Int32) &&& 31).toUInt32).toInt32) &&& (3 : Int32)) % (3 : Int32))), .val (.ref bR5), .val (.ref bR14), .val (.ref bR23), .val (.ref bR41), .val (.ref bR56_0), .val (.ref bR60_0), .val (.ref bR63), .val (.int 1), .val (.int 1), .val (.int 1)] [(.ref bR63)] _
    refine st132.trans ?_
    refine XS.iload X132.here hx rfl (hb hby at_174) rfl ?_
    refine XS.icmpNo X132.here hx rfl (hb hby at_176) rfl (teq (by decide : (1 : Int32) = (1 : Int32))).2 ?_
    refine XS.iconst X132.here hx rfl (hb hby at_179) ?_
    show oS p e below T132 m 180 #[.val (.int pI1), .val (.int pI2), .val (.int pI3), .val (.int pI4), .val (.int ((pI1 &&& (2147483647 : Int32)) % (5 : Int32))), .val (.int ((pI2 &&& (3 : Int32)) % (3 : Int32))), .val (.int ((((pI2.toUInt32 >>> ((2 : Int32) &&& 31).toUInt32).toInt32) &&& (3 : Int32)) % (3 : Int32))), .val (.ref bR5), .val (.ref bR14), .val (.ref bR23), .val (.ref bR41), .val (.ref bR56_0), .val (.ref bR60_0), .val (.ref bR63), .val (.int 1), .val (.int 1), .val (.int 1)] [(.int 1)] _
    refine XS.goto X132.here hx rfl (pc0 := 180) (pc' := 184) rfl (hb hby at_180) (by decide) (by decide) ?_
    exact retN X132 hx (t := .boolean) Bd.returns (by simp) (hb hby at_184) hr
  · show QlawRRR Z pI1 pI2 pI3 pI4 pI31 pR71 pR83 pR95 pR107 h0 n0 _ T132.heap _
    rw [e132]
    exact ⟨rfl, N132⟩
set_option maxRecDepth 65536 in
set_option maxHeartbeats 40000000 in
theorem comes_1 {Post : Tables → Env → Array Value → State → Outcome → State → Prop} (hpost : ∀ tb e args s v u, (limb_1_1.after args s (.returned v) u = true ∧ limb_1_2.after args s (.returned v) u = true ∧ True) → FramedW s (.returned v) u (Jvm.fieldLocs frame_1_writes args s ++ Jvm.arrayLocs frame_1_arrays args s ++ Jvm.staticLocs frame_1_statics s) 40 1152 → Post tb e args s (.returned v) u) :
    ArmFor flags0 classFile x code maxLocals ret World_1 tables_1 room_1 Calls_1 rest_1 Pre_1 Post := by
  intro l hfl _ _ p e ha hc hk s m args below hf hA hF happ hP
  obtain ⟨hcalls, hrest, hpre⟩ := hP
  obtain ⟨-, -, -, hnamed, -, -, -, hat⟩ := (Spec.applies_iff hf).mp happ
  obtain ⟨hg, hn⟩ := and_e (Cond.before_iff.mp (show (Jvm.Cond.and given_1 narrow_1).before args s = true from hpre))
  obtain ⟨w1, w2⟩ := and_e hg
  obtain ⟨w3, w4⟩ := and_e w2
  obtain ⟨w5, w6⟩ := and_e w4
  obtain ⟨w7, w8⟩ := and_e w6
  obtain ⟨w9, w10⟩ := and_e hn
  obtain ⟨w11, w12⟩ := and_e w10
  obtain ⟨w13, w14⟩ := and_e w12
  obtain ⟨v0, v1, v2, v3, rfl⟩ : ∃ v0 v1 v2 v3 : Value, args = #[v0, v1, v2, v3] := by
    have hs : args.size = 4 := by simpa [Cond.value, given_1] using w1
    obtain ⟨L⟩ := args
    match L, hs with
    | [v0, v1, v2, v3], _ => exact ⟨v0, v1, v2, v3, rfl⟩
  have hw := fun d (hd : d ∈ tables_1) => atoms_spec (ws := Jvm.Cond.code x code maxLocals ret :: tables_1) hat d (List.mem_cons_of_mem _ hd)
  have hfit : Fit s := fun {y c} hc i hi => by
    obtain ⟨ha, rfl⟩ := Array.getElem?_eq_some_iff.mp hc
    have q := List.all_eq_true.mp ((Array.all_eq_true_iff_forall_mem.mp hF) _ (Array.getElem_mem ha)) i (List.mem_range.mpr hi)
    simpa [Array.getElem?_eq_getElem hi] using q
  obtain ⟨hsets, hown0⟩ := atoms_of _ (rest_1_c_eq ▸ (show rest_1_c.before _ s = true from hrest))
  obtain ⟨i0, ei0⟩ := is_v w3
  obtain rfl : v0 = (.int i0) := Option.some.inj ei0
  obtain ⟨i1, ei1⟩ := is_v w5
  obtain rfl : v1 = (.int i1) := Option.some.inj ei1
  obtain ⟨i2, ei2⟩ := is_v w7
  obtain rfl : v2 = (.int i2) := Option.some.inj ei2
  obtain ⟨i3, ei3⟩ := is_v w8
  obtain rfl : v3 = (.int i3) := Option.some.inj ei3
  obtain ⟨bR15, ev16⟩ := exa_v w9
  have S17 : Sta s s.heap "com/example/pergamena/pergamena/build/LabResults$Comparator" "AT_MOST" "Lcom/example/pergamena/pergamena/build/LabResults$Comparator;" (.ref bR15) := Sta.start ev16 (Or.inr ⟨(ow hw 66 rfl), (ow hw 67 rfl)⟩)
  have E18 : Exa s s.heap bR15 "com/example/pergamena/pergamena/build/LabResults$Comparator" := Exa.start ev16 w9
  obtain ⟨bR19, ev20⟩ := exa_v w11
  have S21 : Sta s s.heap "com/example/pergamena/pergamena/build/LabResults$Comparator" "AT_LEAST" "Lcom/example/pergamena/pergamena/build/LabResults$Comparator;" (.ref bR19) := Sta.start ev20 (Or.inr ⟨(ow hw 66 rfl), (ow hw 72 rfl)⟩)
  have E22 : Exa s s.heap bR19 "com/example/pergamena/pergamena/build/LabResults$Comparator" := Exa.start ev20 w11
  obtain ⟨bR23, ev24⟩ := exa_v w13
  have S25 : Sta s s.heap "com/example/pergamena/pergamena/build/LabResults$Comparator" "LESS" "Lcom/example/pergamena/pergamena/build/LabResults$Comparator;" (.ref bR23) := Sta.start ev24 (Or.inr ⟨(ow hw 66 rfl), (ow hw 74 rfl)⟩)
  have E26 : Exa s s.heap bR23 "com/example/pergamena/pergamena/build/LabResults$Comparator" := Exa.start ev24 w13
  obtain ⟨bR27, ev28⟩ := exa_v w14
  have S29 : Sta s s.heap "com/example/pergamena/pergamena/build/LabResults$Comparator" "GREATER" "Lcom/example/pergamena/pergamena/build/LabResults$Comparator;" (.ref bR27) := Sta.start ev28 (Or.inr ⟨(ow hw 66 rfl), (ow hw 76 rfl)⟩)
  have E30 : Exa s s.heap bR27 "com/example/pergamena/pergamena/build/LabResults$Comparator" := Exa.start ev28 w14
  obtain ⟨i90, ev90⟩ := is_v (Cond.before_iff.mp (hsets _ (List.mem_of_getElem? (i := 1) rfl)))
  have S31 : Sta s s.heap "java/lang/String" "COMPACT_STRINGS" "Z" (.int i90) := Sta.start ev90 (Or.inl (hsets _ (List.mem_of_getElem? (i := 0) rfl)))
  have hcs0 : ¬ (i90 = (0 : Int32)) := gotF (Cond.eq_ints ev90 (Term.int_eval 0)) (not_v (Cond.before_iff.mp (hsets _ (List.mem_of_getElem? (i := 2) rfl))))
  by_cases hkk : ((i0 &&& (2147483647 : Int32)) % (5 : Int32)) = (0 : Int32)
  · by_cases hl : ((i1 &&& (3 : Int32)) % (3 : Int32)) = (0 : Int32)
    · by_cases hh : ((((i1.toUInt32 >>> ((2 : Int32) &&& 31).toUInt32).toInt32) &&& (3 : Int32)) % (3 : Int32)) = (0 : Int32)
      · obtain ⟨n, o, h1, h2, h3, _, L, rfl, ⟨rfl, N⟩, hq⟩ := lawNNN l s _ hw tables_1 i0 i1 i2 i3 i90 s.heap s.heap.size (Nat.le_refl _) S31 hcs0 hl hh hkk p e ha hc hk s m _ below hf ((Spec.applies_iff_loose hf).mp happ).1 ⟨rfl, State.Warmed39.refl s, rfl⟩ trivial
        exact ⟨n, _, h1, h2, h3, hpost _ _ _ _ _ _ ⟨Cond.after_iff.mpr rfl, Cond.after_iff.mpr (eq_i res_at (Term.int_eval (1)) rfl), trivial⟩ ⟨hq.1, hq.2.1, hq.2.2.1, (hq.2.2.2.sift fun y hy => Or.inr (N y hy)).mono (by decide) (by decide)⟩⟩
      · obtain ⟨n, o, h1, h2, h3, _, L, rfl, ⟨rfl, N⟩, hq⟩ := lawNNR l s _ hw tables_1 i0 i1 i2 i3 i90 s.heap s.heap.size (Nat.le_refl _) S31 hcs0 hl hh hkk p e ha hc hk s m _ below hf ((Spec.applies_iff_loose hf).mp happ).1 ⟨rfl, State.Warmed39.refl s, rfl⟩ trivial
        exact ⟨n, _, h1, h2, h3, hpost _ _ _ _ _ _ ⟨Cond.after_iff.mpr rfl, Cond.after_iff.mpr (eq_i res_at (Term.int_eval (1)) rfl), trivial⟩ ⟨hq.1, hq.2.1, hq.2.2.1, (hq.2.2.2.sift fun y hy => Or.inr (N y hy)).mono (by decide) (by decide)⟩⟩
    · by_cases hh : ((((i1.toUInt32 >>> ((2 : Int32) &&& 31).toUInt32).toInt32) &&& (3 : Int32)) % (3 : Int32)) = (0 : Int32)
      · obtain ⟨n, o, h1, h2, h3, _, L, rfl, ⟨rfl, N⟩, hq⟩ := lawNRN l s _ hw tables_1 i0 i1 i2 i3 i90 s.heap s.heap.size (Nat.le_refl _) S31 hcs0 hl hh hkk p e ha hc hk s m _ below hf ((Spec.applies_iff_loose hf).mp happ).1 ⟨rfl, State.Warmed39.refl s, rfl⟩ trivial
        exact ⟨n, _, h1, h2, h3, hpost _ _ _ _ _ _ ⟨Cond.after_iff.mpr rfl, Cond.after_iff.mpr (eq_i res_at (Term.int_eval (1)) rfl), trivial⟩ ⟨hq.1, hq.2.1, hq.2.2.1, (hq.2.2.2.sift fun y hy => Or.inr (N y hy)).mono (by decide) (by decide)⟩⟩
      · obtain ⟨n, o, h1, h2, h3, _, L, rfl, ⟨rfl, N⟩, hq⟩ := lawNRR l s _ hw tables_1 i0 i1 i2 i3 i90 s.heap s.heap.size (Nat.le_refl _) S31 hcs0 hl hh hkk p e ha hc hk s m _ below hf ((Spec.applies_iff_loose hf).mp happ).1 ⟨rfl, State.Warmed39.refl s, rfl⟩ trivial
        exact ⟨n, _, h1, h2, h3, hpost _ _ _ _ _ _ ⟨Cond.after_iff.mpr rfl, Cond.after_iff.mpr (eq_i res_at (Term.int_eval (1)) rfl), trivial⟩ ⟨hq.1, hq.2.1, hq.2.2.1, (hq.2.2.2.sift fun y hy => Or.inr (N y hy)).mono (by decide) (by decide)⟩⟩
  · by_cases hl : ((i1 &&& (3 : Int32)) % (3 : Int32)) = (0 : Int32)
    · by_cases hh : ((((i1.toUInt32 >>> ((2 : Int32) &&& 31).toUInt32).toInt32) &&& (3 : Int32)) % (3 : Int32)) = (0 : Int32)
      · obtain ⟨n, o, h1, h2, h3, _, L, rfl, ⟨rfl, N⟩, hq⟩ := lawRNN l s _ hw tables_1 i0 i1 i2 i3 i90 bR23 bR15 bR27 bR19 s.heap s.heap.size (Nat.le_refl _) S31 S25 S17 S29 S21 hcs0 hl hh hkk p e ha hc hk s m _ below hf ((Spec.applies_iff_loose hf).mp happ).1 ⟨rfl, State.Warmed39.refl s, rfl⟩ trivial
        exact ⟨n, _, h1, h2, h3, hpost _ _ _ _ _ _ ⟨Cond.after_iff.mpr rfl, Cond.after_iff.mpr (eq_i res_at (Term.int_eval (1)) rfl), trivial⟩ ⟨hq.1, hq.2.1, hq.2.2.1, (hq.2.2.2.sift fun y hy => Or.inr (N y hy)).mono (by decide) (by decide)⟩⟩
      · obtain ⟨n, o, h1, h2, h3, _, L, rfl, ⟨rfl, N⟩, hq⟩ := lawRNR l s _ hw tables_1 i0 i1 i2 i3 i90 bR23 bR15 bR27 bR19 s.heap s.heap.size (Nat.le_refl _) S31 S25 S17 S29 S21 hcs0 hl hh hkk p e ha hc hk s m _ below hf ((Spec.applies_iff_loose hf).mp happ).1 ⟨rfl, State.Warmed39.refl s, rfl⟩ trivial
        exact ⟨n, _, h1, h2, h3, hpost _ _ _ _ _ _ ⟨Cond.after_iff.mpr rfl, Cond.after_iff.mpr (eq_i res_at (Term.int_eval (1)) rfl), trivial⟩ ⟨hq.1, hq.2.1, hq.2.2.1, (hq.2.2.2.sift fun y hy => Or.inr (N y hy)).mono (by decide) (by decide)⟩⟩
    · by_cases hh : ((((i1.toUInt32 >>> ((2 : Int32) &&& 31).toUInt32).toInt32) &&& (3 : Int32)) % (3 : Int32)) = (0 : Int32)
      · obtain ⟨n, o, h1, h2, h3, _, L, rfl, ⟨rfl, N⟩, hq⟩ := lawRRN l s _ hw tables_1 i0 i1 i2 i3 i90 bR23 bR15 bR27 bR19 s.heap s.heap.size (Nat.le_refl _) S31 S25 S17 S29 S21 hcs0 hl hh hkk p e ha hc hk s m _ below hf ((Spec.applies_iff_loose hf).mp happ).1 ⟨rfl, State.Warmed39.refl s, rfl⟩ trivial
        exact ⟨n, _, h1, h2, h3, hpost _ _ _ _ _ _ ⟨Cond.after_iff.mpr rfl, Cond.after_iff.mpr (eq_i res_at (Term.int_eval (1)) rfl), trivial⟩ ⟨hq.1, hq.2.1, hq.2.2.1, (hq.2.2.2.sift fun y hy => Or.inr (N y hy)).mono (by decide) (by decide)⟩⟩
      · obtain ⟨n, o, h1, h2, h3, _, L, rfl, ⟨rfl, N⟩, hq⟩ := lawRRR l s _ hw tables_1 i0 i1 i2 i3 i90 bR23 bR15 bR27 bR19 s.heap s.heap.size (Nat.le_refl _) S31 S25 S17 S29 S21 hcs0 hl hh hkk p e ha hc hk s m _ below hf ((Spec.applies_iff_loose hf).mp happ).1 ⟨rfl, State.Warmed39.refl s, rfl⟩ trivial
        exact ⟨n, _, h1, h2, h3, hpost _ _ _ _ _ _ ⟨Cond.after_iff.mpr rfl, Cond.after_iff.mpr (eq_i res_at (Term.int_eval (1)) rfl), trivial⟩ ⟨hq.1, hq.2.1, hq.2.2.1, (hq.2.2.2.sift fun y hy => Or.inr (N y hy)).mono (by decide) (by decide)⟩⟩
theorem main_1_1 : Claimed_1_1 := comes_1 fun _ _ _ _ _ _ h hF => ⟨h.1, hF⟩
theorem main_1_2 : Claimed_1_2 := comes_1 fun _ _ _ _ _ _ h hF => ⟨h.2.1, hF⟩
end Jvm.Pilot.@@N@@
namespace Jvm.Pilot.@@N@@
open Jvm Jvm.ClassFile Sem Op Lib Jvm.Free Jvm.Stand Jvm.Pilot.@@N@@.Jvm.D
/-! MADE BY PROGRAM (witnessworld.py) out of the Statement's table words and the real class files: 24 classes; the members and pool entries that the words name. The judged class is class 1, her method 3. -/
namespace start1
open Jvm.ClassFile
def u (s : String) : CpInfo := .utf8 (stringToUtf16 s)
/-- a pool by its gaps: so many unusable entries, then the entry; so many at the end -/
def gap : Nat → List CpInfo → List CpInfo
  | 0, r => r
  | n + 1, r => .unusable :: gap n r
def poolList (es : List (Nat × CpInfo)) (last : Nat) : List CpInfo := es.foldr (fun e r => gap e.1 (e.2 :: r)) (gap last [])
def pool (es : List (Nat × CpInfo)) (last : Nat) : Array CpInfo := ⟨poolList es last⟩
def fileOf (pool : Array CpInfo) (this : Nat) (attrs : Array Attribute := #[]) (ms : Array MethodInfo := #[]) (fl : Nat := 33) (sup : Nat := 0) (ifs : Array Nat := #[]) (fds : Array FieldInfo := #[]) : ClassFile where
  minorVersion := 0
  majorVersion := 65
  constantPool := pool
  accessFlags := fl
  thisClass := this
  superClass := sup
  interfaces := ifs
  fields := fds
  methods := ms
  attributes := attrs
def plain (name : String) (sup : Option ClassId) : Class where
  name := name
  kind := .ordinary
  loader := none
  accessFlags := 33
  super := sup
  interfaces := #[]
  cf := none
  fields := #[]
  methods := #[]
  instanceTypes := #[]
  staticTypes := #[]
  resolved := #[]
  callSites := []
  init := .initialized
  statics := none
  mirror := none

def pool0 : Array CpInfo := pool [(5, u "<init>"), (0, u "()V"), (1, .class_ 10), (1, u "java/lang/Object")] 113

def k0c0 : Code := { maxStack := 0, maxLocals := 1, code := object_method_1_code, exceptionTable := #[], attributes := #[] }
def k0m0 : Method := { name := "<init>", desc := "()V", sig := { parameters := [], returnType := none }, accessFlags := 1, code := some k0c0 }
/-- java/lang/Object -/
def k0 : Class := { plain "java/lang/Object" none with
  accessFlags := 33
  interfaces := #[]
  cf := some (fileOf pool0 8 #[] #[{ accessFlags := 1, nameIndex := 5, descriptorIndex := 6, attributes := #[] }] 33 0 #[] #[])
  fields := #[]
  methods := #[k0m0]
  instanceTypes := #[]
  staticTypes := #[]
  resolved := Array.replicate 124 none
  statics := none }

def pool1 : Array CpInfo := pool [(2, .class_ 4), (1, u "java/lang/Object"), (0, u "<init>"), (0, u "()V"), (0, .fieldref 8 9), (0, .class_ 10), (0, .nameAndType 11 12), (0, u "com/example/pergamena/pergamena/build/LabResults$Comparator"), (0, u "LESS"), (0, u "Lcom/example/pergamena/pergamena/build/LabResults$Comparator;"), (0, .fieldref 8 14), (0, .nameAndType 15 12), (0, u "AT_MOST"), (0, .fieldref 8 17), (0, .nameAndType 18 12), (0, u "GREATER"), (0, .fieldref 8 20), (0, .nameAndType 21 12), (0, u "AT_LEAST"), (0, .string 23), (0, u ""), (0, .class_ 25), (0, u "java/lang/String"), (0, .methodref 24 27), (0, .nameAndType 5 28), (0, u "([C)V"), (0, .integer 2147483647), (0, .methodref 31 32), (0, .class_ 33), (0, .nameAndType 34 35), (0, u "com/example/pergamena/pergamena/build/QuantityHasRangePinLaw"), (0, u "end"), (0, u "(II)Ljava/lang/String;"), (0, .class_ 37), (0, u "com/example/pergamena/pergamena/build/LabResults$Quantity"), (0, .methodref 31 39), (0, .nameAndType 40 41), (0, u "comparator"), (0, u "(I)Lcom/example/pergamena/pergamena/build/LabResults$Comparator;"), (0, .methodref 36 43), (0, .nameAndType 5 44), (0, u "(Lcom/example/pergamena/pergamena/build/LabResults$Comparator;Ljava/lang/String;Ljava/lang/String;Ljava/lang/String;Ljava/lang/String;)V"), (0, .methodref 36 46), (0, .nameAndType 47 48), (0, u "hasRange"), (0, u "()Z"), (3, u "law"), (0, u "(IIII)Z")] 9

def k1m0 : Method := { name := "<init>", desc := "()V", sig := { parameters := [], returnType := none }, accessFlags := 1, code := none }
def k1c1 : Code := { maxStack := 2, maxLocals := 1, code := method_2_code, exceptionTable := #[], attributes := #[] }
def k1m1 : Method := { name := "comparator", desc := "(I)Lcom/example/pergamena/pergamena/build/LabResults$Comparator;", sig := { parameters := [.int], returnType := some (.object "com/example/pergamena/pergamena/build/LabResults$Comparator") }, accessFlags := 10, code := some k1c1 }
def k1c2 : Code := { maxStack := 4, maxLocals := 3, code := method_3_code, exceptionTable := #[], attributes := #[] }
def k1m2 : Method := { name := "end", desc := "(II)Ljava/lang/String;", sig := { parameters := [.int, .int], returnType := some (.object "java/lang/String") }, accessFlags := 10, code := some k1c2 }
def k1c3 : Code := { maxStack := 7, maxLocals := 17, code := code, exceptionTable := #[], attributes := #[] }
def k1m3 : Method := { name := "law", desc := "(IIII)Z", sig := { parameters := [.int, .int, .int, .int], returnType := some .boolean }, accessFlags := 9, code := some k1c3 }
/-- com/example/pergamena/pergamena/build/QuantityHasRangePinLaw -/
def k1 : Class := { plain "com/example/pergamena/pergamena/build/QuantityHasRangePinLaw" (some 0) with
  accessFlags := 49
  interfaces := #[]
  cf := some (fileOf pool1 31 #[] #[{ accessFlags := 1, nameIndex := 5, descriptorIndex := 6, attributes := #[] }, { accessFlags := 10, nameIndex := 40, descriptorIndex := 41, attributes := #[] }, { accessFlags := 10, nameIndex := 34, descriptorIndex := 35, attributes := #[] }, { accessFlags := 9, nameIndex := 52, descriptorIndex := 53, attributes := #[] }] 49 2 #[] #[])
  fields := #[]
  methods := #[k1m0, k1m1, k1m2, k1m3]
  instanceTypes := #[]
  staticTypes := #[]
  resolved := Array.replicate 63 none
  statics := none }

def pool2 : Array CpInfo := pool [(1, .class_ 2), (0, u "java/io/Serializable"), (0, .class_ 4), (0, u "java/lang/Object")] 2

/-- java/io/Serializable -/
def k2 : Class := { plain "java/io/Serializable" (some 0) with
  accessFlags := 1537
  interfaces := #[]
  cf := some (fileOf pool2 1 #[] #[] 1537 3 #[] #[])
  fields := #[]
  methods := #[]
  instanceTypes := #[]
  staticTypes := #[]
  resolved := Array.replicate 7 none
  statics := none }

def pool3 : Array CpInfo := pool [(1, .class_ 2), (0, u "java/lang/Comparable"), (0, .class_ 4), (0, u "java/lang/Object")] 7

/-- java/lang/Comparable -/
def k3 : Class := { plain "java/lang/Comparable" (some 0) with
  accessFlags := 1537
  interfaces := #[]
  cf := some (fileOf pool3 1 #[] #[] 1537 3 #[] #[])
  fields := #[]
  methods := #[]
  instanceTypes := #[]
  staticTypes := #[]
  resolved := Array.replicate 12 none
  statics := none }

def pool4 : Array CpInfo := pool [(2, .class_ 4), (1, u "java/lang/CharSequence"), (42, .class_ 48), (0, u "java/lang/CharSequence$1CodePointIterator"), (10, .class_ 60), (0, u "java/lang/CharSequence$1CharIterator"), (5, .class_ 67), (0, u "java/lang/Object")] 63

/-- java/lang/CharSequence -/
def k4 : Class := { plain "java/lang/CharSequence" (some 0) with
  accessFlags := 1537
  interfaces := #[]
  cf := some (fileOf pool4 2 #[.nestMembers #[47, 59]] #[] 1537 66 #[] #[])
  fields := #[]
  methods := #[]
  instanceTypes := #[]
  staticTypes := #[]
  resolved := Array.replicate 131 none
  statics := none }

def pool5 : Array CpInfo := pool [(1, .class_ 2), (0, u "java/lang/constant/Constable"), (0, .class_ 4), (0, u "java/lang/Object")] 6

/-- java/lang/constant/Constable -/
def k5 : Class := { plain "java/lang/constant/Constable" (some 0) with
  accessFlags := 1537
  interfaces := #[]
  cf := some (fileOf pool5 1 #[] #[] 1537 3 #[] #[])
  fields := #[]
  methods := #[]
  instanceTypes := #[]
  staticTypes := #[]
  resolved := Array.replicate 11 none
  statics := none }

def pool6 : Array CpInfo := pool [(1, .class_ 2), (0, u "java/lang/constant/ConstantDesc"), (0, .class_ 4), (0, u "java/lang/Object")] 32

/-- java/lang/constant/ConstantDesc -/
def k6 : Class := { plain "java/lang/constant/ConstantDesc" (some 0) with
  accessFlags := 1537
  interfaces := #[]
  cf := some (fileOf pool6 1 #[] #[] 1537 3 #[] #[])
  fields := #[]
  methods := #[]
  instanceTypes := #[]
  staticTypes := #[]
  resolved := Array.replicate 37 none
  statics := none }

def pool7 : Array CpInfo := pool [(1, .methodref 2 3), (0, .class_ 4), (0, .nameAndType 5 6), (0, u "java/lang/Object"), (0, u "<init>"), (0, u "()V"), (2, .fieldref 10 11), (0, .class_ 12), (0, .nameAndType 13 14), (0, u "java/lang/String"), (0, u "value"), (0, u "[B"), (0, .fieldref 10 16), (0, .nameAndType 17 18), (0, u "coder"), (0, u "B"), (2, u "hash"), (0, u "I"), (2, u "hashIsZero"), (0, u "Z"), (0, .methodref 10 28), (0, .nameAndType 5 29), (0, u "([CIILjava/lang/Void;)V"), (8, .fieldref 10 39), (0, .nameAndType 40 26), (0, u "COMPACT_STRINGS"), (1, .class_ 44), (1, u "java/lang/StringUTF16"), (0, u "compress"), (1, .methodref 42 48), (0, .nameAndType 49 50), (0, u "coderFromArrayLen"), (0, u "([BI)B"), (126, .methodref 42 178), (0, .nameAndType 45 179), (0, u "([CII)[B"), (395, .class_ 576), (0, u "java/lang/CharSequence"), (22, u "CASE_INSENSITIVE_ORDER"), (0, u "Ljava/util/Comparator;"), (409, u "([C)V"), (90, u "serialPersistentFields"), (0, u "[Ljava/io/ObjectStreamField;"), (0, .class_ 1104), (0, u "java/lang/String$CaseInsensitiveComparator"), (1, .class_ 1107), (0, u "java/io/Serializable"), (0, .class_ 1109), (0, u "java/lang/Comparable"), (0, .class_ 1111), (0, u "java/lang/constant/Constable"), (0, .class_ 1113), (0, u "java/lang/constant/ConstantDesc"), (2, u "serialVersionUID"), (0, u "J"), (3, u "REPL"), (0, u "C"), (2, u "LATIN1"), (1, u "UTF16")] 323

def k7m0 : Method := { name := "<init>", desc := "()V", sig := { parameters := [], returnType := none }, accessFlags := 1, code := none }
def k7c1 : Code := { maxStack := 5, maxLocals := 2, code := jdk_42_method_3_code, exceptionTable := #[], attributes := #[] }
def k7m1 : Method := { name := "<init>", desc := "([C)V", sig := { parameters := [(.array .char)], returnType := none }, accessFlags := 1, code := some k7c1 }
def k7c2 : Code := { maxStack := 4, maxLocals := 6, code := jdk_42_method_149_code, exceptionTable := #[], attributes := #[] }
def k7m2 : Method := { name := "<init>", desc := "([CIILjava/lang/Void;)V", sig := { parameters := [(.array .char), .int, .int, (.object "java/lang/Void")], returnType := none }, accessFlags := 2, code := some k7c2 }
/-- java/lang/String -/
def k7 : Class := { plain "java/lang/String" (some 0) with
  accessFlags := 49
  interfaces := #[2, 3, 4, 5, 6]
  cf := some (fileOf pool7 10 #[.nestMembers #[1103]] #[{ accessFlags := 1, nameIndex := 5, descriptorIndex := 6, attributes := #[] }, { accessFlags := 1, nameIndex := 5, descriptorIndex := 1010, attributes := #[] }, { accessFlags := 2, nameIndex := 5, descriptorIndex := 29, attributes := #[] }] 49 2 #[1106, 1108, 575, 1110, 1112] #[{ accessFlags := 18, nameIndex := 13, descriptorIndex := 14, attributes := #[] }, { accessFlags := 18, nameIndex := 17, descriptorIndex := 18, attributes := #[] }, { accessFlags := 2, nameIndex := 21, descriptorIndex := 22, attributes := #[] }, { accessFlags := 2, nameIndex := 25, descriptorIndex := 26, attributes := #[] }, { accessFlags := 26, nameIndex := 1116, descriptorIndex := 1117, attributes := #[] }, { accessFlags := 24, nameIndex := 40, descriptorIndex := 26, attributes := #[] }, { accessFlags := 26, nameIndex := 1101, descriptorIndex := 1102, attributes := #[] }, { accessFlags := 26, nameIndex := 1121, descriptorIndex := 1122, attributes := #[] }, { accessFlags := 25, nameIndex := 599, descriptorIndex := 600, attributes := #[] }, { accessFlags := 24, nameIndex := 1125, descriptorIndex := 18, attributes := #[] }, { accessFlags := 24, nameIndex := 1127, descriptorIndex := 18, attributes := #[] }])
  fields := #[{ name := "value", type := (.array .byte), accessFlags := 18, slot := 0, constantValue := 0 }, { name := "coder", type := .byte, accessFlags := 18, slot := 1, constantValue := 0 }, { name := "hash", type := .int, accessFlags := 2, slot := 2, constantValue := 0 }, { name := "hashIsZero", type := .boolean, accessFlags := 2, slot := 3, constantValue := 0 }, { name := "serialVersionUID", type := .long, accessFlags := 26, slot := 0, constantValue := 0 }, { name := "COMPACT_STRINGS", type := .boolean, accessFlags := 24, slot := 1, constantValue := 0 }, { name := "serialPersistentFields", type := (.array (.object "java/io/ObjectStreamField")), accessFlags := 26, slot := 2, constantValue := 0 }, { name := "REPL", type := .char, accessFlags := 26, slot := 3, constantValue := 0 }, { name := "CASE_INSENSITIVE_ORDER", type := (.object "java/util/Comparator"), accessFlags := 25, slot := 4, constantValue := 0 }, { name := "LATIN1", type := .byte, accessFlags := 24, slot := 5, constantValue := 0 }, { name := "UTF16", type := .byte, accessFlags := 24, slot := 6, constantValue := 0 }]
  methods := #[k7m0, k7m1, k7m2]
  instanceTypes := #[(.array .byte), .byte, .int, .boolean]
  staticTypes := #[.long, .boolean, (.array (.object "java/io/ObjectStreamField")), .char, (.object "java/util/Comparator"), .byte, .byte]
  resolved := Array.replicate 1451 none
  statics := some 0 }

def pool8 : Array CpInfo := pool [(6, .class_ 8), (1, u "java/lang/Object"), (0, u "<init>"), (0, u "()V"), (1, .class_ 14), (1, u "java/lang/StringUTF16"), (31, u "$assertionsDisabled"), (0, u "Z"), (13, u "HI_BYTE_SHIFT"), (0, u "I"), (2, u "LO_BYTE_SHIFT"), (49, .methodref 12 116), (0, .nameAndType 117 118), (0, u "compress"), (0, u "([CI[BII)I"), (3, u "([CII)[B"), (138, u "coderFromArrayLen"), (0, u "([BI)B"), (106, .class_ 371), (1, u "java/lang/StringUTF16$LinesSpliterator"), (58, u "MAX_LENGTH"), (196, .class_ 628), (0, u "java/lang/StringUTF16$CodePointsSpliterator"), (0, .class_ 630), (0, u "java/lang/StringUTF16$CharsSpliterator")] 4

def k8m0 : Method := { name := "<init>", desc := "()V", sig := { parameters := [], returnType := none }, accessFlags := 0, code := none }
def k8c1 : Code := { maxStack := 2, maxLocals := 2, code := jdk_52_method_15_code, exceptionTable := #[], attributes := #[] }
def k8m1 : Method := { name := "coderFromArrayLen", desc := "([BI)B", sig := { parameters := [(.array .byte), .int], returnType := some .byte }, accessFlags := 8, code := some k8c1 }
def k8c2 : Code := { maxStack := 5, maxLocals := 6, code := jdk_52_method_16_code, exceptionTable := #[], attributes := #[] }
def k8m2 : Method := { name := "compress", desc := "([CII)[B", sig := { parameters := [(.array .char), .int, .int], returnType := some (.array .byte) }, accessFlags := 9, code := some k8c2 }
def k8c3 : Code := { maxStack := 3, maxLocals := 7, code := jdk_52_method_21_code, exceptionTable := #[], attributes := #[] }
def k8m3 : Method := { name := "compress", desc := "([CI[BII)I", sig := { parameters := [(.array .char), .int, (.array .byte), .int, .int], returnType := some .int }, accessFlags := 9, code := some k8c3 }
/-- java/lang/StringUTF16 -/
def k8 : Class := { plain "java/lang/StringUTF16" (some 0) with
  accessFlags := 48
  interfaces := #[]
  cf := some (fileOf pool8 12 #[.nestMembers #[627, 629, 369]] #[{ accessFlags := 0, nameIndex := 9, descriptorIndex := 10, attributes := #[] }, { accessFlags := 8, nameIndex := 261, descriptorIndex := 262, attributes := #[] }, { accessFlags := 9, nameIndex := 117, descriptorIndex := 122, attributes := #[] }, { accessFlags := 9, nameIndex := 117, descriptorIndex := 118, attributes := #[] }] 48 6 #[] #[{ accessFlags := 26, nameIndex := 61, descriptorIndex := 62, attributes := #[] }, { accessFlags := 26, nameIndex := 65, descriptorIndex := 62, attributes := #[] }, { accessFlags := 24, nameIndex := 430, descriptorIndex := 62, attributes := #[] }, { accessFlags := 4120, nameIndex := 46, descriptorIndex := 47, attributes := #[] }])
  fields := #[{ name := "HI_BYTE_SHIFT", type := .int, accessFlags := 26, slot := 0, constantValue := 0 }, { name := "LO_BYTE_SHIFT", type := .int, accessFlags := 26, slot := 1, constantValue := 0 }, { name := "MAX_LENGTH", type := .int, accessFlags := 24, slot := 2, constantValue := 0 }, { name := "$assertionsDisabled", type := .boolean, accessFlags := 4120, slot := 3, constantValue := 0 }]
  methods := #[k8m0, k8m1, k8m2, k8m3]
  instanceTypes := #[]
  staticTypes := #[.int, .int, .int, .boolean]
  resolved := Array.replicate 635 none
  statics := none }

def pool9 : Array CpInfo := pool [(1, .methodref 2 3), (0, .class_ 4), (0, .nameAndType 5 6), (0, u "java/lang/Object"), (0, u "<init>"), (0, u "()V"), (0, .class_ 8), (0, u "java/lang/Record")] 13

def k9c0 : Code := { maxStack := 1, maxLocals := 1, code := jdk_30_method_1_code, exceptionTable := #[], attributes := #[] }
def k9m0 : Method := { name := "<init>", desc := "()V", sig := { parameters := [], returnType := none }, accessFlags := 4, code := some k9c0 }
/-- java/lang/Record -/
def k9 : Class := { plain "java/lang/Record" (some 0) with
  accessFlags := 1057
  interfaces := #[]
  cf := some (fileOf pool9 7 #[] #[{ accessFlags := 4, nameIndex := 5, descriptorIndex := 6, attributes := #[] }] 1057 2 #[] #[])
  fields := #[]
  methods := #[k9m0]
  instanceTypes := #[]
  staticTypes := #[]
  resolved := Array.replicate 22 none
  statics := none }

def pool10 : Array CpInfo := pool [(1, .class_ 2), (0, u "com/example/pergamena/pergamena/build/LabResults$Value"), (0, .class_ 4), (0, u "java/lang/Object"), (3, .class_ 9), (0, u "com/example/pergamena/pergamena/build/LabResults")] 12

/-- com/example/pergamena/pergamena/build/LabResults$Value -/
def k10 : Class := { plain "com/example/pergamena/pergamena/build/LabResults$Value" (some 0) with
  accessFlags := 1536
  interfaces := #[]
  cf := some (fileOf pool10 1 #[.nestHost 8] #[] 1536 3 #[] #[])
  fields := #[]
  methods := #[]
  instanceTypes := #[]
  staticTypes := #[]
  resolved := Array.replicate 22 none
  statics := none }

def pool11 : Array CpInfo := pool [(1, .methodref 2 3), (0, .class_ 4), (0, .nameAndType 5 6), (0, u "java/lang/Record"), (0, u "<init>"), (0, u "()V"), (0, .fieldref 8 9), (0, .class_ 10), (0, .nameAndType 11 12), (0, u "com/example/pergamena/pergamena/build/LabResults$Quantity"), (0, u "comparator"), (0, u "Lcom/example/pergamena/pergamena/build/LabResults$Comparator;"), (0, .fieldref 8 14), (0, .nameAndType 15 16), (0, u "number"), (0, u "Ljava/lang/String;"), (0, .fieldref 8 18), (0, .nameAndType 19 16), (0, u "unit"), (0, .fieldref 8 21), (0, .nameAndType 22 16), (0, u "low"), (0, .fieldref 8 24), (0, .nameAndType 25 16), (0, u "high"), (12, .class_ 39), (0, u "com/example/pergamena/pergamena/build/LabResults$Value"), (0, u "(Lcom/example/pergamena/pergamena/build/LabResults$Comparator;Ljava/lang/String;Ljava/lang/String;Ljava/lang/String;Ljava/lang/String;)V"), (3, u "hasRange"), (0, u "()Z"), (8, .class_ 55), (0, u "com/example/pergamena/pergamena/build/LabResults")] 27

def k11c0 : Code := { maxStack := 2, maxLocals := 6, code := prog_18_method_1_code, exceptionTable := #[], attributes := #[] }
def k11m0 : Method := { name := "<init>", desc := "(Lcom/example/pergamena/pergamena/build/LabResults$Comparator;Ljava/lang/String;Ljava/lang/String;Ljava/lang/String;Ljava/lang/String;)V", sig := { parameters := [(.object "com/example/pergamena/pergamena/build/LabResults$Comparator"), (.object "java/lang/String"), (.object "java/lang/String"), (.object "java/lang/String"), (.object "java/lang/String")], returnType := none }, accessFlags := 0, code := some k11c0 }
def k11c1 : Code := { maxStack := 1, maxLocals := 1, code := prog_18_method_2_code, exceptionTable := #[], attributes := #[] }
def k11m1 : Method := { name := "hasRange", desc := "()Z", sig := { parameters := [], returnType := some .boolean }, accessFlags := 0, code := some k11c1 }
/-- com/example/pergamena/pergamena/build/LabResults$Quantity -/
def k11 : Class := { plain "com/example/pergamena/pergamena/build/LabResults$Quantity" (some 9) with
  accessFlags := 48
  interfaces := #[10]
  cf := some (fileOf pool11 8 #[.nestHost 54] #[{ accessFlags := 0, nameIndex := 5, descriptorIndex := 40, attributes := #[] }, { accessFlags := 0, nameIndex := 44, descriptorIndex := 45, attributes := #[] }] 48 2 #[38] #[{ accessFlags := 18, nameIndex := 11, descriptorIndex := 12, attributes := #[] }, { accessFlags := 18, nameIndex := 15, descriptorIndex := 16, attributes := #[] }, { accessFlags := 18, nameIndex := 19, descriptorIndex := 16, attributes := #[] }, { accessFlags := 18, nameIndex := 22, descriptorIndex := 16, attributes := #[] }, { accessFlags := 18, nameIndex := 25, descriptorIndex := 16, attributes := #[] }])
  fields := #[{ name := "comparator", type := (.object "com/example/pergamena/pergamena/build/LabResults$Comparator"), accessFlags := 18, slot := 0, constantValue := 0 }, { name := "number", type := (.object "java/lang/String"), accessFlags := 18, slot := 1, constantValue := 0 }, { name := "unit", type := (.object "java/lang/String"), accessFlags := 18, slot := 2, constantValue := 0 }, { name := "low", type := (.object "java/lang/String"), accessFlags := 18, slot := 3, constantValue := 0 }, { name := "high", type := (.object "java/lang/String"), accessFlags := 18, slot := 4, constantValue := 0 }]
  methods := #[k11m0, k11m1]
  instanceTypes := #[(.object "com/example/pergamena/pergamena/build/LabResults$Comparator"), (.object "java/lang/String"), (.object "java/lang/String"), (.object "java/lang/String"), (.object "java/lang/String")]
  staticTypes := #[]
  resolved := Array.replicate 83 none
  statics := none }

def pool12 : Array CpInfo := pool [(2, .class_ 4), (1, u "java/lang/Enum"), (0, u "name"), (0, u "Ljava/lang/String;"), (2, u "ordinal"), (0, u "I"), (1, .class_ 14), (1, u "java/lang/Object"), (4, u "hash"), (86, .class_ 108), (1, u "java/lang/Enum$EnumDesc"), (2, .class_ 112), (0, u "java/lang/constant/Constable"), (0, .class_ 114), (0, u "java/lang/Comparable"), (0, .class_ 116), (0, u "java/io/Serializable")] 87

/-- java/lang/Enum -/
def k12 : Class := { plain "java/lang/Enum" (some 0) with
  accessFlags := 1057
  interfaces := #[5, 3, 2]
  cf := some (fileOf pool12 2 #[.nestMembers #[106]] #[] 1057 12 #[111, 113, 115] #[{ accessFlags := 18, nameIndex := 5, descriptorIndex := 6, attributes := #[] }, { accessFlags := 18, nameIndex := 9, descriptorIndex := 10, attributes := #[] }, { accessFlags := 2, nameIndex := 19, descriptorIndex := 10, attributes := #[] }])
  fields := #[{ name := "name", type := (.object "java/lang/String"), accessFlags := 18, slot := 0, constantValue := 0 }, { name := "ordinal", type := .int, accessFlags := 18, slot := 1, constantValue := 0 }, { name := "hash", type := .int, accessFlags := 2, slot := 2, constantValue := 0 }]
  methods := #[]
  instanceTypes := #[(.object "java/lang/String"), .int, .int]
  staticTypes := #[]
  resolved := Array.replicate 204 none
  statics := none }

def pool13 : Array CpInfo := pool [(1, .class_ 2), (0, u "com/example/pergamena/pergamena/build/LabResults$Comparator"), (2, u "LESS"), (0, u "Lcom/example/pergamena/pergamena/build/LabResults$Comparator;"), (2, u "AT_MOST"), (2, u "GREATER"), (2, u "AT_LEAST"), (2, u "$VALUES"), (0, u "[Lcom/example/pergamena/pergamena/build/LabResults$Comparator;"), (6, .class_ 28), (1, u "java/lang/Enum"), (8, u "symbol"), (0, u "Ljava/lang/String;"), (2, u "sign"), (2, u "upper"), (0, u "Z"), (2, u "inclusive"), (90, .class_ 140), (0, u "com/example/pergamena/pergamena/build/LabResults")] 26

/-- com/example/pergamena/pergamena/build/LabResults$Comparator -/
def k13 : Class := { plain "com/example/pergamena/pergamena/build/LabResults$Comparator" (some 12) with
  accessFlags := 16432
  interfaces := #[]
  cf := some (fileOf pool13 1 #[.nestHost 139] #[] 16432 26 #[] #[{ accessFlags := 16409, nameIndex := 5, descriptorIndex := 6, attributes := #[] }, { accessFlags := 16409, nameIndex := 9, descriptorIndex := 6, attributes := #[] }, { accessFlags := 16409, nameIndex := 12, descriptorIndex := 6, attributes := #[] }, { accessFlags := 16409, nameIndex := 15, descriptorIndex := 6, attributes := #[] }, { accessFlags := 18, nameIndex := 37, descriptorIndex := 38, attributes := #[] }, { accessFlags := 18, nameIndex := 41, descriptorIndex := 38, attributes := #[] }, { accessFlags := 18, nameIndex := 44, descriptorIndex := 45, attributes := #[] }, { accessFlags := 18, nameIndex := 48, descriptorIndex := 45, attributes := #[] }, { accessFlags := 4122, nameIndex := 18, descriptorIndex := 19, attributes := #[] }])
  fields := #[{ name := "LESS", type := (.object "com/example/pergamena/pergamena/build/LabResults$Comparator"), accessFlags := 16409, slot := 0, constantValue := 0 }, { name := "AT_MOST", type := (.object "com/example/pergamena/pergamena/build/LabResults$Comparator"), accessFlags := 16409, slot := 1, constantValue := 0 }, { name := "GREATER", type := (.object "com/example/pergamena/pergamena/build/LabResults$Comparator"), accessFlags := 16409, slot := 2, constantValue := 0 }, { name := "AT_LEAST", type := (.object "com/example/pergamena/pergamena/build/LabResults$Comparator"), accessFlags := 16409, slot := 3, constantValue := 0 }, { name := "symbol", type := (.object "java/lang/String"), accessFlags := 18, slot := 3, constantValue := 0 }, { name := "sign", type := (.object "java/lang/String"), accessFlags := 18, slot := 4, constantValue := 0 }, { name := "upper", type := .boolean, accessFlags := 18, slot := 5, constantValue := 0 }, { name := "inclusive", type := .boolean, accessFlags := 18, slot := 6, constantValue := 0 }, { name := "$VALUES", type := (.array (.object "com/example/pergamena/pergamena/build/LabResults$Comparator")), accessFlags := 4122, slot := 4, constantValue := 0 }]
  methods := #[]
  instanceTypes := #[(.object "java/lang/String"), .int, .int, (.object "java/lang/String"), (.object "java/lang/String"), .boolean, .boolean]
  staticTypes := #[(.object "com/example/pergamena/pergamena/build/LabResults$Comparator"), (.object "com/example/pergamena/pergamena/build/LabResults$Comparator"), (.object "com/example/pergamena/pergamena/build/LabResults$Comparator"), (.object "com/example/pergamena/pergamena/build/LabResults$Comparator"), (.array (.object "com/example/pergamena/pergamena/build/LabResults$Comparator"))]
  resolved := Array.replicate 167 none
  statics := some 1 }

def pool14 : Array CpInfo := pool [(4, .class_ 6), (1, u "java/lang/Object"), (0, u "<init>"), (0, u "()V"), (5, .class_ 16), (1, u "java/lang/StringLatin1"), (104, u "$assertionsDisabled"), (0, u "Z"), (98, .class_ 223), (1, u "java/lang/StringLatin1$LinesSpliterator"), (166, .class_ 391), (0, u "java/lang/StringLatin1$CharsSpliterator")] 3

def k14m0 : Method := { name := "<init>", desc := "()V", sig := { parameters := [], returnType := none }, accessFlags := 0, code := none }
/-- java/lang/StringLatin1 -/
def k14 : Class := { plain "java/lang/StringLatin1" (some 0) with
  accessFlags := 48
  interfaces := #[]
  cf := some (fileOf pool14 14 #[.nestMembers #[390, 221]] #[{ accessFlags := 0, nameIndex := 7, descriptorIndex := 8, attributes := #[] }] 48 4 #[] #[{ accessFlags := 4120, nameIndex := 121, descriptorIndex := 122, attributes := #[] }])
  fields := #[{ name := "$assertionsDisabled", type := .boolean, accessFlags := 4120, slot := 0, constantValue := 0 }]
  methods := #[k14m0]
  instanceTypes := #[]
  staticTypes := #[.boolean]
  resolved := Array.replicate 395 none
  statics := none }

def pool15 : Array CpInfo := pool [(2, .class_ 4), (1, u "java/lang/Object"), (0, u "<init>"), (0, u "()V"), (17, .class_ 26), (1, u "jdk/internal/util/Preconditions"), (28, .class_ 56), (0, u "jdk/internal/util/Preconditions$4"), (57, .class_ 115), (0, u "jdk/internal/util/Preconditions$1"), (7, u "SIOOBE_FORMATTER"), (0, u "Ljava/util/function/BiFunction;"), (0, .class_ 126), (0, u "jdk/internal/util/Preconditions$2"), (3, u "AIOOBE_FORMATTER"), (0, .class_ 132), (0, u "jdk/internal/util/Preconditions$3"), (3, u "IOOBE_FORMATTER")] 57

def k15m0 : Method := { name := "<init>", desc := "()V", sig := { parameters := [], returnType := none }, accessFlags := 1, code := none }
/-- jdk/internal/util/Preconditions -/
def k15 : Class := { plain "jdk/internal/util/Preconditions" (some 0) with
  accessFlags := 33
  interfaces := #[]
  cf := some (fileOf pool15 24 #[.nestMembers #[55, 131, 125, 114]] #[{ accessFlags := 1, nameIndex := 5, descriptorIndex := 6, attributes := #[] }] 33 2 #[] #[{ accessFlags := 25, nameIndex := 123, descriptorIndex := 124, attributes := #[] }, { accessFlags := 25, nameIndex := 130, descriptorIndex := 124, attributes := #[] }, { accessFlags := 25, nameIndex := 136, descriptorIndex := 124, attributes := #[] }])
  fields := #[{ name := "SIOOBE_FORMATTER", type := (.object "java/util/function/BiFunction"), accessFlags := 25, slot := 0, constantValue := 0 }, { name := "AIOOBE_FORMATTER", type := (.object "java/util/function/BiFunction"), accessFlags := 25, slot := 1, constantValue := 0 }, { name := "IOOBE_FORMATTER", type := (.object "java/util/function/BiFunction"), accessFlags := 25, slot := 2, constantValue := 0 }]
  methods := #[k15m0]
  instanceTypes := #[]
  staticTypes := #[(.object "java/util/function/BiFunction"), (.object "java/util/function/BiFunction"), (.object "java/util/function/BiFunction")]
  resolved := Array.replicate 194 none
  statics := some 2 }

def pool16 : Array CpInfo := pool [(9, u "<init>"), (6, .class_ 18), (1, u "java/lang/Object"), (0, u "()V"), (1, .class_ 23), (1, u "jdk/internal/util/ArraysSupport"), (0, u "LOG2_ARRAY_LONG_INDEX_SCALE"), (0, u "I"), (2, u "U"), (0, u "Ljdk/internal/misc/Unsafe;"), (8, u "BIG_ENDIAN"), (0, u "Z"), (8, u "LOG2_BYTE_BIT_SIZE"), (4, u "LOG2_ARRAY_INT_INDEX_SCALE"), (54, u "JLA"), (0, u "Ljdk/internal/access/JavaLangAccess;"), (11, u "LOG2_ARRAY_BOOLEAN_INDEX_SCALE"), (9, u "LOG2_ARRAY_BYTE_INDEX_SCALE"), (5, u "LOG2_ARRAY_CHAR_INDEX_SCALE"), (5, u "LOG2_ARRAY_SHORT_INDEX_SCALE"), (18, u "LOG2_ARRAY_FLOAT_INDEX_SCALE"), (24, u "LOG2_ARRAY_DOUBLE_INDEX_SCALE"), (89, u "T_BOOLEAN"), (2, u "T_CHAR"), (1, u "T_FLOAT"), (1, u "T_DOUBLE"), (1, u "T_BYTE"), (1, u "T_SHORT"), (1, u "T_INT"), (1, u "T_LONG"), (1, u "SOFT_MAX_ARRAY_LENGTH")] 83

def k16m0 : Method := { name := "<init>", desc := "()V", sig := { parameters := [], returnType := none }, accessFlags := 2, code := none }
/-- jdk/internal/util/ArraysSupport -/
def k16 : Class := { plain "jdk/internal/util/ArraysSupport" (some 0) with
  accessFlags := 33
  interfaces := #[]
  cf := some (fileOf pool16 21 #[] #[{ accessFlags := 2, nameIndex := 9, descriptorIndex := 19, attributes := #[] }] 33 16 #[] #[{ accessFlags := 24, nameIndex := 28, descriptorIndex := 29, attributes := #[] }, { accessFlags := 26, nameIndex := 38, descriptorIndex := 39, attributes := #[] }, { accessFlags := 25, nameIndex := 121, descriptorIndex := 25, attributes := #[] }, { accessFlags := 25, nameIndex := 131, descriptorIndex := 25, attributes := #[] }, { accessFlags := 25, nameIndex := 137, descriptorIndex := 25, attributes := #[] }, { accessFlags := 25, nameIndex := 143, descriptorIndex := 25, attributes := #[] }, { accessFlags := 25, nameIndex := 53, descriptorIndex := 25, attributes := #[] }, { accessFlags := 25, nameIndex := 24, descriptorIndex := 25, attributes := #[] }, { accessFlags := 25, nameIndex := 162, descriptorIndex := 25, attributes := #[] }, { accessFlags := 25, nameIndex := 187, descriptorIndex := 25, attributes := #[] }, { accessFlags := 26, nameIndex := 48, descriptorIndex := 25, attributes := #[] }, { accessFlags := 25, nameIndex := 277, descriptorIndex := 25, attributes := #[] }, { accessFlags := 25, nameIndex := 280, descriptorIndex := 25, attributes := #[] }, { accessFlags := 25, nameIndex := 282, descriptorIndex := 25, attributes := #[] }, { accessFlags := 25, nameIndex := 284, descriptorIndex := 25, attributes := #[] }, { accessFlags := 25, nameIndex := 286, descriptorIndex := 25, attributes := #[] }, { accessFlags := 25, nameIndex := 288, descriptorIndex := 25, attributes := #[] }, { accessFlags := 25, nameIndex := 290, descriptorIndex := 25, attributes := #[] }, { accessFlags := 25, nameIndex := 292, descriptorIndex := 25, attributes := #[] }, { accessFlags := 26, nameIndex := 108, descriptorIndex := 109, attributes := #[] }, { accessFlags := 25, nameIndex := 294, descriptorIndex := 25, attributes := #[] }])
  fields := #[{ name := "U", type := (.object "jdk/internal/misc/Unsafe"), accessFlags := 24, slot := 0, constantValue := 0 }, { name := "BIG_ENDIAN", type := .boolean, accessFlags := 26, slot := 1, constantValue := 0 }, { name := "LOG2_ARRAY_BOOLEAN_INDEX_SCALE", type := .int, accessFlags := 25, slot := 2, constantValue := 0 }, { name := "LOG2_ARRAY_BYTE_INDEX_SCALE", type := .int, accessFlags := 25, slot := 3, constantValue := 0 }, { name := "LOG2_ARRAY_CHAR_INDEX_SCALE", type := .int, accessFlags := 25, slot := 4, constantValue := 0 }, { name := "LOG2_ARRAY_SHORT_INDEX_SCALE", type := .int, accessFlags := 25, slot := 5, constantValue := 0 }, { name := "LOG2_ARRAY_INT_INDEX_SCALE", type := .int, accessFlags := 25, slot := 6, constantValue := 0 }, { name := "LOG2_ARRAY_LONG_INDEX_SCALE", type := .int, accessFlags := 25, slot := 7, constantValue := 0 }, { name := "LOG2_ARRAY_FLOAT_INDEX_SCALE", type := .int, accessFlags := 25, slot := 8, constantValue := 0 }, { name := "LOG2_ARRAY_DOUBLE_INDEX_SCALE", type := .int, accessFlags := 25, slot := 9, constantValue := 0 }, { name := "LOG2_BYTE_BIT_SIZE", type := .int, accessFlags := 26, slot := 10, constantValue := 0 }, { name := "T_BOOLEAN", type := .int, accessFlags := 25, slot := 11, constantValue := 0 }, { name := "T_CHAR", type := .int, accessFlags := 25, slot := 12, constantValue := 0 }, { name := "T_FLOAT", type := .int, accessFlags := 25, slot := 13, constantValue := 0 }, { name := "T_DOUBLE", type := .int, accessFlags := 25, slot := 14, constantValue := 0 }, { name := "T_BYTE", type := .int, accessFlags := 25, slot := 15, constantValue := 0 }, { name := "T_SHORT", type := .int, accessFlags := 25, slot := 16, constantValue := 0 }, { name := "T_INT", type := .int, accessFlags := 25, slot := 17, constantValue := 0 }, { name := "T_LONG", type := .int, accessFlags := 25, slot := 18, constantValue := 0 }, { name := "JLA", type := (.object "jdk/internal/access/JavaLangAccess"), accessFlags := 26, slot := 19, constantValue := 0 }, { name := "SOFT_MAX_ARRAY_LENGTH", type := .int, accessFlags := 25, slot := 20, constantValue := 0 }]
  methods := #[k16m0]
  instanceTypes := #[]
  staticTypes := #[(.object "jdk/internal/misc/Unsafe"), .boolean, .int, .int, .int, .int, .int, .int, .int, .int, .int, .int, .int, .int, .int, .int, .int, .int, .int, (.object "jdk/internal/access/JavaLangAccess"), .int]
  resolved := Array.replicate 378 none
  statics := none }

def pool17 : Array CpInfo := pool [(1, u "java/lang/Cloneable"), (0, .class_ 1), (0, u "java/lang/Object"), (0, .class_ 3)] 3

/-- java/lang/Cloneable -/
def k17 : Class := { plain "java/lang/Cloneable" (some 0) with
  accessFlags := 1537
  interfaces := #[]
  cf := some (fileOf pool17 2 #[] #[] 1537 4 #[] #[])
  fields := #[]
  methods := #[]
  instanceTypes := #[]
  staticTypes := #[]
  resolved := Array.replicate 8 none
  statics := none }

/-- the primitive byte -/
def k18 : Class := { plain "byte" none with kind := .primitive 'B', accessFlags := 0x411 }
/-- [B -/
def k19 : Class := { plain "[B" (some 0) with kind := .array 18 .byte, interfaces := #[17, 2], accessFlags := 1041 }

/-- the primitive char -/
def k20 : Class := { plain "char" none with kind := .primitive 'C', accessFlags := 0x411 }
/-- [C -/
def k21 : Class := { plain "[C" (some 0) with kind := .array 20 .char, interfaces := #[17, 2], accessFlags := 1041 }

/-- the primitive int -/
def k22 : Class := { plain "int" none with kind := .primitive 'I', accessFlags := 0x411 }
/-- [I -/
def k23 : Class := { plain "[I" (some 0) with kind := .array 22 .int, interfaces := #[17, 2], accessFlags := 1041 }

def heap : Heap := #[{ cls := 7, slots := #[.long 0, .int 1, .null, .int 0, .null, .int 0, .int 0], vm := .statics 7 },
  { cls := 13, slots := #[.ref 3, .ref 4, .ref 5, .ref 6, .null], vm := .statics 13 },
  { cls := 15, slots := #[.null, .null, .null], vm := .statics 15 },
  { cls := 13, slots := #[.null, .int 0, .int 0, .null, .null, .int 0, .int 0], vm := .none },
  { cls := 13, slots := #[.null, .int 1, .int 0, .null, .null, .int 0, .int 0], vm := .none },
  { cls := 13, slots := #[.null, .int 2, .int 0, .null, .null, .int 0, .int 0], vm := .none },
  { cls := 13, slots := #[.null, .int 3, .int 0, .null, .null, .int 0, .int 0], vm := .none }]
def classes : Array Class := #[k0, k1, k2, k3, k4, k5, k6, k7, k8, k9, k10, k11, k12, k13, k14, k15, k16, k17, k18, k19, k20, k21, k22, k23]
def interned : List (Array UInt16 × Addr) := []
def slotsUsed : Nat := 43
def theMethod : MethodId := ⟨1, 3⟩
def args0 : Array Value := #[.int 5, .int 9, .int 70, .int 80]
def aboutOver (below : List Frame) : State where
  vm := { classes := classes, interned := interned.toArray }
  heap := heap
  slotsUsed := slotsUsed
  threads := #[{ frames := .invoking theMethod args0 :: below }]
def below0 : List Frame := [.native { method := ⟨0, 0⟩, args := #[] }]
def about1 : State := aboutOver below0
def p0 : Program := .bare "" "" ""
def e0 : Env := launch0.env 0 0 0
theorem w_frames : about1.frames = Frame.invoking theMethod args0 :: below0 := rfl
set_option maxRecDepth 65536 in
theorem w_args : argsFit about1.vm theMethod args0 = true := by decide +kernel
set_option maxRecDepth 65536 in
theorem w_heap : heapFits about1 = true := by decide +kernel
set_option maxRecDepth 65536 in
theorem w_runnable : about1.curStatus? = some .runnable := by decide +kernel
set_option maxRecDepth 65536 in
theorem w_alone : about1.alone = true := by decide +kernel
set_option maxRecDepth 65536 in
theorem w_named : about1.methodNamed? x = some theMethod := by decide +kernel
set_option maxRecDepth 65536 in
theorem w_hears : about1.hears theMethod below0 = true := by decide +kernel
set_option maxRecDepth 65536 in
theorem w_ripe : about1.ripe theMethod args0 below0 = true := by decide +kernel
theorem w_running : about1.status = .running := rfl
set_option maxRecDepth 65536 in
theorem w_room : about1.hasRoom e0.platform room_1 = true :=
  launch0.hasRoom_least _ room_1 (by decide +kernel) (by decide +kernel) (by decide +kernel) (by decide +kernel) (by decide +kernel) (by decide +kernel)
theorem allAtoms_all (ts : List Jvm.Cond) (a : Array Jvm.Value) (st : Jvm.State) : (allAtoms ts).before a st = ts.all (fun c => c.before a st) := by
  induction ts with
  | nil => rfl
  | cons c t ih =>
    show (Jvm.Cond.and c (allAtoms t)).before a st = _
    rw [Jvm.Cond.before_and, ih, List.all_cons]
def words1 : List Jvm.Cond := Jvm.Cond.code x code maxLocals ret :: tables_1
/-- a 'code' word, met by the world's own term for the bytes: nothing is compared byte by byte -/
theorem code_word {y : MethodName} {bytes : ByteArray} {mx : Nat} {rt : Option FieldType} {a : Array Value} {s : State} {m : MethodId} {meth : Method} {c : Code} (h1 : s.methodNamed? y = some m) (h2 : s.vm.method? m = some meth) (h3 : meth.code = some c) (h4 : c.code = bytes)
    (h5 : (c.maxLocals == mx && c.exceptionTable.isEmpty && decide (c.maxStack ≤ mostOperands) && decide (meth.sig.returnType = rt) && !meth.locks && decide (parseMethodDescriptor y.desc = some meth.sig)) = true) : (Jvm.Cond.code y bytes mx rt).before a s = true := by
  simp only [Bool.and_eq_true, beq_iff_eq, Bool.not_eq_true', decide_eq_true_eq] at h5
  obtain ⟨⟨⟨⟨⟨g1, g2⟩, g3⟩, g4⟩, g5⟩, g6⟩ := h5
  simp [Cond.before, Cond.holds, Cond.value, h1, h2, h3, h4, g1, g2, g3, g4, g5, g6]
def isCode : Jvm.Cond → Bool
  | .code _ _ _ _ => true
  | _ => false
theorem all_split {L : List Jvm.Cond} {P : Jvm.Cond → Bool} (h1 : L.all (fun c => isCode c || P c) = true) (h2 : ∀ c ∈ L.filter isCode, P c = true) : L.all P = true := by
  refine List.all_eq_true.mpr fun c hc => ?_
  have h := List.all_eq_true.mp h1 c hc
  rcases Bool.eq_false_or_eq_true (isCode c) with hi | hi
  · exact h2 c (List.mem_filter.mpr ⟨hc, hi⟩)
  · simpa [hi] using h
set_option maxRecDepth 65536 in
theorem w_c0 : (Jvm.Cond.code x code maxLocals ret).before args0 about1 = true := code_word (m := ⟨1, 3⟩) (meth := k1m3) (c := k1c3) (by decide +kernel) rfl rfl rfl (by decide +kernel)
set_option maxRecDepth 65536 in
theorem w_c1 : (Jvm.Cond.code ({ cls := "java/lang/String", name := "<init>", desc := "([C)V" } : Jvm.MethodName) jdk_42_method_3_code (2 : Nat) (Option.none : Option Jvm.ClassFile.FieldType)).before args0 about1 = true := code_word (m := ⟨7, 1⟩) (meth := k7m1) (c := k7c1) (by decide +kernel) rfl rfl rfl (by decide +kernel)
set_option maxRecDepth 65536 in
theorem w_c2 : (Jvm.Cond.code ({ cls := "java/lang/String", name := "<init>", desc := "([CIILjava/lang/Void;)V" } : Jvm.MethodName) jdk_42_method_149_code (6 : Nat) (Option.none : Option Jvm.ClassFile.FieldType)).before args0 about1 = true := code_word (m := ⟨7, 2⟩) (meth := k7m2) (c := k7c2) (by decide +kernel) rfl rfl rfl (by decide +kernel)
set_option maxRecDepth 65536 in
theorem w_c3 : (Jvm.Cond.code ({ cls := "java/lang/Object", name := "<init>", desc := "()V" } : Jvm.MethodName) object_method_1_code (1 : Nat) (Option.none : Option Jvm.ClassFile.FieldType)).before args0 about1 = true := code_word (m := ⟨0, 0⟩) (meth := k0m0) (c := k0c0) (by decide +kernel) rfl rfl rfl (by decide +kernel)
set_option maxRecDepth 65536 in
theorem w_c4 : (Jvm.Cond.code ({ cls := "java/lang/StringUTF16", name := "compress", desc := "([CII)[B" } : Jvm.MethodName) jdk_52_method_16_code (6 : Nat) (Option.some (Jvm.ClassFile.FieldType.array Jvm.ClassFile.FieldType.byte))).before args0 about1 = true := code_word (m := ⟨8, 2⟩) (meth := k8m2) (c := k8c2) (by decide +kernel) rfl rfl rfl (by decide +kernel)
set_option maxRecDepth 65536 in
theorem w_c5 : (Jvm.Cond.code ({ cls := "java/lang/StringUTF16", name := "compress", desc := "([CI[BII)I" } : Jvm.MethodName) jdk_52_method_21_code (7 : Nat) (Option.some Jvm.ClassFile.FieldType.int)).before args0 about1 = true := code_word (m := ⟨8, 3⟩) (meth := k8m3) (c := k8c3) (by decide +kernel) rfl rfl rfl (by decide +kernel)
set_option maxRecDepth 65536 in
theorem w_c6 : (Jvm.Cond.code ({ cls := "java/lang/StringUTF16", name := "coderFromArrayLen", desc := "([BI)B" } : Jvm.MethodName) jdk_52_method_15_code (2 : Nat) (Option.some Jvm.ClassFile.FieldType.byte)).before args0 about1 = true := code_word (m := ⟨8, 1⟩) (meth := k8m1) (c := k8c1) (by decide +kernel) rfl rfl rfl (by decide +kernel)
set_option maxRecDepth 65536 in
theorem w_c7 : (Jvm.Cond.code ({ cls := "com/example/pergamena/pergamena/build/QuantityHasRangePinLaw", name := "end", desc := "(II)Ljava/lang/String;" } : Jvm.MethodName) method_3_code (3 : Nat) (Option.some (Jvm.ClassFile.FieldType.object "java/lang/String"))).before args0 about1 = true := code_word (m := ⟨1, 2⟩) (meth := k1m2) (c := k1c2) (by decide +kernel) rfl rfl rfl (by decide +kernel)
set_option maxRecDepth 65536 in
theorem w_c8 : (Jvm.Cond.code ({ cls := "com/example/pergamena/pergamena/build/QuantityHasRangePinLaw", name := "comparator", desc := "(I)Lcom/example/pergamena/pergamena/build/LabResults$Comparator;" } : Jvm.MethodName) method_2_code (1 : Nat) (Option.some (Jvm.ClassFile.FieldType.object "com/example/pergamena/pergamena/build/LabResults$Comparator"))).before args0 about1 = true := code_word (m := ⟨1, 1⟩) (meth := k1m1) (c := k1c1) (by decide +kernel) rfl rfl rfl (by decide +kernel)
set_option maxRecDepth 65536 in
theorem w_c9 : (Jvm.Cond.code ({ cls := "com/example/pergamena/pergamena/build/LabResults$Quantity", name := "<init>", desc := "(Lcom/example/pergamena/pergamena/build/LabResults$Comparator;Ljava/lang/String;Ljava/lang/String;Ljava/lang/String;Ljava/lang/String;)V" } : Jvm.MethodName) prog_18_method_1_code (6 : Nat) (Option.none : Option Jvm.ClassFile.FieldType)).before args0 about1 = true := code_word (m := ⟨11, 0⟩) (meth := k11m0) (c := k11c0) (by decide +kernel) rfl rfl rfl (by decide +kernel)
set_option maxRecDepth 65536 in
theorem w_c10 : (Jvm.Cond.code ({ cls := "java/lang/Record", name := "<init>", desc := "()V" } : Jvm.MethodName) jdk_30_method_1_code (1 : Nat) (Option.none : Option Jvm.ClassFile.FieldType)).before args0 about1 = true := code_word (m := ⟨9, 0⟩) (meth := k9m0) (c := k9c0) (by decide +kernel) rfl rfl rfl (by decide +kernel)
set_option maxRecDepth 65536 in
theorem w_c11 : (Jvm.Cond.code ({ cls := "com/example/pergamena/pergamena/build/LabResults$Quantity", name := "hasRange", desc := "()Z" } : Jvm.MethodName) prog_18_method_2_code (1 : Nat) (Option.some Jvm.ClassFile.FieldType.boolean)).before args0 about1 = true := code_word (m := ⟨11, 1⟩) (meth := k11m1) (c := k11c1) (by decide +kernel) rfl rfl rfl (by decide +kernel)
def codes1 : List Jvm.Cond := [Jvm.Cond.code x code maxLocals ret, Jvm.Cond.code ({ cls := "java/lang/String", name := "<init>", desc := "([C)V" } : Jvm.MethodName) jdk_42_method_3_code (2 : Nat) (Option.none : Option Jvm.ClassFile.FieldType), Jvm.Cond.code ({ cls := "java/lang/String", name := "<init>", desc := "([CIILjava/lang/Void;)V" } : Jvm.MethodName) jdk_42_method_149_code (6 : Nat) (Option.none : Option Jvm.ClassFile.FieldType), Jvm.Cond.code ({ cls := "java/lang/Object", name := "<init>", desc := "()V" } : Jvm.MethodName) object_method_1_code (1 : Nat) (Option.none : Option Jvm.ClassFile.FieldType), Jvm.Cond.code ({ cls := "java/lang/StringUTF16", name := "compress", desc := "([CII)[B" } : Jvm.MethodName) jdk_52_method_16_code (6 : Nat) (Option.some (Jvm.ClassFile.FieldType.array Jvm.ClassFile.FieldType.byte)), Jvm.Cond.code ({ cls := "java/lang/StringUTF16", name := "compress", desc := "([CI[BII)I" } : Jvm.MethodName) jdk_52_method_21_code (7 : Nat) (Option.some Jvm.ClassFile.FieldType.int), Jvm.Cond.code ({ cls := "java/lang/StringUTF16", name := "coderFromArrayLen", desc := "([BI)B" } : Jvm.MethodName) jdk_52_method_15_code (2 : Nat) (Option.some Jvm.ClassFile.FieldType.byte), Jvm.Cond.code ({ cls := "com/example/pergamena/pergamena/build/QuantityHasRangePinLaw", name := "end", desc := "(II)Ljava/lang/String;" } : Jvm.MethodName) method_3_code (3 : Nat) (Option.some (Jvm.ClassFile.FieldType.object "java/lang/String")), Jvm.Cond.code ({ cls := "com/example/pergamena/pergamena/build/QuantityHasRangePinLaw", name := "comparator", desc := "(I)Lcom/example/pergamena/pergamena/build/LabResults$Comparator;" } : Jvm.MethodName) method_2_code (1 : Nat) (Option.some (Jvm.ClassFile.FieldType.object "com/example/pergamena/pergamena/build/LabResults$Comparator")), Jvm.Cond.code ({ cls := "com/example/pergamena/pergamena/build/LabResults$Quantity", name := "<init>", desc := "(Lcom/example/pergamena/pergamena/build/LabResults$Comparator;Ljava/lang/String;Ljava/lang/String;Ljava/lang/String;Ljava/lang/String;)V" } : Jvm.MethodName) prog_18_method_1_code (6 : Nat) (Option.none : Option Jvm.ClassFile.FieldType), Jvm.Cond.code ({ cls := "java/lang/Record", name := "<init>", desc := "()V" } : Jvm.MethodName) jdk_30_method_1_code (1 : Nat) (Option.none : Option Jvm.ClassFile.FieldType), Jvm.Cond.code ({ cls := "com/example/pergamena/pergamena/build/LabResults$Quantity", name := "hasRange", desc := "()Z" } : Jvm.MethodName) prog_18_method_2_code (1 : Nat) (Option.some Jvm.ClassFile.FieldType.boolean)]
set_option maxRecDepth 65536 in
theorem codes_eq : words1.filter isCode = codes1 := rfl
theorem w_codes : ∀ c ∈ words1.filter isCode, c.before args0 about1 = true := by
  rw [codes_eq]
  intro c hc
  simp only [codes1, List.mem_cons, List.not_mem_nil, or_false] at hc
  rcases hc with rfl | rfl | rfl | rfl | rfl | rfl | rfl | rfl | rfl | rfl | rfl | rfl
  · exact w_c0
  · exact w_c1
  · exact w_c2
  · exact w_c3
  · exact w_c4
  · exact w_c5
  · exact w_c6
  · exact w_c7
  · exact w_c8
  · exact w_c9
  · exact w_c10
  · exact w_c11
set_option maxRecDepth 65536 in
theorem w_t1 : (words1.take 24).all (fun c => isCode c || c.before args0 about1) = true := by decide +kernel
set_option maxRecDepth 65536 in
theorem w_t2 : ((words1.drop 24).take 24).all (fun c => isCode c || c.before args0 about1) = true := by decide +kernel
set_option maxRecDepth 65536 in
theorem w_t3 : (((words1.drop 24).drop 24).take 24).all (fun c => isCode c || c.before args0 about1) = true := by decide +kernel
set_option maxRecDepth 65536 in
theorem w_t4 : (((words1.drop 24).drop 24).drop 24).all (fun c => isCode c || c.before args0 about1) = true := by decide +kernel
theorem w_tables : (allAtoms (Jvm.Cond.code x code maxLocals ret :: tables_1)).before args0 about1 = true := by
  rw [allAtoms_all]
  show words1.all (fun c => c.before args0 about1) = true
  refine all_split ?_ w_codes
  rw [← List.take_append_drop 24 words1, List.all_append, w_t1, ← List.take_append_drop 24 (words1.drop 24), List.all_append, w_t2, ← List.take_append_drop 24 ((words1.drop 24).drop 24), List.all_append, w_t3, w_t4]
  rfl
set_option maxRecDepth 65536 in
theorem w_rest : rest_1_c.before args0 about1 = true := by decide +kernel
set_option maxRecDepth 65536 in
theorem w_case : (Jvm.Cond.and given_1 narrow_1).before args0 about1 = true := by decide +kernel
theorem w_applies : (headSpec (Jvm.Cond.code x code maxLocals ret :: tables_1) room_1).applies x e0.platform about1 = true :=
  (Spec.applies_iff w_frames).mpr ⟨w_running, w_runnable, w_alone, w_named, w_hears, w_ripe, w_room, w_tables⟩
theorem atStart : AtStart classFile x code maxLocals ret World_1 tables_1 room_1 Calls_1 rest_1 Pre_1 launch0 p0 e0 about1 theMethod args0 below0 :=
  ⟨lists_1, trivial, launch0.admits_env _ _ _, launch0.least_env, fairChoices_fair.cas, fairChoices_fair.clock, w_frames, w_args, w_heap, w_applies, trivial, w_rest, w_case⟩
end start1
theorem witness_1 : WitnessClaimed_1 := ⟨start1.p0, start1.e0, start1.about1, start1.theMethod, start1.args0, start1.below0, start1.atStart⟩
end Jvm.Pilot.@@N@@
