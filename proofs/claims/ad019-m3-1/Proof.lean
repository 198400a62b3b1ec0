import JvmDerived
import JvmDerived.Pilot.@@N@@Statement
import JvmDerived.Pilot.@@N@@Code
set_option linter.unusedVariables false
set_option linter.unusedSimpArgs false
namespace Jvm.RoadKit
open Sem ClassFile Op Lib Jvm.Stand Jvm.Free Jvm.LawKit
section New
variable {p : Program} {l : Launch} {e : Env} {R : Room} {s : State} {m : MethodId} {args : Array Value} {below : List Frame} {meth : Method} {c : Code} {T : State} {locs : List Loc} {cells slots : Nat}
theorem retI (X : Stand p l e R s m args below meth c T locs cells slots) (hx : p.tables.exec = Jvm.exec) {pc : Nat} {Ls : Array Slot} {z : Int32} {rest : List Value} (hret : meth.sig.returnType = some .int) (hd : decode c.code pc = .ok (.ireturn, 1)) {fs : List Frame}
    (hl : ∀ (f : JFrame) (acts : List Action), f.method = m → f.locked = none → f.entered = [] → (doReturn e (T.setTop f) acts (some (.int z))).1 = T.setFrames fs) : Steps p.tables e below (T.setTop (mkF m pc Ls (.int z :: rest))) (T.setFrames fs) :=
  retOut X hx hret rfl (Or.inl ⟨rfl, Or.inl rfl, z, rfl⟩) hd hl
end New
end Jvm.RoadKit
namespace Jvm.Pilot.@@N@@
open Jvm Jvm.ClassFile Sem Op Lib Jvm.Free Jvm.Stand Jvm.LawKit Jvm.RoadKit Bundle Jvm.Pilot.@@N@@.Jvm.D
section Own
variable {Z : State} {h h' : Heap} {a : Addr} {C n d : String} {v : Value} {ws : List Addr}
theorem ow {a0 : Array Value} (hw : ∀ d ∈ tables_1, d.before a0 Z = true) {d : Jvm.Cond} (i : Nat) (h : tables_1[i]? = some d) : d.before a0 Z = true := hw _ (List.mem_of_getElem? h)
abbrev oS (p : Program) (e : Env) (below : List Frame) (T : State) (m : MethodId) (pc : Nat) (Ls : Array Slot) (st : List Value) (t : State) : Prop := Steps p.tables e below (T.setTop (mkF m pc Ls st)) t
theorem own_hide {p : Program} {l : Launch} {e : Env} {R : Room} {s : State} {m : MethodId} {args : Array Value} {below : List Frame} {meth : Method} {c : Code} {T : State} {locs : List Loc} {cells slots k : Nat} (X : Stand p l e R s m args below meth c T locs cells slots) (N : Fr k locs) : ∃ L, Stand p l e R s m args below meth c T L cells slots ∧ Fr k L := ⟨_, X, N⟩
abbrev oM (l : Launch) (y : MethodName) (code : ByteArray) (mx : Nat) (rt : Option FieldType) (ws : List Jvm.Cond) (R : Room) (A : Array Value) (Z : State) (h0 : Heap) (Q : Option Value → Heap → List Loc → Prop) : Prop :=
  MetFree l y (head1 (Jvm.Cond.code y code mx rt :: ws) R) (fun a U => a = A ∧ Z.Warmed39 U.vm ∧ U.heap = h0) (fun _ _ _ _ _ => True) (fun _ U o U' => ∃ v L, o = .returned v ∧ Q v U'.heap L ∧ FrameEnd U o U' L R.cells R.slots)
abbrev oMW (l : Launch) (y : MethodName) (code : ByteArray) (mx : Nat) (rt : Option FieldType) (ws : List Jvm.Cond) (R : Room) (A : Array Value) (Z : State) (h0 : Heap) (Q : Option Value → Heap → List Loc → Prop) : Prop :=
  MetFree l y (head1 (Jvm.Cond.code y code mx rt :: ws) R) (fun a U => a = A ∧ Z.Warmed39 U.vm ∧ U.heap = h0) (fun _ _ _ _ _ => True) (fun _ U o U' => ∃ v L, o = .returned v ∧ Q v U'.heap L ∧ ReturnedEndW U o U' L R.cells R.slots)
theorem own_refold {p : Program} {l : Launch} {e : Env} {R : Room} {s : State} {m : MethodId} {args : Array Value} {below : List Frame} {meth : Method} {c : Code} {T : State} {locs : List Loc} {cells slots : Nat} {vm1 vm2 : Vm} (X : Stand p l e R ((s.setVm vm1).setVm vm2) m args below meth c T locs cells slots) : Stand p l e R (s.setVm vm2) m args below meth c T locs cells slots := X
def own_Plain (h : Heap) (a : Addr) : Prop := ∀ cell : Cell, h[a]? = some cell → cell.vm.isStatics = false
theorem own_plain_E (F : Exa Z h a C) : own_Plain h a := fun cell hc => by
  obtain ⟨c1, _, h1, -, -, h4, -⟩ := F
  cases hc.symm.trans h1; exact h4
theorem own_plain_F (F : Fld Z h a C n d v) : own_Plain h a := fun cell hc => by
  obtain ⟨c1, _, _, _, _, h1, -, -, -, h4, -⟩ := F
  cases hc.symm.trans h1; exact h4
theorem own_plain_V {k : ClassId} {ty : FieldType} {z : Int32} {vs : List Value} {dv : Value} (F : Arv Z h a k ty z vs dv) : own_Plain h a := fun cell hc => by
  obtain ⟨c1, A, -⟩ := F
  cases hc.symm.trans A.1; exact A.plain
theorem own_sta_keep (F : Sta Z h C n d v) (K : Keep h h' ws) (q : ∀ x ∈ ws, own_Plain h x) : Sta Z h' C n d v := by
  obtain ⟨cf, i, k, f, st, cell, h1, h2, h3, h4, h5, h6, h7⟩ := F
  exact ⟨cf, i, k, f, st, cell, h1, h2, h3, h4, K.2.1 _ _ h5 (fun hm => by rw [q _ hm _ h5] at h6; cases h6), h6, h7⟩
theorem own_ne_EV {a0 : Array Value} {j : Nat} {b : Addr} {k : ClassId} {ty : FieldType} {z : Int32} {vs : List Value} {dv : Value} (F : Exa Z h a C) (wi : (Jvm.Cond.instantiable C j).before a0 Z = true) (G : Arv Z h b k ty z vs dv) : a ≠ b := by
  obtain ⟨c, A, -⟩ := G
  exact ne_arr F wi A
theorem own_mvM {s : State} {a0 args : Array Value} {own host : String} {y : MethodName} {index : Nat} (hZ : Z.Warmed39 s.vm) (w : (Jvm.Cond.methodLinkNest own index y host).before a0 Z = true) : (Jvm.Cond.methodLinkNest own index y host).before args s = true := (Cond.methodLinkNest_wide hZ w :)
theorem own_arr_keep {c : Cell} {ty : FieldType} (F : Arr Z h a c ty) (K : Keep h h' ws) (q : a ∉ ws) : Arr Z h' a c ty := ⟨K.2.1 _ _ F.1 q, F.2⟩
theorem own_ins_keep {b : Bool} (F : Ins Z h a C b) (K : Keep h h' ws) : Ins Z h' a C b := by
  obtain ⟨cell, cT, h1, h2, h3⟩ := F
  obtain ⟨c', e1, e2, e3, -⟩ := K.2.2 _ _ h1
  exact ⟨c', cT, e1, h2, by rw [e2, e3]; exact h3⟩
end Own
abbrev yN0 : MethodName := ⟨"java/lang/Number", "<init>", "()V"⟩
abbrev yN1 : MethodName := ⟨"java/lang/Integer", "<init>", "(I)V"⟩
abbrev yN2 : MethodName := ⟨"java/lang/Integer", "valueOf", "(I)Ljava/lang/Integer;"⟩
abbrev yN3 : MethodName := ⟨"java/lang/Integer", "intValue", "()I"⟩
abbrev yN4 : MethodName := ⟨"java/lang/Integer", "longValue", "()J"⟩
abbrev yN5 : MethodName := ⟨"java/util/Objects", "requireNonNull", "(Ljava/lang/Object;)Ljava/lang/Object;"⟩
abbrev yN6 : MethodName := ⟨"java/util/AbstractCollection", "<init>", "()V"⟩
abbrev yN7 : MethodName := ⟨"java/util/ImmutableCollections$AbstractImmutableCollection", "<init>", "()V"⟩
abbrev yN8 : MethodName := ⟨"java/util/ImmutableCollections$AbstractImmutableList", "<init>", "()V"⟩
abbrev yN9 : MethodName := ⟨"java/util/ImmutableCollections$ListN", "<init>", "([Ljava/lang/Object;Z)V"⟩
abbrev yN10 : MethodName := ⟨"java/util/ImmutableCollections$List12", "<init>", "(Ljava/lang/Object;)V"⟩
abbrev yN11 : MethodName := ⟨"java/util/ImmutableCollections$List12", "<init>", "(Ljava/lang/Object;Ljava/lang/Object;)V"⟩
abbrev yN12 : MethodName := ⟨"java/util/Arrays", "fill", "([Ljava/lang/Object;Ljava/lang/Object;)V"⟩
abbrev yN13 : MethodName := ⟨"java/util/List", "of", "([Ljava/lang/Object;)Ljava/util/List;"⟩
abbrev yN14 : MethodName := ⟨"com/example/watchful_junction/watchfuljunction/scenario/ProportionalSpec", "equalShares", "(II)Ljava/util/List;"⟩
abbrev yN15 : MethodName := ⟨"java/util/ImmutableCollections", "listFromArray", "([Ljava/lang/Object;)Ljava/util/List;"⟩
abbrev yN16 : MethodName := ⟨"java/util/ImmutableCollections$ListN", "size", "()I"⟩
abbrev yN17 : MethodName := ⟨"java/util/ImmutableCollections$List12", "size", "()I"⟩
abbrev yN18 : MethodName := ⟨"java/util/ImmutableCollections$ListN", "get", "(I)Ljava/lang/Object;"⟩
abbrev yN19 : MethodName := ⟨"java/util/ImmutableCollections$List12", "get", "(I)Ljava/lang/Object;"⟩
abbrev yN20 : MethodName := ⟨"com/example/watchful_junction/watchfuljunction/scenario/ProportionalSpecEqualSharesPinLaw", "at", "(Ljava/util/List;II)J"⟩
abbrev yN21 : MethodName := ⟨"java/util/List", "get", "(I)Ljava/lang/Object;"⟩
abbrev yN22 : MethodName := ⟨"com/example/watchful_junction/watchfuljunction/scenario/ProportionalSpecEqualSharesPinLaw", "later", "(Ljava/util/List;III)Z"⟩
abbrev yN23 : MethodName := ⟨"java/util/List", "size", "()I"⟩
theorem own_mod (x y : Int32) (k : Int) (hy : y.toInt = k) (hk : 0 < k) : 0 ≤ ((x &&& (2147483647 : Int32)) % y).toInt ∧ ((x &&& (2147483647 : Int32)) % y).toInt < k := by
  have h1 := c_mask x (2147483647 : Int32) 31 (by decide) (by decide)
  have h2 : 0 ≤ (x &&& (2147483647 : Int32)).toInt := by rw [h1]; omega
  have h3 := (c_irem (x &&& (2147483647 : Int32)) y k hy).1 h2
  rw [h3]
  exact ⟨Int.emod_nonneg _ (by omega), Int.emod_lt_of_pos _ hk⟩
theorem own_mask (x m : Int32) (k : Nat) (hk : k ≤ 31) (hm : m.toBitVec.toNat = 2 ^ k - 1) : 0 ≤ (x &&& m).toInt ∧ (x &&& m).toInt < (2 ^ k : Nat) := by
  rw [c_mask x m k hk hm]
  exact ⟨Int.emod_nonneg _ (by have := Nat.two_pow_pos k; omega), Int.emod_lt_of_pos _ (by have := Nat.two_pow_pos k; omega)⟩
theorem own_cache {s : State} {args : Array Value} {C n d : String} (h4 : (Jvm.Cond.arrayOf (.static C n d) (.object "java/lang/Integer")).before args s = true) (h6 : (Jvm.Cond.eq (.length (.static C n d)) (.int 256)).before args s = true)
    (h7 : (Jvm.Cond.all (.static C n d) (.and (.exactly (.elem (.static C n d) (.index 0)) "java/lang/Integer") (.eq (.field (.elem (.static C n d) (.index 0)) "java/lang/Integer" "value" "I") (.sub (.index 0) (.int 128))))).before args s = true) :
    ∃ a c, (Term.static C n d).eval args s none [] s = some (.ref a) ∧ Bxs s a c "java/lang/Integer" "I" (256 : Int32) (fun j => .int (j - 128)) := by
  obtain ⟨a, ev⟩ := arr_v (Cond.before_iff.mp h4)
  obtain ⟨c, A⟩ := Arr.start ev (Cond.before_iff.mp h4)
  have hl := Cond.eq_int h6 rfl
  obtain ⟨b, cell, e1, e2, e4⟩ := Term.length_spec hl
  have e3 := SBG.length_lt e1 e2 hl
  cases ev.symm.trans e1
  cases (A.fin (Vm.Alike.refl _)).symm.trans e2
  refine ⟨a, c, ev, Bxs.start (F := .sub (.index 0) (.int 128)) (fun idx => by simpa [Term.eval] using ev) A e3 (Value.int.inj e4).symm (by decide) (Cond.before_iff.mp h7) fun X j nn h => eqv_i ?_ h⟩
  simp [Term.eval, (back32 nn).1]
theorem own_cache_at {x : Int32} {c : Cell} (hs : c.slots.size = (256 : Int32).toNatClampNeg) (h1 : ¬ x < (-128 : Int32)) (h2 : ¬ (127 : Int32) < x) : ¬ (x + (128 : Int32) < 0 ∨ c.slots.size ≤ (x + (128 : Int32)).toNatClampNeg) := by
  rw [hs]
  have e : (x + (128 : Int32)).toInt = x.toInt + 128 := by
    have := c_iadd x (128 : Int32)
    have r := rng32 (x + (128 : Int32))
    rw [Int32.lt_iff_toInt_lt] at h1 h2
    have a1 : ((-128 : Int32)).toInt = -128 := by decide
    have a2 : ((127 : Int32)).toInt = 127 := by decide
    have a3 : ((128 : Int32)).toInt = 128 := by decide
    omega
  rw [Int32.lt_iff_toInt_lt] at h1 h2 ⊢
  have a1 : ((-128 : Int32)).toInt = -128 := by decide
  have a2 : ((127 : Int32)).toInt = 127 := by decide
  have a3 : ((0 : Int32)).toInt = 0 := by decide
  have a4 : ((256 : Int32)).toNatClampNeg = 256 := by decide
  have a5 : (x + (128 : Int32)).toNatClampNeg = (x + (128 : Int32)).toInt.toNat := rfl
  omega
theorem own_in8 {y : Int32} (h0 : 0 ≤ y.toInt) (h1 : y.toInt < 8) : y = (0 : Int32) ∨ y = (1 : Int32) ∨ y = (2 : Int32) ∨ y = (3 : Int32) ∨ y = (4 : Int32) ∨ y = (5 : Int32) ∨ y = (6 : Int32) ∨ y = (7 : Int32) := by
  have h : y.toInt = 0 ∨ y.toInt = 1 ∨ y.toInt = 2 ∨ y.toInt = 3 ∨ y.toInt = 4 ∨ y.toInt = 5 ∨ y.toInt = 6 ∨ y.toInt = 7 := by omega
  rcases h with h | h | h | h | h | h | h | h
  · exact Or.inl (Int32.toInt_inj.mp (h.trans (by decide)))
  · exact Or.inr (Or.inl (Int32.toInt_inj.mp (h.trans (by decide))))
  · exact Or.inr (Or.inr (Or.inl (Int32.toInt_inj.mp (h.trans (by decide)))))
  · exact Or.inr (Or.inr (Or.inr (Or.inl (Int32.toInt_inj.mp (h.trans (by decide))))))
  · exact Or.inr (Or.inr (Or.inr (Or.inr (Or.inl (Int32.toInt_inj.mp (h.trans (by decide)))))))
  · exact Or.inr (Or.inr (Or.inr (Or.inr (Or.inr (Or.inl (Int32.toInt_inj.mp (h.trans (by decide))))))))
  · exact Or.inr (Or.inr (Or.inr (Or.inr (Or.inr (Or.inr (Or.inl (Int32.toInt_inj.mp (h.trans (by decide)))))))))
  · exact Or.inr (Or.inr (Or.inr (Or.inr (Or.inr (Or.inr (Or.inr (Int32.toInt_inj.mp (h.trans (by decide)))))))))
theorem d22_0 : decode jdk_18_method_1_code 0 = .ok (.aload_n 0, 1) := by decide +kernel
theorem d22_1 : decode jdk_18_method_1_code 1 = .ok (.invokespecial 1, 3) := by decide +kernel
theorem d22_4 : decode jdk_18_method_1_code 4 = .ok (.return_, 1) := by decide +kernel
theorem pn_0 : plainName "java/lang/Number" = true := by first | (simp [plainName, overriddenIn]; done) | decide +kernel
theorem ef_numI (m : MethodId) (pR1 : Addr) : entryFrame m #[(.ref pR1)] 1 = mkF m 0 #[.val (.ref pR1)] [] := by first | (simp [entryFrame, mkF, argsToLocals, Value.category]; done) | rfl
def QnumI (Z : State) (pR1 : Addr) (h0 : Heap) (n0 : Nat) (v : Option Value) (h : Heap) (L : List Loc) : Prop := v = none ∧ Fr n0 L ∧ h = h0
set_option maxRecDepth 65536 in
set_option maxHeartbeats 40000000 in
theorem numI (l : Launch) (Z : State) (a0 : Array Value) (hw : ∀ d ∈ tables_1, d.before a0 Z = true) (ws : List Jvm.Cond) (pR1 : Addr) (h0 : Heap) (n0 : Nat) (Z0 : n0 ≤ h0.size) :
    oM l yN0 jdk_18_method_1_code 1 none ws ({ frames := 1, cells := 0, slots := 0, locals := 12 } : Room) #[(.ref pR1)] Z h0 (QnumI Z pR1 h0 n0) := by
  refine MetFree.of_bodySF (plainFor_of_name pn_0) hisR ?_
  intro p e s m args below meth c s₁ Bd hml0 hP hK
  obtain ⟨rfl, hZ, hh⟩ := hP
  have hx := Bd.exec
  have hby := Bd.bytes
  have hml : c.maxLocals = 1 := hml0
  have hown : s.vm.findClass "java/lang/Number" = some m.cls := findClass_of_methodNamed Bd.named
  have hnm := (name_of_methodNamed Bd.named Bd.method).1
  have X0 : Stand p l e ({ frames := 1, cells := 0, slots := 0, locals := 12 } : Room) s m #[(.ref pR1)] below meth c s₁ [] 0 0 := Stand.of_body Bd
  have e0 : s₁.heap = h0 := by rw [← hh, Bd.state]; rfl
  have N0 := Fr.nil n0
  obtain ⟨T2, X2, e2, st2⟩ := initO X0 hx hZ hown (ow hw 142 rfl) (ow hw 67 rfl) (ow hw 68 rfl) e0 (g := (mkF m 1 #[.val (.ref pR1)] [(.ref pR1)])) rfl (by rw [hml]; rfl) rfl (hb hby d22_1) (by decide) (W := 0) (Nat.le_refl _) (by decide)
  obtain ⟨fs, hr, hrun, hended, hW, hsame⟩ := X2.leave (v := none) (fun _ => rfl)
  refine ⟨_, _, castTop (ef_numI m pR1) ?_, hrun, hended, _, _, rfl, ?_, ⟨_, rfl⟩, hW, hsame.mono (by decide) (by decide)⟩
  · show oS p e below s₁ m 0 #[.val (.ref pR1)] [] _
    refine XS.aloadN X0.here hx rfl (hb hby d22_0) rfl rfl ?_
    refine st2 _ ?_
    exact X2.returnOut hx Bd.returns (hb hby d22_4) hr
  · show QnumI Z pR1 h0 n0 _ T2.heap _
    rw [e2]
    exact ⟨rfl, N0, rfl⟩
theorem d21_0 : decode jdk_33_method_23_code 0 = .ok (.aload_n 0, 1) := by decide +kernel
theorem d21_1 : decode jdk_33_method_23_code 1 = .ok (.invokespecial 202, 3) := by decide +kernel
theorem pd_0 : parseMethodDescriptor "()V" = some ⟨[], none⟩ := by decide +kernel
theorem d21_4 : decode jdk_33_method_23_code 4 = .ok (.aload_n 0, 1) := by decide +kernel
theorem d21_5 : decode jdk_33_method_23_code 5 = .ok (.iload_n 1, 1) := by decide +kernel
theorem d21_6 : decode jdk_33_method_23_code 6 = .ok (.putfield 205, 3) := by decide +kernel
theorem d21_9 : decode jdk_33_method_23_code 9 = .ok (.return_, 1) := by decide +kernel
theorem pn_1 : plainName "java/lang/Integer" = true := by first | (simp [plainName, overriddenIn]; done) | decide +kernel
theorem ef_intI (m : MethodId) (pR1 : Addr) (pI2 : Int32) : entryFrame m #[(.ref pR1), (.int pI2)] 2 = mkF m 0 #[.val (.ref pR1), .val (.int pI2)] [] := by first | (simp [entryFrame, mkF, argsToLocals, Value.category]; done) | rfl
def QintI (Z : State) (pR1 : Addr) (pI2 : Int32) (h0 : Heap) (n0 : Nat) (v : Option Value) (h : Heap) (L : List Loc) : Prop := v = none ∧ Fr n0 L ∧ Keep h0 h [pR1] ∧ Exa Z h pR1 "java/lang/Integer" ∧ Fld Z h pR1 "java/lang/Integer" "value" "I" (.int pI2)
set_option maxRecDepth 65536 in
set_option maxHeartbeats 40000000 in
theorem intI (l : Launch) (Z : State) (a0 : Array Value) (hw : ∀ d ∈ tables_1, d.before a0 Z = true) (ws : List Jvm.Cond) (pR1 : Addr) (pI2 : Int32) (h0 : Heap) (n0 : Nat) (Z0 : n0 ≤ h0.size) (E_pR1 : Exa Z h0 pR1 "java/lang/Integer") (F_value_pR1 : Fld Z h0 pR1 "java/lang/Integer" "value" "I" (.int 0)) (g_pR1 : n0 ≤ pR1) :
    oM l yN1 jdk_33_method_23_code 2 none ws ({ frames := 2, cells := 0, slots := 0, locals := 24 } : Room) #[(.ref pR1), (.int pI2)] Z h0 (QintI Z pR1 pI2 h0 n0) := by
  refine MetFree.of_bodySF (plainFor_of_name pn_1) hisR ?_
  intro p e s m args below meth c s₁ Bd hml0 hP hK
  obtain ⟨rfl, hZ, hh⟩ := hP
  have hx := Bd.exec
  have hby := Bd.bytes
  have hml : c.maxLocals = 2 := hml0
  have hown : s.vm.findClass "java/lang/Integer" = some m.cls := findClass_of_methodNamed Bd.named
  have hnm := (name_of_methodNamed Bd.named Bd.method).1
  have X0 : Stand p l e ({ frames := 2, cells := 0, slots := 0, locals := 24 } : Room) s m #[(.ref pR1), (.int pI2)] below meth c s₁ [] 0 0 := Stand.of_body Bd
  have e0 : s₁.heap = h0 := by rw [← hh, Bd.state]; rfl
  have N0 := Fr.nil n0
  obtain ⟨_, _, ⟨T3, L3, k3, n3⟩, -, X3, ⟨Lc3, hQ3, l3, y3, z3⟩, st3⟩ := X0.specialBack hx (y := yN0) rfl hown (mvT hZ (ow hw 136 rfl)) (mvT hZ (ow hw 137 rfl)) (mvT hZ (ow hw 141 rfl)) (by decide) (backOf (W := 0) (numI l Z a0 hw [] pR1 h0 n0 Z0 ) hZ (ow hw 141 rfl) (ow hw 140 rfl) (by decide) (by decide)) (g := (mkF m 1 #[.val (.ref pR1), .val (.int pI2)] [(.ref pR1)])) rfl (by rw [hml]; rfl) (Steps.refl _) (a := pR1) (argsL := []) (rest := []) (lenOf pd_0 rfl) rfl (Nat.le_refl _) (hb hby d21_1) (fun _ _ => ⟨rfl, e0, (by decide : 0 + 0 ≤ _), (by decide : 0 + 0 ≤ _)⟩)
  dsimp only [Pt.U, Pt.locs, Pt.cells, Pt.slots] at X3 l3 y3 z3 st3 hQ3
  subst l3 y3 z3
  obtain ⟨rfl, Nq3, e3⟩ := hQ3
  have N3 := Fr.app N0 Nq3
  obtain ⟨T4, h4, X4, e4, W4, st4⟩ := putF X3 hx hZ hown (host := "") (Or.inl (ow hw 24 rfl)) Via.refl e3 F_value_pR1 E_pR1 (Or.inr ⟨(ow hw 25 rfl), rfl, hnm⟩) (ow hw 132 rfl) (ty := .int) (by decide) rfl rfl (g := (mkF m 6 #[.val (.ref pR1), .val (.int pI2)] [(.int pI2), (.ref pR1)])) rfl rfl (hb hby d21_6)
  have K5 : Keep h0 h4 [pR1] := (Keep.refl h0 [pR1]).wr W4 (Or.inl (List.mem_of_getElem? (i := 0) rfl))
  have Z6 : n0 ≤ h4.size := (Nat.le_trans Z0 (Keep.of_wr W4).1)
  have N4 := Fr.snoc X4 N3 g_pR1
  obtain ⟨Lh4, X4, N4⟩ := own_hide X4 N4
  have F4 : Fld Z h4 pR1 "java/lang/Integer" "value" "I" (.int pI2) := Fld.same W4 F_value_pR1
  have c7 : Exa Z h4 pR1 "java/lang/Integer" := E_pR1.wr W4
  obtain ⟨fs, hr, hrun, hended, hW, hsame⟩ := X4.leave (v := none) (fun _ => rfl)
  refine ⟨_, _, castTop (ef_intI m pR1 pI2) ?_, hrun, hended, _, _, rfl, ?_, ⟨_, rfl⟩, hW, hsame.mono (by decide) (by decide)⟩
  · show oS p e below s₁ m 0 #[.val (.ref pR1), .val (.int pI2)] [] _
    refine XS.aloadN X0.here hx rfl (hb hby d21_0) rfl rfl ?_
    refine st3.trans ?_
    refine XS.aloadN X3.here hx rfl (hb hby d21_4) rfl rfl ?_
    refine XS.iloadN X3.here hx rfl (hb hby d21_5) rfl ?_
    refine st4 _ ?_
    exact X4.returnOut hx Bd.returns (hb hby d21_9) hr
  · show QintI Z pR1 pI2 h0 n0 _ T4.heap _
    rw [e4]
    exact ⟨rfl, N4, K5, c7, F4⟩
theorem d2_0 : decode jdk_33_method_22_code 0 = .ok (.iload_n 0, 1) := by decide +kernel
theorem d2_1 : decode jdk_33_method_22_code 1 = .ok (.bipush (-128), 2) := by decide +kernel
theorem d2_3 : decode jdk_33_method_22_code 3 = .ok (.if_icmp .lt 20, 3) := by decide +kernel
theorem d2_23 : decode jdk_33_method_22_code 23 = .ok (.new 1, 3) := by decide +kernel
theorem d2_26 : decode jdk_33_method_22_code 26 = .ok (.dup, 1) := by decide +kernel
theorem d2_27 : decode jdk_33_method_22_code 27 = .ok (.iload_n 0, 1) := by decide +kernel
theorem d2_28 : decode jdk_33_method_22_code 28 = .ok (.invokespecial 199, 3) := by decide +kernel
theorem pd_1 : parseMethodDescriptor "(I)V" = some ⟨[.int], none⟩ := by decide +kernel
theorem d2_31 : decode jdk_33_method_22_code 31 = .ok (.areturn, 1) := by decide +kernel
theorem ef_voL (m : MethodId) (pI1 : Int32) : entryFrame m #[(.int pI1)] 1 = mkF m 0 #[.val (.int pI1)] [] := by first | (simp [entryFrame, mkF, argsToLocals, Value.category]; done) | rfl
def Qvo (Z : State) (pI1 : Int32) (h0 : Heap) (n0 : Nat) (v : Option Value) (h : Heap) (L : List Loc) : Prop := ∃ b : Addr, v = some (.ref b) ∧ Fr n0 L ∧ Keep h0 h [] ∧ Exa Z h b "java/lang/Integer" ∧ Fld Z h b "java/lang/Integer" "value" "I" (.int pI1)
set_option maxRecDepth 65536 in
set_option maxHeartbeats 40000000 in
theorem voL (l : Launch) (Z : State) (a0 : Array Value) (hw : ∀ d ∈ tables_1, d.before a0 Z = true) (ws : List Jvm.Cond) (pI1 : Int32) (h0 : Heap) (n0 : Nat) (Z0 : n0 ≤ h0.size) (hc3 : pI1 < (-128 : Int32)) :
    oM l yN2 jdk_33_method_22_code 1 (some (.object "java/lang/Integer")) ws ({ frames := 3, cells := 1, slots := 1, locals := 40 } : Room) #[(.int pI1)] Z h0 (Qvo Z pI1 h0 n0) := by
  refine MetFree.of_bodySF (plainFor_of_name pn_1) hisR ?_
  intro p e s m args below meth c s₁ Bd hml0 hP hK
  obtain ⟨rfl, hZ, hh⟩ := hP
  have hx := Bd.exec
  have hby := Bd.bytes
  have hml : c.maxLocals = 1 := hml0
  have hown : s.vm.findClass "java/lang/Integer" = some m.cls := findClass_of_methodNamed Bd.named
  have hnm := (name_of_methodNamed Bd.named Bd.method).1
  have X0 : Stand p l e ({ frames := 3, cells := 1, slots := 1, locals := 40 } : Room) s m #[(.int pI1)] below meth c s₁ [] 0 0 := Stand.of_body Bd
  have e0 : s₁.heap = h0 := by rw [← hh, Bd.state]; rfl
  have N0 := Fr.nil n0
  obtain ⟨T2, h2, X2, e2, E2, A2, D2, U2, st2⟩ := newO X0 hx hZ hown (ow hw 131 rfl) (ow hw 132 rfl) (ow hw 9 rfl) e0 (g := (mkF m 23 #[.val (.int pI1)] [])) rfl (hb hby d2_23) (by decide) (by decide)
  obtain ⟨bR2, g2⟩ : ∃ z, z = h0.size := ⟨_, rfl⟩
  rw [← g2] at A2 D2 U2 st2
  have K3 : Keep h0 h2 [] := (Keep.refl h0 []).ext E2
  have Z4 : n0 ≤ h2.size := (Nat.le_trans Z0 E2.1)
  have F5 : Fld Z h2 bR2 "java/lang/Integer" "value" "I" (.int 0) := D2 (Or.inr (ow hw 25 rfl)) (ty := .int) (by decide)
  have g6 : n0 ≤ bR2 := Nat.le_trans Z0 (Nat.le_of_eq g2.symm)
  obtain ⟨_, _, ⟨T7, L7, k7, n7⟩, -, X7, ⟨Lc7, hQ7, l7, y7, z7⟩, st7⟩ := X2.specialBack hx (y := yN1) rfl hown (mvT hZ (ow hw 133 rfl)) (mvT hZ (ow hw 134 rfl)) (mvT hZ (ow hw 135 rfl)) (by decide) (backOf (W := 1) (intI l Z a0 hw [] bR2 pI1 h2 n0 Z4 A2 F5 g6) hZ (ow hw 135 rfl) (ow hw 9 rfl) (by decide) (by decide)) (g := (mkF m 28 #[.val (.int pI1)] [(.int pI1), (.ref bR2), (.ref bR2)])) rfl (by rw [hml]; rfl) (Steps.refl _) (a := bR2) (argsL := [(.int pI1)]) (rest := [(.ref bR2)]) (lenOf pd_1 rfl) rfl (Nat.le_refl _) (hb hby d2_28) (fun _ _ => ⟨rfl, e2, (by decide : 1 + 0 ≤ _), (by decide : 1 + 0 ≤ _)⟩)
  dsimp only [Pt.U, Pt.locs, Pt.cells, Pt.slots] at X7 l7 y7 z7 st7 hQ7
  subst l7 y7 z7
  obtain ⟨rfl, Nq7, Kq7, x7_0, x7_1⟩ := hQ7
  have N7 := Fr.app N0 Nq7
  obtain ⟨Lh7, X7, N7⟩ := own_hide X7 N7
  have K8 : Keep h0 T7.heap [] := K3.trans Kq7 (allS (Or.inr (Nat.le_of_eq g2.symm)) all0)
  have Z9 : n0 ≤ T7.heap.size := (Nat.le_trans Z4 Kq7.1)
  obtain ⟨fs, hr, hrun, hended, hW, hsame⟩ := X7.leave (v := some (.ref bR2)) (fun h => by rw [Bd.returns] at h; cases h)
  refine ⟨_, _, castTop (ef_voL m pI1) ?_, hrun, hended, _, _, rfl, ?_, ⟨_, rfl⟩, hW, hsame.mono (by decide) (by decide)⟩
  · show oS p e below s₁ m 0 #[.val (.int pI1)] [] _
    refine XS.iloadN X0.here hx rfl (hb hby d2_0) rfl ?_
    refine XS.bipush X0.here hx rfl (hb hby d2_1) ?_
    refine XS.icmpYes X0.here hx rfl (pc0 := 3) (pc' := 23) rfl (hb hby d2_3) rfl (tlt hc3).1 (by decide) (by decide) ?_
    refine st2 _ ?_
    refine XS.dup X2.here hx rfl (hb hby d2_26) rfl rfl ?_
    refine XS.iloadN X2.here hx rfl (hb hby d2_27) rfl ?_
    refine st7.trans ?_
    exact retOut X7 hx Bd.returns rfl (Or.inr (Or.inr (Or.inr (Or.inr ⟨rfl, rfl, rfl⟩)))) (hb hby d2_31) hr
  · show Qvo Z pI1 h0 n0 _ T7.heap _
    exact ⟨bR2, rfl, N7, K8, x7_0, x7_1⟩
theorem d2_6 : decode jdk_33_method_22_code 6 = .ok (.iload_n 0, 1) := by decide +kernel
theorem d2_7 : decode jdk_33_method_22_code 7 = .ok (.getstatic 191, 3) := by decide +kernel
theorem d2_10 : decode jdk_33_method_22_code 10 = .ok (.if_icmp .gt 13, 3) := by decide +kernel
theorem ef_voH (m : MethodId) (pI1 : Int32) : entryFrame m #[(.int pI1)] 1 = mkF m 0 #[.val (.int pI1)] [] := by first | (simp [entryFrame, mkF, argsToLocals, Value.category]; done) | rfl
set_option maxRecDepth 65536 in
set_option maxHeartbeats 40000000 in
theorem voH (l : Launch) (Z : State) (a0 : Array Value) (hw : ∀ d ∈ tables_1, d.before a0 Z = true) (ws : List Jvm.Cond) (pI1 : Int32) (h0 : Heap) (n0 : Nat) (Z0 : n0 ≤ h0.size) (S_Integer_IntegerCache_high : Sta Z h0 "java/lang/Integer$IntegerCache" "high" "I" (.int 127)) (hc3 : ¬ (pI1 < (-128 : Int32))) (hc10 : (127 : Int32) < pI1) :
    oM l yN2 jdk_33_method_22_code 1 (some (.object "java/lang/Integer")) ws ({ frames := 3, cells := 1, slots := 1, locals := 40 } : Room) #[(.int pI1)] Z h0 (Qvo Z pI1 h0 n0) := by
  refine MetFree.of_bodySF (plainFor_of_name pn_1) hisR ?_
  intro p e s m args below meth c s₁ Bd hml0 hP hK
  obtain ⟨rfl, hZ, hh⟩ := hP
  have hx := Bd.exec
  have hby := Bd.bytes
  have hml : c.maxLocals = 1 := hml0
  have hown : s.vm.findClass "java/lang/Integer" = some m.cls := findClass_of_methodNamed Bd.named
  have hnm := (name_of_methodNamed Bd.named Bd.method).1
  have X0 : Stand p l e ({ frames := 3, cells := 1, slots := 1, locals := 40 } : Room) s m #[(.int pI1)] below meth c s₁ [] 0 0 := Stand.of_body Bd
  have e0 : s₁.heap = h0 := by rw [← hh, Bd.state]; rfl
  have N0 := Fr.nil n0
  obtain ⟨T2, X2, e2, st2⟩ := getS2 X0 hx hZ hown (host := "") (Or.inl (ow hw 11 rfl)) Via.refl e0 S_Integer_IntegerCache_high (g := (mkF m 7 #[.val (.int pI1)] [(.int pI1)])) rfl (hb hby d2_7)
  obtain ⟨T3, h3, X3, e3, E3, A3, D3, U3, st3⟩ := newO X2 hx hZ hown (ow hw 131 rfl) (ow hw 132 rfl) (ow hw 9 rfl) e2 (g := (mkF m 23 #[.val (.int pI1)] [])) rfl (hb hby d2_23) (by decide) (by decide)
  obtain ⟨bR3, g3⟩ : ∃ z, z = h0.size := ⟨_, rfl⟩
  rw [← g3] at A3 D3 U3 st3
  have K4 : Keep h0 h3 [] := (Keep.refl h0 []).ext E3
  have Z5 : n0 ≤ h3.size := (Nat.le_trans Z0 E3.1)
  have F6 : Fld Z h3 bR3 "java/lang/Integer" "value" "I" (.int 0) := D3 (Or.inr (ow hw 25 rfl)) (ty := .int) (by decide)
  have g7 : n0 ≤ bR3 := Nat.le_trans Z0 (Nat.le_of_eq g3.symm)
  obtain ⟨_, _, ⟨T8, L8, k8, n8⟩, -, X8, ⟨Lc8, hQ8, l8, y8, z8⟩, st8⟩ := X3.specialBack hx (y := yN1) rfl hown (mvT hZ (ow hw 133 rfl)) (mvT hZ (ow hw 134 rfl)) (mvT hZ (ow hw 135 rfl)) (by decide) (backOf (W := 1) (intI l Z a0 hw [] bR3 pI1 h3 n0 Z5 A3 F6 g7) hZ (ow hw 135 rfl) (ow hw 9 rfl) (by decide) (by decide)) (g := (mkF m 28 #[.val (.int pI1)] [(.int pI1), (.ref bR3), (.ref bR3)])) rfl (by rw [hml]; rfl) (Steps.refl _) (a := bR3) (argsL := [(.int pI1)]) (rest := [(.ref bR3)]) (lenOf pd_1 rfl) rfl (Nat.le_refl _) (hb hby d2_28) (fun _ _ => ⟨rfl, e3, (by decide : 1 + 0 ≤ _), (by decide : 1 + 0 ≤ _)⟩)
  dsimp only [Pt.U, Pt.locs, Pt.cells, Pt.slots] at X8 l8 y8 z8 st8 hQ8
  subst l8 y8 z8
  obtain ⟨rfl, Nq8, Kq8, x8_0, x8_1⟩ := hQ8
  have N8 := Fr.app N0 Nq8
  obtain ⟨Lh8, X8, N8⟩ := own_hide X8 N8
  have K9 : Keep h0 T8.heap [] := K4.trans Kq8 (allS (Or.inr (Nat.le_of_eq g3.symm)) all0)
  have Z10 : n0 ≤ T8.heap.size := (Nat.le_trans Z5 Kq8.1)
  obtain ⟨fs, hr, hrun, hended, hW, hsame⟩ := X8.leave (v := some (.ref bR3)) (fun h => by rw [Bd.returns] at h; cases h)
  refine ⟨_, _, castTop (ef_voH m pI1) ?_, hrun, hended, _, _, rfl, ?_, ⟨_, rfl⟩, hW, hsame.mono (by decide) (by decide)⟩
  · show oS p e below s₁ m 0 #[.val (.int pI1)] [] _
    refine XS.iloadN X0.here hx rfl (hb hby d2_0) rfl ?_
    refine XS.bipush X0.here hx rfl (hb hby d2_1) ?_
    refine XS.icmpNo X0.here hx rfl (hb hby d2_3) rfl (flt hc3).1 ?_
    refine XS.iloadN X0.here hx rfl (hb hby d2_6) rfl ?_
    refine st2 _ ?_
    refine XS.icmpYes X2.here hx rfl (pc0 := 10) (pc' := 23) rfl (hb hby d2_10) rfl (tlt hc10).2.2.1 (by decide) (by decide) ?_
    refine st3 _ ?_
    refine XS.dup X3.here hx rfl (hb hby d2_26) rfl rfl ?_
    show oS p e below T3 m 27 #[.val (.int pI1)] [(.ref bR3), (.ref bR3)] _
    refine XS.iloadN X3.here hx rfl (hb hby d2_27) rfl ?_
    refine st8.trans ?_
    exact retOut X8 hx Bd.returns rfl (Or.inr (Or.inr (Or.inr (Or.inr ⟨rfl, rfl, rfl⟩)))) (hb hby d2_31) hr
  · show Qvo Z pI1 h0 n0 _ T8.heap _
    exact ⟨bR3, rfl, N8, K9, x8_0, x8_1⟩
theorem d2_13 : decode jdk_33_method_22_code 13 = .ok (.getstatic 195, 3) := by decide +kernel
theorem d2_16 : decode jdk_33_method_22_code 16 = .ok (.iload_n 0, 1) := by decide +kernel
theorem d2_17 : decode jdk_33_method_22_code 17 = .ok (.sipush 128, 3) := by decide +kernel
theorem d2_20 : decode jdk_33_method_22_code 20 = .ok (.iadd, 1) := by decide +kernel
theorem d2_21 : decode jdk_33_method_22_code 21 = .ok (.aaload, 1) := by decide +kernel
theorem d2_22 : decode jdk_33_method_22_code 22 = .ok (.areturn, 1) := by decide +kernel
theorem ef_voC (m : MethodId) (pI1 : Int32) : entryFrame m #[(.int pI1)] 1 = mkF m 0 #[.val (.int pI1)] [] := by first | (simp [entryFrame, mkF, argsToLocals, Value.category]; done) | rfl
set_option maxRecDepth 65536 in
set_option maxHeartbeats 40000000 in
theorem voC (l : Launch) (Z : State) (a0 : Array Value) (hw : ∀ d ∈ tables_1, d.before a0 Z = true) (ws : List Jvm.Cond) (pI1 : Int32) (pR3 : Addr) (pC5 : Cell) (pR903 : Addr) (h0 : Heap) (n0 : Nat) (Z0 : n0 ≤ h0.size) (S_Integer_IntegerCache_high : Sta Z h0 "java/lang/Integer$IntegerCache" "high" "I" (.int 127)) (S_Integer_IntegerCache_cache : Sta Z h0 "java/lang/Integer$IntegerCache" "cache" "[Ljava/lang/Integer;" (.ref pR3)) (Ar_pR3 : Arr Z h0 pR3 pC5 (.object "java/lang/Integer")) (hat_pC5_21 : pC5.slots[((pI1 + (128 : Int32))).toNatClampNeg]? = some (.ref pR903)) (hc3 : ¬ (pI1 < (-128 : Int32))) (hc10 : ¬ ((127 : Int32) < pI1)) (hc21 : ¬ ((pI1 + (128 : Int32)) < 0 ∨ pC5.slots.size ≤ ((pI1 + (128 : Int32))).toNatClampNeg)) (Ebox : Exa Z h0 pR903 "java/lang/Integer") (Fbox : Fld Z h0 pR903 "java/lang/Integer" "value" "I" (.int pI1)) :
    oM l yN2 jdk_33_method_22_code 1 (some (.object "java/lang/Integer")) ws ({ frames := 3, cells := 1, slots := 1, locals := 40 } : Room) #[(.int pI1)] Z h0 (Qvo Z pI1 h0 n0) := by
  refine MetFree.of_bodySF (plainFor_of_name pn_1) hisR ?_
  intro p e s m args below meth c s₁ Bd hml0 hP hK
  obtain ⟨rfl, hZ, hh⟩ := hP
  have hx := Bd.exec
  have hby := Bd.bytes
  have hml : c.maxLocals = 1 := hml0
  have hown : s.vm.findClass "java/lang/Integer" = some m.cls := findClass_of_methodNamed Bd.named
  have hnm := (name_of_methodNamed Bd.named Bd.method).1
  have X0 : Stand p l e ({ frames := 3, cells := 1, slots := 1, locals := 40 } : Room) s m #[(.int pI1)] below meth c s₁ [] 0 0 := Stand.of_body Bd
  have e0 : s₁.heap = h0 := by rw [← hh, Bd.state]; rfl
  have N0 := Fr.nil n0
  obtain ⟨T2, X2, e2, st2⟩ := getS2 X0 hx hZ hown (host := "") (Or.inl (ow hw 11 rfl)) Via.refl e0 S_Integer_IntegerCache_high (g := (mkF m 7 #[.val (.int pI1)] [(.int pI1)])) rfl (hb hby d2_7)
  obtain ⟨T4, X4, e4, st4⟩ := getS2 X2 hx hZ hown (host := "") (Or.inl (ow hw 13 rfl)) Via.refl e2 S_Integer_IntegerCache_cache (g := (mkF m 13 #[.val (.int pI1)] [])) rfl (hb hby d2_13)
  obtain ⟨fs, hr, hrun, hended, hW, hsame⟩ := X4.leave (v := some (.ref pR903)) (fun h => by rw [Bd.returns] at h; cases h)
  refine ⟨_, _, castTop (ef_voC m pI1) ?_, hrun, hended, _, _, rfl, ?_, ⟨_, rfl⟩, hW, hsame.mono (by decide) (by decide)⟩
  · show oS p e below s₁ m 0 #[.val (.int pI1)] [] _
    refine XS.iloadN X0.here hx rfl (hb hby d2_0) rfl ?_
    refine XS.bipush X0.here hx rfl (hb hby d2_1) ?_
    refine XS.icmpNo X0.here hx rfl (hb hby d2_3) rfl (flt hc3).1 ?_
    refine XS.iloadN X0.here hx rfl (hb hby d2_6) rfl ?_
    refine st2 _ ?_
    refine XS.icmpNo X2.here hx rfl (hb hby d2_10) rfl (flt hc10).2.2.1 ?_
    refine st4 _ ?_
    refine XS.iloadN X4.here hx rfl (hb hby d2_16) rfl ?_
    show oS p e below T4 m 17 #[.val (.int pI1)] [(.int pI1), (.ref pR3)] _
    refine XS.sipush X4.here hx rfl (hb hby d2_17) ?_
    refine XS.iadd X4.here hx rfl (hb hby d2_20) rfl ?_
    refine X4.aaload hx (j := (pI1 + (128 : Int32))) (v := (.ref pR903)) (by rw [e4]; exact Ar_pR3.1) (State.isArrayOf_alike hZ.alike Ar_pR3.2.1) rfl Ar_pR3.2.2 hc21 hat_pC5_21 (g := (mkF m 21 #[.val (.int pI1)] [(.int (pI1 + (128 : Int32))), (.ref pR3)])) rfl rfl (hb hby d2_21) _ ?_
    exact retOut X4 hx Bd.returns rfl (Or.inr (Or.inr (Or.inr (Or.inr ⟨rfl, rfl, rfl⟩)))) (hb hby d2_22) hr
  · show Qvo Z pI1 h0 n0 _ T4.heap _
    rw [e4]
    exact ⟨pR903, rfl, N0, Keep.refl h0 [], Ebox, Fbox⟩
theorem vo (l : Launch) (Z : State) (a0 : Array Value) (hw : ∀ d ∈ tables_1, d.before a0 Z = true) (ws : List Jvm.Cond) (pI1 : Int32) (pR3 : Addr) (pC5 : Cell) (h0 : Heap) (n0 : Nat) (Z0 : n0 ≤ h0.size) (S_Integer_IntegerCache_high : Sta Z h0 "java/lang/Integer$IntegerCache" "high" "I" (.int 127)) (S_Integer_IntegerCache_cache : Sta Z h0 "java/lang/Integer$IntegerCache" "cache" "[Ljava/lang/Integer;" (.ref pR3)) (B0 : Bxs Z pR3 pC5 "java/lang/Integer" "I" (256 : Int32) (fun j => .int (j - 128))) (D0 : Old Z n0 h0) :
    oM l yN2 jdk_33_method_22_code 1 (some (.object "java/lang/Integer")) ws ({ frames := 3, cells := 1, slots := 1, locals := 40 } : Room) #[(.int pI1)] Z h0 (Qvo Z pI1 h0 n0) := by
  by_cases h1 : pI1 < (-128 : Int32)
  · exact voL l Z a0 hw ws pI1 h0 n0 Z0  h1
  · by_cases h2 : (127 : Int32) < pI1
    · exact voH l Z a0 hw ws pI1 h0 n0 Z0 S_Integer_IntegerCache_high h1 h2
    · have hin := own_cache_at B0.2.1 h1 h2
      obtain ⟨b, hat, E, F⟩ := B0.2.2.2 _ hin
      have F2 : Fld Z h0 b "java/lang/Integer" "value" "I" (.int pI1) := by
        have q : Fld Z h0 b "java/lang/Integer" "value" "I" (.int (pI1 + (128 : Int32) - 128)) := F.ext D0.2
        have e : pI1 + (128 : Int32) - 128 = pI1 := by rw [Int32.add_sub_cancel]
        rw [e] at q
        exact q
      exact voC l Z a0 hw ws pI1 pR3 pC5 b h0 n0 Z0 S_Integer_IntegerCache_high S_Integer_IntegerCache_cache (B0.1.ext D0.2) hat h1 h2 hin (E.ext D0.2) F2
theorem d4_0 : decode jdk_33_method_27_code 0 = .ok (.aload_n 0, 1) := by decide +kernel
theorem d4_1 : decode jdk_33_method_27_code 1 = .ok (.getfield 205, 3) := by decide +kernel
theorem d4_4 : decode jdk_33_method_27_code 4 = .ok (.ireturn, 1) := by decide +kernel
theorem ef_intV (m : MethodId) (pR1 : Addr) : entryFrame m #[(.ref pR1)] 1 = mkF m 0 #[.val (.ref pR1)] [] := by first | (simp [entryFrame, mkF, argsToLocals, Value.category]; done) | rfl
def QintV (Z : State) (pR1 : Addr) (pI2 : Int32) (h0 : Heap) (n0 : Nat) (v : Option Value) (h : Heap) (L : List Loc) : Prop := v = some (.int pI2) ∧ Fr n0 L ∧ h = h0
set_option maxRecDepth 65536 in
set_option maxHeartbeats 40000000 in
theorem intV (l : Launch) (Z : State) (a0 : Array Value) (hw : ∀ d ∈ tables_1, d.before a0 Z = true) (ws : List Jvm.Cond) (pR1 : Addr) (pI2 : Int32) (h0 : Heap) (n0 : Nat) (Z0 : n0 ≤ h0.size) (F_value_pR1 : Fld Z h0 pR1 "java/lang/Integer" "value" "I" (.int pI2)) :
    oM l yN3 jdk_33_method_27_code 1 (some .int) ws ({ frames := 0, cells := 0, slots := 0, locals := 0 } : Room) #[(.ref pR1)] Z h0 (QintV Z pR1 pI2 h0 n0) := by
  refine MetFree.of_bodySF (plainFor_of_name pn_1) hisR ?_
  intro p e s m args below meth c s₁ Bd hml0 hP hK
  obtain ⟨rfl, hZ, hh⟩ := hP
  have hx := Bd.exec
  have hby := Bd.bytes
  have hml : c.maxLocals = 1 := hml0
  have hown : s.vm.findClass "java/lang/Integer" = some m.cls := findClass_of_methodNamed Bd.named
  have hnm := (name_of_methodNamed Bd.named Bd.method).1
  have X0 : Stand p l e ({ frames := 0, cells := 0, slots := 0, locals := 0 } : Room) s m #[(.ref pR1)] below meth c s₁ [] 0 0 := Stand.of_body Bd
  have e0 : s₁.heap = h0 := by rw [← hh, Bd.state]; rfl
  have N0 := Fr.nil n0
  obtain ⟨T3, X3, e3, st3⟩ := getF X0 hx hZ hown (host := "") (Or.inl (ow hw 24 rfl)) Via.refl e0 F_value_pR1 (g := (mkF m 1 #[.val (.ref pR1)] [(.ref pR1)])) rfl rfl (hb hby d4_1)
  obtain ⟨fs, hr, hrun, hended, hW, hsame⟩ := X3.leave (v := some (.int pI2)) (fun h => by rw [Bd.returns] at h; cases h)
  refine ⟨_, _, castTop (ef_intV m pR1) ?_, hrun, hended, _, _, rfl, ?_, ⟨_, rfl⟩, hW, hsame.mono (by decide) (by decide)⟩
  · show oS p e below s₁ m 0 #[.val (.ref pR1)] [] _
    refine XS.aloadN X0.here hx rfl (hb hby d4_0) rfl rfl ?_
    refine st3 _ ?_
    exact retI X3 hx Bd.returns (hb hby d4_4) hr
  · show QintV Z pR1 pI2 h0 n0 _ T3.heap _
    rw [e3]
    exact ⟨rfl, N0, rfl⟩
theorem d16_0 : decode jdk_33_method_28_code 0 = .ok (.aload_n 0, 1) := by decide +kernel
theorem d16_1 : decode jdk_33_method_28_code 1 = .ok (.getfield 205, 3) := by decide +kernel
theorem d16_4 : decode jdk_33_method_28_code 4 = .ok (.i2l, 1) := by decide +kernel
theorem d16_5 : decode jdk_33_method_28_code 5 = .ok (.lreturn, 1) := by decide +kernel
theorem ef_longV (m : MethodId) (pR1 : Addr) : entryFrame m #[(.ref pR1)] 1 = mkF m 0 #[.val (.ref pR1)] [] := by first | (simp [entryFrame, mkF, argsToLocals, Value.category]; done) | rfl
def QlongV (Z : State) (pR1 : Addr) (pI2 : Int32) (h0 : Heap) (n0 : Nat) (v : Option Value) (h : Heap) (L : List Loc) : Prop := v = some (.long (pI2.toInt64)) ∧ Fr n0 L ∧ h = h0
set_option maxRecDepth 65536 in
set_option maxHeartbeats 40000000 in
theorem longV (l : Launch) (Z : State) (a0 : Array Value) (hw : ∀ d ∈ tables_1, d.before a0 Z = true) (ws : List Jvm.Cond) (pR1 : Addr) (pI2 : Int32) (h0 : Heap) (n0 : Nat) (Z0 : n0 ≤ h0.size) (F_value_pR1 : Fld Z h0 pR1 "java/lang/Integer" "value" "I" (.int pI2)) :
    oM l yN4 jdk_33_method_28_code 1 (some .long) ws ({ frames := 0, cells := 0, slots := 0, locals := 0 } : Room) #[(.ref pR1)] Z h0 (QlongV Z pR1 pI2 h0 n0) := by
  refine MetFree.of_bodySF (plainFor_of_name pn_1) hisR ?_
  intro p e s m args below meth c s₁ Bd hml0 hP hK
  obtain ⟨rfl, hZ, hh⟩ := hP
  have hx := Bd.exec
  have hby := Bd.bytes
  have hml : c.maxLocals = 1 := hml0
  have hown : s.vm.findClass "java/lang/Integer" = some m.cls := findClass_of_methodNamed Bd.named
  have hnm := (name_of_methodNamed Bd.named Bd.method).1
  have X0 : Stand p l e ({ frames := 0, cells := 0, slots := 0, locals := 0 } : Room) s m #[(.ref pR1)] below meth c s₁ [] 0 0 := Stand.of_body Bd
  have e0 : s₁.heap = h0 := by rw [← hh, Bd.state]; rfl
  have N0 := Fr.nil n0
  obtain ⟨T3, X3, e3, st3⟩ := getF X0 hx hZ hown (host := "") (Or.inl (ow hw 24 rfl)) Via.refl e0 F_value_pR1 (g := (mkF m 1 #[.val (.ref pR1)] [(.ref pR1)])) rfl rfl (hb hby d16_1)
  obtain ⟨fs, hr, hrun, hended, hW, hsame⟩ := X3.leave (v := some (.long (pI2.toInt64))) (fun h => by rw [Bd.returns] at h; cases h)
  refine ⟨_, _, castTop (ef_longV m pR1) ?_, hrun, hended, _, _, rfl, ?_, ⟨_, rfl⟩, hW, hsame.mono (by decide) (by decide)⟩
  · show oS p e below s₁ m 0 #[.val (.ref pR1)] [] _
    refine XS.aloadN X0.here hx rfl (hb hby d16_0) rfl rfl ?_
    refine st3 _ ?_
    refine XS.i2l X3.here hx rfl (hb hby d16_4) rfl ?_
    exact retOut X3 hx Bd.returns rfl (Or.inr (Or.inl ⟨rfl, rfl, _, rfl⟩)) (hb hby d16_5) hr
  · show QlongV Z pR1 pI2 h0 n0 _ T3.heap _
    rw [e3]
    exact ⟨rfl, N0, rfl⟩
theorem d7_0 : decode jdk_31_method_10_code 0 = .ok (.aload_n 0, 1) := by decide +kernel
theorem d7_1 : decode jdk_31_method_10_code 1 = .ok (.ifnonnull 11, 3) := by decide +kernel
theorem d7_12 : decode jdk_31_method_10_code 12 = .ok (.aload_n 0, 1) := by decide +kernel
theorem d7_13 : decode jdk_31_method_10_code 13 = .ok (.areturn, 1) := by decide +kernel
theorem pn_2 : plainName "java/util/Objects" = true := by first | (simp [plainName, overriddenIn]; done) | decide +kernel
theorem ef_rnn (m : MethodId) (pR1 : Addr) : entryFrame m #[(.ref pR1)] 1 = mkF m 0 #[.val (.ref pR1)] [] := by first | (simp [entryFrame, mkF, argsToLocals, Value.category]; done) | rfl
def Qrnn (Z : State) (pR1 : Addr) (h0 : Heap) (n0 : Nat) (v : Option Value) (h : Heap) (L : List Loc) : Prop := v = some (.ref pR1) ∧ Fr n0 L ∧ h = h0
set_option maxRecDepth 65536 in
set_option maxHeartbeats 40000000 in
theorem rnn (l : Launch) (Z : State) (a0 : Array Value) (hw : ∀ d ∈ tables_1, d.before a0 Z = true) (ws : List Jvm.Cond) (pR1 : Addr) (h0 : Heap) (n0 : Nat) (Z0 : n0 ≤ h0.size) :
    oM l yN5 jdk_31_method_10_code 1 (some (.object "java/lang/Object")) ws ({ frames := 0, cells := 0, slots := 0, locals := 0 } : Room) #[(.ref pR1)] Z h0 (Qrnn Z pR1 h0 n0) := by
  refine MetFree.of_bodySF (plainFor_of_name pn_2) hisR ?_
  intro p e s m args below meth c s₁ Bd hml0 hP hK
  obtain ⟨rfl, hZ, hh⟩ := hP
  have hx := Bd.exec
  have hby := Bd.bytes
  have hml : c.maxLocals = 1 := hml0
  have hown : s.vm.findClass "java/util/Objects" = some m.cls := findClass_of_methodNamed Bd.named
  have hnm := (name_of_methodNamed Bd.named Bd.method).1
  have X0 : Stand p l e ({ frames := 0, cells := 0, slots := 0, locals := 0 } : Room) s m #[(.ref pR1)] below meth c s₁ [] 0 0 := Stand.of_body Bd
  have e0 : s₁.heap = h0 := by rw [← hh, Bd.state]; rfl
  have N0 := Fr.nil n0
  obtain ⟨fs, hr, hrun, hended, hW, hsame⟩ := X0.leave (v := some (.ref pR1)) (fun h => by rw [Bd.returns] at h; cases h)
  refine ⟨_, _, castTop (ef_rnn m pR1) ?_, hrun, hended, _, _, rfl, ?_, ⟨_, rfl⟩, hW, hsame.mono (by decide) (by decide)⟩
  · show oS p e below s₁ m 0 #[.val (.ref pR1)] [] _
    refine XS.aloadN X0.here hx rfl (hb hby d7_0) rfl rfl ?_
    refine XS.ifnonnullYes X0.here hx rfl (pc0 := 1) (pc' := 12) rfl (hb hby d7_1) rfl (by decide) (by decide) ?_
    refine XS.aloadN X0.here hx rfl (hb hby d7_12) rfl rfl ?_
    exact retOut X0 hx Bd.returns rfl (Or.inr (Or.inr (Or.inr (Or.inr ⟨rfl, rfl, rfl⟩)))) (hb hby d7_13) hr
  · show Qrnn Z pR1 h0 n0 _ s₁.heap _
    rw [e0]
    exact ⟨rfl, N0, rfl⟩
theorem d11_0 : decode jdk_22_method_1_code 0 = .ok (.aload_n 0, 1) := by decide +kernel
theorem d11_1 : decode jdk_22_method_1_code 1 = .ok (.invokespecial 1, 3) := by decide +kernel
theorem d11_4 : decode jdk_22_method_1_code 4 = .ok (.return_, 1) := by decide +kernel
theorem pn_3 : plainName "java/util/AbstractCollection" = true := by first | (simp [plainName, overriddenIn]; done) | decide +kernel
theorem ef_acI (m : MethodId) (pR1 : Addr) : entryFrame m #[(.ref pR1)] 1 = mkF m 0 #[.val (.ref pR1)] [] := by first | (simp [entryFrame, mkF, argsToLocals, Value.category]; done) | rfl
def QacI (Z : State) (pR1 : Addr) (h0 : Heap) (n0 : Nat) (v : Option Value) (h : Heap) (L : List Loc) : Prop := v = none ∧ Fr n0 L ∧ h = h0
set_option maxRecDepth 65536 in
set_option maxHeartbeats 40000000 in
theorem acI (l : Launch) (Z : State) (a0 : Array Value) (hw : ∀ d ∈ tables_1, d.before a0 Z = true) (ws : List Jvm.Cond) (pR1 : Addr) (h0 : Heap) (n0 : Nat) (Z0 : n0 ≤ h0.size) :
    oM l yN6 jdk_22_method_1_code 1 none ws ({ frames := 1, cells := 0, slots := 0, locals := 12 } : Room) #[(.ref pR1)] Z h0 (QacI Z pR1 h0 n0) := by
  refine MetFree.of_bodySF (plainFor_of_name pn_3) hisR ?_
  intro p e s m args below meth c s₁ Bd hml0 hP hK
  obtain ⟨rfl, hZ, hh⟩ := hP
  have hx := Bd.exec
  have hby := Bd.bytes
  have hml : c.maxLocals = 1 := hml0
  have hown : s.vm.findClass "java/util/AbstractCollection" = some m.cls := findClass_of_methodNamed Bd.named
  have hnm := (name_of_methodNamed Bd.named Bd.method).1
  have X0 : Stand p l e ({ frames := 1, cells := 0, slots := 0, locals := 12 } : Room) s m #[(.ref pR1)] below meth c s₁ [] 0 0 := Stand.of_body Bd
  have e0 : s₁.heap = h0 := by rw [← hh, Bd.state]; rfl
  have N0 := Fr.nil n0
  obtain ⟨T2, X2, e2, st2⟩ := initO X0 hx hZ hown (ow hw 66 rfl) (ow hw 67 rfl) (ow hw 68 rfl) e0 (g := (mkF m 1 #[.val (.ref pR1)] [(.ref pR1)])) rfl (by rw [hml]; rfl) rfl (hb hby d11_1) (by decide) (W := 0) (Nat.le_refl _) (by decide)
  obtain ⟨fs, hr, hrun, hended, hW, hsame⟩ := X2.leave (v := none) (fun _ => rfl)
  refine ⟨_, _, castTop (ef_acI m pR1) ?_, hrun, hended, _, _, rfl, ?_, ⟨_, rfl⟩, hW, hsame.mono (by decide) (by decide)⟩
  · show oS p e below s₁ m 0 #[.val (.ref pR1)] [] _
    refine XS.aloadN X0.here hx rfl (hb hby d11_0) rfl rfl ?_
    refine st2 _ ?_
    exact X2.returnOut hx Bd.returns (hb hby d11_4) hr
  · show QacI Z pR1 h0 n0 _ T2.heap _
    rw [e2]
    exact ⟨rfl, N0, rfl⟩
theorem d10_0 : decode jdk_47_method_1_code 0 = .ok (.aload_n 0, 1) := by decide +kernel
theorem d10_1 : decode jdk_47_method_1_code 1 = .ok (.invokespecial 1, 3) := by decide +kernel
theorem d10_4 : decode jdk_47_method_1_code 4 = .ok (.return_, 1) := by decide +kernel
theorem pn_4 : plainName "java/util/ImmutableCollections$AbstractImmutableCollection" = true := by first | (simp [plainName, overriddenIn]; done) | decide +kernel
theorem ef_aicI (m : MethodId) (pR1 : Addr) : entryFrame m #[(.ref pR1)] 1 = mkF m 0 #[.val (.ref pR1)] [] := by first | (simp [entryFrame, mkF, argsToLocals, Value.category]; done) | rfl
def QaicI (Z : State) (pR1 : Addr) (h0 : Heap) (n0 : Nat) (v : Option Value) (h : Heap) (L : List Loc) : Prop := v = none ∧ Fr n0 L ∧ h = h0
set_option maxRecDepth 65536 in
set_option maxHeartbeats 40000000 in
theorem aicI (l : Launch) (Z : State) (a0 : Array Value) (hw : ∀ d ∈ tables_1, d.before a0 Z = true) (ws : List Jvm.Cond) (pR1 : Addr) (h0 : Heap) (n0 : Nat) (Z0 : n0 ≤ h0.size) :
    oM l yN7 jdk_47_method_1_code 1 none ws ({ frames := 2, cells := 0, slots := 0, locals := 24 } : Room) #[(.ref pR1)] Z h0 (QaicI Z pR1 h0 n0) := by
  refine MetFree.of_bodySF (plainFor_of_name pn_4) hisR ?_
  intro p e s m args below meth c s₁ Bd hml0 hP hK
  obtain ⟨rfl, hZ, hh⟩ := hP
  have hx := Bd.exec
  have hby := Bd.bytes
  have hml : c.maxLocals = 1 := hml0
  have hown : s.vm.findClass "java/util/ImmutableCollections$AbstractImmutableCollection" = some m.cls := findClass_of_methodNamed Bd.named
  have hnm := (name_of_methodNamed Bd.named Bd.method).1
  have X0 : Stand p l e ({ frames := 2, cells := 0, slots := 0, locals := 24 } : Room) s m #[(.ref pR1)] below meth c s₁ [] 0 0 := Stand.of_body Bd
  have e0 : s₁.heap = h0 := by rw [← hh, Bd.state]; rfl
  have N0 := Fr.nil n0
  obtain ⟨_, _, ⟨T2, L2, k2, n2⟩, -, X2, ⟨Lc2, hQ2, l2, y2, z2⟩, st2⟩ := X0.specialBack hx (y := yN6) rfl hown (mvT hZ (ow hw 60 rfl)) (mvT hZ (ow hw 61 rfl)) (mvT hZ (ow hw 65 rfl)) (by decide) (backOf (W := 0) (acI l Z a0 hw [] pR1 h0 n0 Z0 ) hZ (ow hw 65 rfl) (ow hw 64 rfl) (by decide) (by decide)) (g := (mkF m 1 #[.val (.ref pR1)] [(.ref pR1)])) rfl (by rw [hml]; rfl) (Steps.refl _) (a := pR1) (argsL := []) (rest := []) (lenOf pd_0 rfl) rfl (Nat.le_refl _) (hb hby d10_1) (fun _ _ => ⟨rfl, e0, (by decide : 0 + 0 ≤ _), (by decide : 0 + 0 ≤ _)⟩)
  dsimp only [Pt.U, Pt.locs, Pt.cells, Pt.slots] at X2 l2 y2 z2 st2 hQ2
  subst l2 y2 z2
  obtain ⟨rfl, Nq2, e2⟩ := hQ2
  have N2 := Fr.app N0 Nq2
  obtain ⟨fs, hr, hrun, hended, hW, hsame⟩ := X2.leave (v := none) (fun _ => rfl)
  refine ⟨_, _, castTop (ef_aicI m pR1) ?_, hrun, hended, _, _, rfl, ?_, ⟨_, rfl⟩, hW, hsame.mono (by decide) (by decide)⟩
  · show oS p e below s₁ m 0 #[.val (.ref pR1)] [] _
    refine XS.aloadN X0.here hx rfl (hb hby d10_0) rfl rfl ?_
    refine st2.trans ?_
    exact X2.returnOut hx Bd.returns (hb hby d10_4) hr
  · show QaicI Z pR1 h0 n0 _ T2.heap _
    rw [e2]
    exact ⟨rfl, N2, rfl⟩
theorem d9_0 : decode jdk_46_method_1_code 0 = .ok (.aload_n 0, 1) := by decide +kernel
theorem d9_1 : decode jdk_46_method_1_code 1 = .ok (.invokespecial 1, 3) := by decide +kernel
theorem d9_4 : decode jdk_46_method_1_code 4 = .ok (.return_, 1) := by decide +kernel
theorem pn_5 : plainName "java/util/ImmutableCollections$AbstractImmutableList" = true := by first | (simp [plainName, overriddenIn]; done) | decide +kernel
theorem ef_ailI (m : MethodId) (pR1 : Addr) : entryFrame m #[(.ref pR1)] 1 = mkF m 0 #[.val (.ref pR1)] [] := by first | (simp [entryFrame, mkF, argsToLocals, Value.category]; done) | rfl
def QailI (Z : State) (pR1 : Addr) (h0 : Heap) (n0 : Nat) (v : Option Value) (h : Heap) (L : List Loc) : Prop := v = none ∧ Fr n0 L ∧ h = h0
set_option maxRecDepth 65536 in
set_option maxHeartbeats 40000000 in
theorem ailI (l : Launch) (Z : State) (a0 : Array Value) (hw : ∀ d ∈ tables_1, d.before a0 Z = true) (ws : List Jvm.Cond) (pR1 : Addr) (h0 : Heap) (n0 : Nat) (Z0 : n0 ≤ h0.size) :
    oM l yN8 jdk_46_method_1_code 1 none ws ({ frames := 3, cells := 0, slots := 0, locals := 36 } : Room) #[(.ref pR1)] Z h0 (QailI Z pR1 h0 n0) := by
  refine MetFree.of_bodySF (plainFor_of_name pn_5) hisR ?_
  intro p e s m args below meth c s₁ Bd hml0 hP hK
  obtain ⟨rfl, hZ, hh⟩ := hP
  have hx := Bd.exec
  have hby := Bd.bytes
  have hml : c.maxLocals = 1 := hml0
  have hown : s.vm.findClass "java/util/ImmutableCollections$AbstractImmutableList" = some m.cls := findClass_of_methodNamed Bd.named
  have hnm := (name_of_methodNamed Bd.named Bd.method).1
  have X0 : Stand p l e ({ frames := 3, cells := 0, slots := 0, locals := 36 } : Room) s m #[(.ref pR1)] below meth c s₁ [] 0 0 := Stand.of_body Bd
  have e0 : s₁.heap = h0 := by rw [← hh, Bd.state]; rfl
  have N0 := Fr.nil n0
  obtain ⟨_, _, ⟨T2, L2, k2, n2⟩, -, X2, ⟨Lc2, hQ2, l2, y2, z2⟩, st2⟩ := X0.specialBack hx (y := yN7) rfl hown (mvT hZ (ow hw 54 rfl)) (mvT hZ (ow hw 55 rfl)) (mvT hZ (ow hw 59 rfl)) (by decide) (backOf (W := 0) (aicI l Z a0 hw [] pR1 h0 n0 Z0 ) hZ (ow hw 59 rfl) (ow hw 58 rfl) (by decide) (by decide)) (g := (mkF m 1 #[.val (.ref pR1)] [(.ref pR1)])) rfl (by rw [hml]; rfl) (Steps.refl _) (a := pR1) (argsL := []) (rest := []) (lenOf pd_0 rfl) rfl (Nat.le_refl _) (hb hby d9_1) (fun _ _ => ⟨rfl, e0, (by decide : 0 + 0 ≤ _), (by decide : 0 + 0 ≤ _)⟩)
  dsimp only [Pt.U, Pt.locs, Pt.cells, Pt.slots] at X2 l2 y2 z2 st2 hQ2
  subst l2 y2 z2
  obtain ⟨rfl, Nq2, e2⟩ := hQ2
  have N2 := Fr.app N0 Nq2
  obtain ⟨fs, hr, hrun, hended, hW, hsame⟩ := X2.leave (v := none) (fun _ => rfl)
  refine ⟨_, _, castTop (ef_ailI m pR1) ?_, hrun, hended, _, _, rfl, ?_, ⟨_, rfl⟩, hW, hsame.mono (by decide) (by decide)⟩
  · show oS p e below s₁ m 0 #[.val (.ref pR1)] [] _
    refine XS.aloadN X0.here hx rfl (hb hby d9_0) rfl rfl ?_
    refine st2.trans ?_
    exact X2.returnOut hx Bd.returns (hb hby d9_4) hr
  · show QailI Z pR1 h0 n0 _ T2.heap _
    rw [e2]
    exact ⟨rfl, N2, rfl⟩
theorem d8_0 : decode jdk_45_method_1_code 0 = .ok (.aload_n 0, 1) := by decide +kernel
theorem d8_1 : decode jdk_45_method_1_code 1 = .ok (.invokespecial 1, 3) := by decide +kernel
theorem d8_4 : decode jdk_45_method_1_code 4 = .ok (.aload_n 0, 1) := by decide +kernel
theorem d8_5 : decode jdk_45_method_1_code 5 = .ok (.aload_n 1, 1) := by decide +kernel
theorem d8_6 : decode jdk_45_method_1_code 6 = .ok (.putfield 7, 3) := by decide +kernel
theorem d8_9 : decode jdk_45_method_1_code 9 = .ok (.aload_n 0, 1) := by decide +kernel
theorem d8_10 : decode jdk_45_method_1_code 10 = .ok (.iload_n 2, 1) := by decide +kernel
theorem d8_11 : decode jdk_45_method_1_code 11 = .ok (.putfield 13, 3) := by decide +kernel
theorem d8_14 : decode jdk_45_method_1_code 14 = .ok (.return_, 1) := by decide +kernel
theorem pn_6 : plainName "java/util/ImmutableCollections$ListN" = true := by first | (simp [plainName, overriddenIn]; done) | decide +kernel
theorem ef_lnI (m : MethodId) (pR1 : Addr) (pR2 : Addr) : entryFrame m #[(.ref pR1), (.ref pR2), (.int 0)] 3 = mkF m 0 #[.val (.ref pR1), .val (.ref pR2), .val (.int 0)] [] := by first | (simp [entryFrame, mkF, argsToLocals, Value.category]; done) | rfl
def QlnI (Z : State) (pR1 : Addr) (pR2 : Addr) (h0 : Heap) (n0 : Nat) (v : Option Value) (h : Heap) (L : List Loc) : Prop := v = none ∧ Fr n0 L ∧ Keep h0 h [pR1] ∧ Exa Z h pR1 "java/util/ImmutableCollections$ListN" ∧ Fld Z h pR1 "java/util/ImmutableCollections$ListN" "elements" "[Ljava/lang/Object;" (.ref pR2) ∧ Fld Z h pR1 "java/util/ImmutableCollections$ListN" "allowNulls" "Z" (.int 0)
set_option maxRecDepth 65536 in
set_option maxHeartbeats 40000000 in
theorem lnI (l : Launch) (Z : State) (a0 : Array Value) (hw : ∀ d ∈ tables_1, d.before a0 Z = true) (ws : List Jvm.Cond) (pR1 : Addr) (pR2 : Addr) (h0 : Heap) (n0 : Nat) (Z0 : n0 ≤ h0.size) (E_pR1 : Exa Z h0 pR1 "java/util/ImmutableCollections$ListN") (F_elements_pR1 : Fld Z h0 pR1 "java/util/ImmutableCollections$ListN" "elements" "[Ljava/lang/Object;" .null) (g_pR1 : n0 ≤ pR1) (F_allowNulls_pR1 : Fld Z h0 pR1 "java/util/ImmutableCollections$ListN" "allowNulls" "Z" (.int 0)) :
    oM l yN9 jdk_45_method_1_code 3 none ws ({ frames := 4, cells := 0, slots := 0, locals := 48 } : Room) #[(.ref pR1), (.ref pR2), (.int 0)] Z h0 (QlnI Z pR1 pR2 h0 n0) := by
  refine MetFree.of_bodySF (plainFor_of_name pn_6) hisR ?_
  intro p e s m args below meth c s₁ Bd hml0 hP hK
  obtain ⟨rfl, hZ, hh⟩ := hP
  have hx := Bd.exec
  have hby := Bd.bytes
  have hml : c.maxLocals = 3 := hml0
  have hown : s.vm.findClass "java/util/ImmutableCollections$ListN" = some m.cls := findClass_of_methodNamed Bd.named
  have hnm := (name_of_methodNamed Bd.named Bd.method).1
  have X0 : Stand p l e ({ frames := 4, cells := 0, slots := 0, locals := 48 } : Room) s m #[(.ref pR1), (.ref pR2), (.int 0)] below meth c s₁ [] 0 0 := Stand.of_body Bd
  have e0 : s₁.heap = h0 := by rw [← hh, Bd.state]; rfl
  have N0 := Fr.nil n0
  obtain ⟨_, _, ⟨T3, L3, k3, n3⟩, -, X3, ⟨Lc3, hQ3, l3, y3, z3⟩, st3⟩ := X0.specialBack hx (y := yN8) rfl hown (mvT hZ (ow hw 48 rfl)) (mvT hZ (ow hw 49 rfl)) (mvT hZ (ow hw 53 rfl)) (by decide) (backOf (W := 0) (ailI l Z a0 hw [] pR1 h0 n0 Z0 ) hZ (ow hw 53 rfl) (ow hw 52 rfl) (by decide) (by decide)) (g := (mkF m 1 #[.val (.ref pR1), .val (.ref pR2), .val (.int 0)] [(.ref pR1)])) rfl (by rw [hml]; rfl) (Steps.refl _) (a := pR1) (argsL := []) (rest := []) (lenOf pd_0 rfl) rfl (Nat.le_refl _) (hb hby d8_1) (fun _ _ => ⟨rfl, e0, (by decide : 0 + 0 ≤ _), (by decide : 0 + 0 ≤ _)⟩)
  dsimp only [Pt.U, Pt.locs, Pt.cells, Pt.slots] at X3 l3 y3 z3 st3 hQ3
  subst l3 y3 z3
  obtain ⟨rfl, Nq3, e3⟩ := hQ3
  have N3 := Fr.app N0 Nq3
  obtain ⟨T4, h4, X4, e4, W4, st4⟩ := putF X3 hx hZ hown (host := "") (Or.inl (ow hw 69 rfl)) Via.refl e3 F_elements_pR1 E_pR1 (Or.inr ⟨(ow hw 70 rfl), rfl, hnm⟩) (ow hw 42 rfl) (ty := (.array (.object "java/lang/Object"))) (by decide) rfl rfl (g := (mkF m 6 #[.val (.ref pR1), .val (.ref pR2), .val (.int 0)] [(.ref pR2), (.ref pR1)])) rfl rfl (hb hby d8_6)
  have K5 : Keep h0 h4 [pR1] := (Keep.refl h0 [pR1]).wr W4 (Or.inl (List.mem_of_getElem? (i := 0) rfl))
  have Z6 : n0 ≤ h4.size := (Nat.le_trans Z0 (Keep.of_wr W4).1)
  have N4 := Fr.snoc X4 N3 g_pR1
  obtain ⟨Lh4, X4, N4⟩ := own_hide X4 N4
  have F4 : Fld Z h4 pR1 "java/util/ImmutableCollections$ListN" "elements" "[Ljava/lang/Object;" (.ref pR2) := Fld.same W4 F_elements_pR1
  have c7 : Fld Z h4 pR1 "java/util/ImmutableCollections$ListN" "allowNulls" "Z" (.int 0) := F_allowNulls_pR1.other W4 (Or.inr (slot_ne (Or.inr (ow hw 72 rfl)) (Or.inr (ow hw 70 rfl)) (by decide) (t := .boolean) (t' := (.array (.object "java/lang/Object"))) (by decide) (by decide)))
  have c8 : Exa Z h4 pR1 "java/util/ImmutableCollections$ListN" := E_pR1.wr W4
  obtain ⟨T9, h9, X9, e9, W9, st9⟩ := putFN X4 hx hZ hown (ow hw 71 rfl) Via.refl e4 c7 c8 (Or.inr ⟨(ow hw 72 rfl), rfl, hnm⟩) (ow hw 42 rfl) (ty := .boolean) (v' := .int (0 : Int32)) (by decide) (by rfl) (by first | rfl | exact fits_nar_bool _) (g := (mkF m 11 #[.val (.ref pR1), .val (.ref pR2), .val (.int 0)] [(.int 0), (.ref pR1)])) rfl rfl (hb hby d8_11)
  have K10 : Keep h0 h9 [pR1] := K5.wr W9 (Or.inl (List.mem_of_getElem? (i := 0) rfl))
  have Z11 : n0 ≤ h9.size := (Nat.le_trans Z6 (Keep.of_wr W9).1)
  have N9 := Fr.snoc X9 N4 g_pR1
  obtain ⟨Lh9, X9, N9⟩ := own_hide X9 N9
  have F9 : Fld Z h9 pR1 "java/util/ImmutableCollections$ListN" "allowNulls" "Z" (.int 0) := Fld.same W9 c7
  have c12 : Exa Z h9 pR1 "java/util/ImmutableCollections$ListN" := c8.wr W9
  have c13 : Fld Z h9 pR1 "java/util/ImmutableCollections$ListN" "elements" "[Ljava/lang/Object;" (.ref pR2) := F4.other W9 (Or.inr (slot_ne (Or.inr (ow hw 70 rfl)) (Or.inr (ow hw 72 rfl)) (by decide) (t := (.array (.object "java/lang/Object"))) (t' := .boolean) (by decide) (by decide)))
  obtain ⟨fs, hr, hrun, hended, hW, hsame⟩ := X9.leave (v := none) (fun _ => rfl)
  refine ⟨_, _, castTop (ef_lnI m pR1 pR2) ?_, hrun, hended, _, _, rfl, ?_, ⟨_, rfl⟩, hW, hsame.mono (by decide) (by decide)⟩
  · show oS p e below s₁ m 0 #[.val (.ref pR1), .val (.ref pR2), .val (.int 0)] [] _
    refine XS.aloadN X0.here hx rfl (hb hby d8_0) rfl rfl ?_
    refine st3.trans ?_
    refine XS.aloadN X3.here hx rfl (hb hby d8_4) rfl rfl ?_
    refine XS.aloadN X3.here hx rfl (hb hby d8_5) rfl rfl ?_
    refine st4 _ ?_
    refine XS.aloadN X4.here hx rfl (hb hby d8_9) rfl rfl ?_
    refine XS.iloadN X4.here hx rfl (hb hby d8_10) rfl ?_
    refine st9 _ ?_
    show oS p e below T9 m 14 #[.val (.ref pR1), .val (.ref pR2), .val (.int 0)] [] _
    exact X9.returnOut hx Bd.returns (hb hby d8_14) hr
  · show QlnI Z pR1 pR2 h0 n0 _ T9.heap _
    rw [e9]
    exact ⟨rfl, N9, K10, c12, c13, F9⟩
theorem d23_0 : decode jdk_44_method_1_code 0 = .ok (.aload_n 0, 1) := by decide +kernel
theorem d23_1 : decode jdk_44_method_1_code 1 = .ok (.invokespecial 1, 3) := by decide +kernel
theorem d23_4 : decode jdk_44_method_1_code 4 = .ok (.aload_n 0, 1) := by decide +kernel
theorem d23_5 : decode jdk_44_method_1_code 5 = .ok (.aload_n 1, 1) := by decide +kernel
theorem d23_6 : decode jdk_44_method_1_code 6 = .ok (.invokestatic 7, 3) := by decide +kernel
theorem pd_2 : parseMethodDescriptor "(Ljava/lang/Object;)Ljava/lang/Object;" = some ⟨[(.object "java/lang/Object")], some (.object "java/lang/Object")⟩ := by decide +kernel
theorem d23_9 : decode jdk_44_method_1_code 9 = .ok (.putfield 13, 3) := by decide +kernel
theorem d23_12 : decode jdk_44_method_1_code 12 = .ok (.aload_n 0, 1) := by decide +kernel
theorem d23_13 : decode jdk_44_method_1_code 13 = .ok (.getstatic 19, 3) := by decide +kernel
theorem d23_16 : decode jdk_44_method_1_code 16 = .ok (.putfield 24, 3) := by decide +kernel
theorem d23_19 : decode jdk_44_method_1_code 19 = .ok (.return_, 1) := by decide +kernel
theorem pn_7 : plainName "java/util/ImmutableCollections$List12" = true := by first | (simp [plainName, overriddenIn]; done) | decide +kernel
theorem ef_l1I (m : MethodId) (pR1 : Addr) (pR2 : Addr) : entryFrame m #[(.ref pR1), (.ref pR2)] 2 = mkF m 0 #[.val (.ref pR1), .val (.ref pR2)] [] := by first | (simp [entryFrame, mkF, argsToLocals, Value.category]; done) | rfl
def Ql1I (Z : State) (pR1 : Addr) (pR2 : Addr) (pR8 : Addr) (h0 : Heap) (n0 : Nat) (v : Option Value) (h : Heap) (L : List Loc) : Prop := v = none ∧ Fr n0 L ∧ Keep h0 h [pR1] ∧ Exa Z h pR1 "java/util/ImmutableCollections$List12" ∧ Fld Z h pR1 "java/util/ImmutableCollections$List12" "e0" "Ljava/lang/Object;" (.ref pR2) ∧ Fld Z h pR1 "java/util/ImmutableCollections$List12" "e1" "Ljava/lang/Object;" (.ref pR8)
set_option maxRecDepth 65536 in
set_option maxHeartbeats 40000000 in
theorem l1I (l : Launch) (Z : State) (a0 : Array Value) (hw : ∀ d ∈ tables_1, d.before a0 Z = true) (ws : List Jvm.Cond) (pR1 : Addr) (pR2 : Addr) (pR8 : Addr) (h0 : Heap) (n0 : Nat) (Z0 : n0 ≤ h0.size) (E_pR1 : Exa Z h0 pR1 "java/util/ImmutableCollections$List12") (F_e0_pR1 : Fld Z h0 pR1 "java/util/ImmutableCollections$List12" "e0" "Ljava/lang/Object;" .null) (g_pR1 : n0 ≤ pR1) (S_ImmutableCollections_EMPTY : Sta Z h0 "java/util/ImmutableCollections" "EMPTY" "Ljava/lang/Object;" (.ref pR8)) (F_e1_pR1 : Fld Z h0 pR1 "java/util/ImmutableCollections$List12" "e1" "Ljava/lang/Object;" .null) :
    oM l yN10 jdk_44_method_1_code 2 none ws ({ frames := 4, cells := 0, slots := 0, locals := 48 } : Room) #[(.ref pR1), (.ref pR2)] Z h0 (Ql1I Z pR1 pR2 pR8 h0 n0) := by
  refine MetFree.of_bodySF (plainFor_of_name pn_7) hisR ?_
  intro p e s m args below meth c s₁ Bd hml0 hP hK
  obtain ⟨rfl, hZ, hh⟩ := hP
  have hx := Bd.exec
  have hby := Bd.bytes
  have hml : c.maxLocals = 2 := hml0
  have hown : s.vm.findClass "java/util/ImmutableCollections$List12" = some m.cls := findClass_of_methodNamed Bd.named
  have hnm := (name_of_methodNamed Bd.named Bd.method).1
  have X0 : Stand p l e ({ frames := 4, cells := 0, slots := 0, locals := 48 } : Room) s m #[(.ref pR1), (.ref pR2)] below meth c s₁ [] 0 0 := Stand.of_body Bd
  have e0 : s₁.heap = h0 := by rw [← hh, Bd.state]; rfl
  have N0 := Fr.nil n0
  obtain ⟨_, _, ⟨T3, L3, k3, n3⟩, -, X3, ⟨Lc3, hQ3, l3, y3, z3⟩, st3⟩ := X0.specialBack hx (y := yN8) rfl hown (mvT hZ (ow hw 110 rfl)) (mvT hZ (ow hw 49 rfl)) (mvT hZ (ow hw 53 rfl)) (by decide) (backOf (W := 0) (ailI l Z a0 hw [] pR1 h0 n0 Z0 ) hZ (ow hw 53 rfl) (ow hw 52 rfl) (by decide) (by decide)) (g := (mkF m 1 #[.val (.ref pR1), .val (.ref pR2)] [(.ref pR1)])) rfl (by rw [hml]; rfl) (Steps.refl _) (a := pR1) (argsL := []) (rest := []) (lenOf pd_0 rfl) rfl (Nat.le_refl _) (hb hby d23_1) (fun _ _ => ⟨rfl, e0, (by decide : 0 + 0 ≤ _), (by decide : 0 + 0 ≤ _)⟩)
  dsimp only [Pt.U, Pt.locs, Pt.cells, Pt.slots] at X3 l3 y3 z3 st3 hQ3
  subst l3 y3 z3
  obtain ⟨rfl, Nq3, e3⟩ := hQ3
  have N3 := Fr.app N0 Nq3
  obtain ⟨_, _, ⟨T4, L4, k4, n4⟩, -, X4, ⟨Lc4, hQ4, l4, y4, z4⟩, st4⟩ := Jvm.LawKit.callS X3 hx (y := yN5) hown (mvT hZ (ow hw 114 rfl)) (mvT hZ (ow hw 37 rfl)) (mvT hZ (ow hw 38 rfl)) (mvT hZ (ow hw 39 rfl)) (by decide) (backOf (W := 1) (rnn l Z a0 hw [] pR2 h0 n0 Z0 ) hZ (ow hw 39 rfl) (ow hw 38 rfl) (by decide) (by decide)) (g := (mkF m 6 #[.val (.ref pR1), .val (.ref pR2)] [(.ref pR2), (.ref pR1)])) rfl (by rw [hml]; rfl) (argsL := [(.ref pR2)]) (rest := [(.ref pR1)]) (lenOf pd_2 rfl) rfl (Nat.le_refl _) (hb hby d23_6) (fun _ _ => ⟨rfl, e3, (by decide : 0 + 0 ≤ _), (by decide : 0 + 0 ≤ _)⟩)
  dsimp only [Pt.U, Pt.locs, Pt.cells, Pt.slots] at X4 l4 y4 z4 st4 hQ4
  subst l4 y4 z4
  obtain ⟨rfl, Nq4, e4⟩ := hQ4
  have N4 := Fr.app N3 Nq4
  obtain ⟨T5, h5, X5, e5, W5, st5⟩ := putF X4 hx hZ hown (host := "") (Or.inl (ow hw 115 rfl)) Via.refl e4 F_e0_pR1 E_pR1 (Or.inr ⟨(ow hw 116 rfl), rfl, hnm⟩) (ow hw 104 rfl) (ty := (.object "java/lang/Object")) (by decide) rfl rfl (g := (mkF m 9 #[.val (.ref pR1), .val (.ref pR2)] [(.ref pR2), (.ref pR1)])) rfl rfl (hb hby d23_9)
  have K6 : Keep h0 h5 [pR1] := (Keep.refl h0 [pR1]).wr W5 (Or.inl (List.mem_of_getElem? (i := 0) rfl))
  have Z7 : n0 ≤ h5.size := (Nat.le_trans Z0 (Keep.of_wr W5).1)
  have N5 := Fr.snoc X5 N4 g_pR1
  obtain ⟨Lh5, X5, N5⟩ := own_hide X5 N5
  have F5 : Fld Z h5 pR1 "java/util/ImmutableCollections$List12" "e0" "Ljava/lang/Object;" (.ref pR2) := Fld.same W5 F_e0_pR1
  have c9 : Sta Z h5 "java/util/ImmutableCollections" "EMPTY" "Ljava/lang/Object;" (.ref pR8) := S_ImmutableCollections_EMPTY.wr W5
  obtain ⟨T10, X10, e10, st10⟩ := getS2 X5 hx hZ hown (Or.inr (ow hw 125 rfl)) Via.refl e5 c9 (g := (mkF m 13 #[.val (.ref pR1), .val (.ref pR2)] [(.ref pR1)])) rfl (hb hby d23_13)
  have c11 : Fld Z h5 pR1 "java/util/ImmutableCollections$List12" "e1" "Ljava/lang/Object;" .null := F_e1_pR1.other W5 (Or.inr (slot_ne (Or.inr (ow hw 118 rfl)) (Or.inr (ow hw 116 rfl)) (by decide) (t := (.object "java/lang/Object")) (t' := (.object "java/lang/Object")) (by decide) (by decide)))
  have c12 : Exa Z h5 pR1 "java/util/ImmutableCollections$List12" := E_pR1.wr W5
  obtain ⟨T13, h13, X13, e13, W13, st13⟩ := putF X10 hx hZ hown (host := "") (Or.inl (ow hw 117 rfl)) Via.refl e10 c11 c12 (Or.inr ⟨(ow hw 118 rfl), rfl, hnm⟩) (ow hw 104 rfl) (ty := (.object "java/lang/Object")) (by decide) rfl rfl (g := (mkF m 16 #[.val (.ref pR1), .val (.ref pR2)] [(.ref pR8), (.ref pR1)])) rfl rfl (hb hby d23_16)
  have K14 : Keep h0 h13 [pR1] := K6.wr W13 (Or.inl (List.mem_of_getElem? (i := 0) rfl))
  have Z15 : n0 ≤ h13.size := (Nat.le_trans Z7 (Keep.of_wr W13).1)
  have N13 := Fr.snoc X13 N5 g_pR1
  obtain ⟨Lh13, X13, N13⟩ := own_hide X13 N13
  have F13 : Fld Z h13 pR1 "java/util/ImmutableCollections$List12" "e1" "Ljava/lang/Object;" (.ref pR8) := Fld.same W13 c11
  have c16 : Exa Z h13 pR1 "java/util/ImmutableCollections$List12" := c12.wr W13
  have c17 : Fld Z h13 pR1 "java/util/ImmutableCollections$List12" "e0" "Ljava/lang/Object;" (.ref pR2) := F5.other W13 (Or.inr (slot_ne (Or.inr (ow hw 116 rfl)) (Or.inr (ow hw 118 rfl)) (by decide) (t := (.object "java/lang/Object")) (t' := (.object "java/lang/Object")) (by decide) (by decide)))
  obtain ⟨fs, hr, hrun, hended, hW, hsame⟩ := X13.leave (v := none) (fun _ => rfl)
  refine ⟨_, _, castTop (ef_l1I m pR1 pR2) ?_, hrun, hended, _, _, rfl, ?_, ⟨_, rfl⟩, hW, hsame.mono (by decide) (by decide)⟩
  · show oS p e below s₁ m 0 #[.val (.ref pR1), .val (.ref pR2)] [] _
    refine XS.aloadN X0.here hx rfl (hb hby d23_0) rfl rfl ?_
    refine st3.trans ?_
    refine XS.aloadN X3.here hx rfl (hb hby d23_4) rfl rfl ?_
    refine XS.aloadN X3.here hx rfl (hb hby d23_5) rfl rfl ?_
    refine st4 _ ?_
    refine st5 _ ?_
    refine XS.aloadN X5.here hx rfl (hb hby d23_12) rfl rfl ?_
    refine st10 _ ?_
    show oS p e below T10 m 16 #[.val (.ref pR1), .val (.ref pR2)] [(.ref pR8), (.ref pR1)] _
    refine st13 _ ?_
    exact X13.returnOut hx Bd.returns (hb hby d23_19) hr
  · show Ql1I Z pR1 pR2 pR8 h0 n0 _ T13.heap _
    rw [e13]
    exact ⟨rfl, N13, K14, c16, c17, F13⟩
theorem d18_0 : decode jdk_44_method_2_code 0 = .ok (.aload_n 0, 1) := by decide +kernel
theorem d18_1 : decode jdk_44_method_2_code 1 = .ok (.invokespecial 1, 3) := by decide +kernel
theorem d18_4 : decode jdk_44_method_2_code 4 = .ok (.aload_n 0, 1) := by decide +kernel
theorem d18_5 : decode jdk_44_method_2_code 5 = .ok (.aload_n 1, 1) := by decide +kernel
theorem d18_6 : decode jdk_44_method_2_code 6 = .ok (.invokestatic 7, 3) := by decide +kernel
theorem d18_9 : decode jdk_44_method_2_code 9 = .ok (.putfield 13, 3) := by decide +kernel
theorem d18_12 : decode jdk_44_method_2_code 12 = .ok (.aload_n 0, 1) := by decide +kernel
theorem d18_13 : decode jdk_44_method_2_code 13 = .ok (.aload_n 2, 1) := by decide +kernel
theorem d18_14 : decode jdk_44_method_2_code 14 = .ok (.invokestatic 7, 3) := by decide +kernel
theorem d18_17 : decode jdk_44_method_2_code 17 = .ok (.putfield 24, 3) := by decide +kernel
theorem d18_20 : decode jdk_44_method_2_code 20 = .ok (.return_, 1) := by decide +kernel
theorem ef_l2I (m : MethodId) (pR1 : Addr) (pR2 : Addr) (pR3 : Addr) : entryFrame m #[(.ref pR1), (.ref pR2), (.ref pR3)] 3 = mkF m 0 #[.val (.ref pR1), .val (.ref pR2), .val (.ref pR3)] [] := by first | (simp [entryFrame, mkF, argsToLocals, Value.category]; done) | rfl
def Ql2I (Z : State) (pR1 : Addr) (pR2 : Addr) (pR3 : Addr) (h0 : Heap) (n0 : Nat) (v : Option Value) (h : Heap) (L : List Loc) : Prop := v = none ∧ Fr n0 L ∧ Keep h0 h [pR1] ∧ Exa Z h pR1 "java/util/ImmutableCollections$List12" ∧ Fld Z h pR1 "java/util/ImmutableCollections$List12" "e0" "Ljava/lang/Object;" (.ref pR2) ∧ Fld Z h pR1 "java/util/ImmutableCollections$List12" "e1" "Ljava/lang/Object;" (.ref pR3)
set_option maxRecDepth 65536 in
set_option maxHeartbeats 40000000 in
theorem l2I (l : Launch) (Z : State) (a0 : Array Value) (hw : ∀ d ∈ tables_1, d.before a0 Z = true) (ws : List Jvm.Cond) (pR1 : Addr) (pR2 : Addr) (pR3 : Addr) (h0 : Heap) (n0 : Nat) (Z0 : n0 ≤ h0.size) (E_pR1 : Exa Z h0 pR1 "java/util/ImmutableCollections$List12") (F_e0_pR1 : Fld Z h0 pR1 "java/util/ImmutableCollections$List12" "e0" "Ljava/lang/Object;" .null) (g_pR1 : n0 ≤ pR1) (F_e1_pR1 : Fld Z h0 pR1 "java/util/ImmutableCollections$List12" "e1" "Ljava/lang/Object;" .null) :
    oM l yN11 jdk_44_method_2_code 3 none ws ({ frames := 4, cells := 0, slots := 0, locals := 48 } : Room) #[(.ref pR1), (.ref pR2), (.ref pR3)] Z h0 (Ql2I Z pR1 pR2 pR3 h0 n0) := by
  refine MetFree.of_bodySF (plainFor_of_name pn_7) hisR ?_
  intro p e s m args below meth c s₁ Bd hml0 hP hK
  obtain ⟨rfl, hZ, hh⟩ := hP
  have hx := Bd.exec
  have hby := Bd.bytes
  have hml : c.maxLocals = 3 := hml0
  have hown : s.vm.findClass "java/util/ImmutableCollections$List12" = some m.cls := findClass_of_methodNamed Bd.named
  have hnm := (name_of_methodNamed Bd.named Bd.method).1
  have X0 : Stand p l e ({ frames := 4, cells := 0, slots := 0, locals := 48 } : Room) s m #[(.ref pR1), (.ref pR2), (.ref pR3)] below meth c s₁ [] 0 0 := Stand.of_body Bd
  have e0 : s₁.heap = h0 := by rw [← hh, Bd.state]; rfl
  have N0 := Fr.nil n0
  obtain ⟨_, _, ⟨T4, L4, k4, n4⟩, -, X4, ⟨Lc4, hQ4, l4, y4, z4⟩, st4⟩ := X0.specialBack hx (y := yN8) rfl hown (mvT hZ (ow hw 110 rfl)) (mvT hZ (ow hw 49 rfl)) (mvT hZ (ow hw 53 rfl)) (by decide) (backOf (W := 0) (ailI l Z a0 hw [] pR1 h0 n0 Z0 ) hZ (ow hw 53 rfl) (ow hw 52 rfl) (by decide) (by decide)) (g := (mkF m 1 #[.val (.ref pR1), .val (.ref pR2), .val (.ref pR3)] [(.ref pR1)])) rfl (by rw [hml]; rfl) (Steps.refl _) (a := pR1) (argsL := []) (rest := []) (lenOf pd_0 rfl) rfl (Nat.le_refl _) (hb hby d18_1) (fun _ _ => ⟨rfl, e0, (by decide : 0 + 0 ≤ _), (by decide : 0 + 0 ≤ _)⟩)
  dsimp only [Pt.U, Pt.locs, Pt.cells, Pt.slots] at X4 l4 y4 z4 st4 hQ4
  subst l4 y4 z4
  obtain ⟨rfl, Nq4, e4⟩ := hQ4
  have N4 := Fr.app N0 Nq4
  obtain ⟨_, _, ⟨T5, L5, k5, n5⟩, -, X5, ⟨Lc5, hQ5, l5, y5, z5⟩, st5⟩ := Jvm.LawKit.callS X4 hx (y := yN5) hown (mvT hZ (ow hw 114 rfl)) (mvT hZ (ow hw 37 rfl)) (mvT hZ (ow hw 38 rfl)) (mvT hZ (ow hw 39 rfl)) (by decide) (backOf (W := 1) (rnn l Z a0 hw [] pR2 h0 n0 Z0 ) hZ (ow hw 39 rfl) (ow hw 38 rfl) (by decide) (by decide)) (g := (mkF m 6 #[.val (.ref pR1), .val (.ref pR2), .val (.ref pR3)] [(.ref pR2), (.ref pR1)])) rfl (by rw [hml]; rfl) (argsL := [(.ref pR2)]) (rest := [(.ref pR1)]) (lenOf pd_2 rfl) rfl (Nat.le_refl _) (hb hby d18_6) (fun _ _ => ⟨rfl, e4, (by decide : 0 + 0 ≤ _), (by decide : 0 + 0 ≤ _)⟩)
  dsimp only [Pt.U, Pt.locs, Pt.cells, Pt.slots] at X5 l5 y5 z5 st5 hQ5
  subst l5 y5 z5
  obtain ⟨rfl, Nq5, e5⟩ := hQ5
  have N5 := Fr.app N4 Nq5
  obtain ⟨T6, h6, X6, e6, W6, st6⟩ := putF X5 hx hZ hown (host := "") (Or.inl (ow hw 115 rfl)) Via.refl e5 F_e0_pR1 E_pR1 (Or.inr ⟨(ow hw 116 rfl), rfl, hnm⟩) (ow hw 104 rfl) (ty := (.object "java/lang/Object")) (by decide) rfl rfl (g := (mkF m 9 #[.val (.ref pR1), .val (.ref pR2), .val (.ref pR3)] [(.ref pR2), (.ref pR1)])) rfl rfl (hb hby d18_9)
  have K7 : Keep h0 h6 [pR1] := (Keep.refl h0 [pR1]).wr W6 (Or.inl (List.mem_of_getElem? (i := 0) rfl))
  have Z8 : n0 ≤ h6.size := (Nat.le_trans Z0 (Keep.of_wr W6).1)
  have N6 := Fr.snoc X6 N5 g_pR1
  obtain ⟨Lh6, X6, N6⟩ := own_hide X6 N6
  have F6 : Fld Z h6 pR1 "java/util/ImmutableCollections$List12" "e0" "Ljava/lang/Object;" (.ref pR2) := Fld.same W6 F_e0_pR1
  obtain ⟨_, _, ⟨T9, L9, k9, n9⟩, -, X9, ⟨Lc9, hQ9, l9, y9, z9⟩, st9⟩ := Jvm.LawKit.callS X6 hx (y := yN5) hown (mvT hZ (ow hw 114 rfl)) (mvT hZ (ow hw 37 rfl)) (mvT hZ (ow hw 38 rfl)) (mvT hZ (ow hw 39 rfl)) (by decide) (backOf (W := 1) (rnn l Z a0 hw [] pR3 h6 n0 Z8 ) hZ (ow hw 39 rfl) (ow hw 38 rfl) (by decide) (by decide)) (g := (mkF m 14 #[.val (.ref pR1), .val (.ref pR2), .val (.ref pR3)] [(.ref pR3), (.ref pR1)])) rfl (by rw [hml]; rfl) (argsL := [(.ref pR3)]) (rest := [(.ref pR1)]) (lenOf pd_2 rfl) rfl (Nat.le_refl _) (hb hby d18_14) (fun _ _ => ⟨rfl, e6, (by decide : 0 + 0 ≤ _), (by decide : 0 + 0 ≤ _)⟩)
  dsimp only [Pt.U, Pt.locs, Pt.cells, Pt.slots] at X9 l9 y9 z9 st9 hQ9
  subst l9 y9 z9
  obtain ⟨rfl, Nq9, e9⟩ := hQ9
  have N9 := Fr.app N6 Nq9
  have c10 : Fld Z h6 pR1 "java/util/ImmutableCollections$List12" "e1" "Ljava/lang/Object;" .null := F_e1_pR1.other W6 (Or.inr (slot_ne (Or.inr (ow hw 118 rfl)) (Or.inr (ow hw 116 rfl)) (by decide) (t := (.object "java/lang/Object")) (t' := (.object "java/lang/Object")) (by decide) (by decide)))
  have c11 : Exa Z h6 pR1 "java/util/ImmutableCollections$List12" := E_pR1.wr W6
  obtain ⟨T12, h12, X12, e12, W12, st12⟩ := putF X9 hx hZ hown (host := "") (Or.inl (ow hw 117 rfl)) Via.refl e9 c10 c11 (Or.inr ⟨(ow hw 118 rfl), rfl, hnm⟩) (ow hw 104 rfl) (ty := (.object "java/lang/Object")) (by decide) rfl rfl (g := (mkF m 17 #[.val (.ref pR1), .val (.ref pR2), .val (.ref pR3)] [(.ref pR3), (.ref pR1)])) rfl rfl (hb hby d18_17)
  have K13 : Keep h0 h12 [pR1] := K7.wr W12 (Or.inl (List.mem_of_getElem? (i := 0) rfl))
  have Z14 : n0 ≤ h12.size := (Nat.le_trans Z8 (Keep.of_wr W12).1)
  have N12 := Fr.snoc X12 N9 g_pR1
  obtain ⟨Lh12, X12, N12⟩ := own_hide X12 N12
  have F12 : Fld Z h12 pR1 "java/util/ImmutableCollections$List12" "e1" "Ljava/lang/Object;" (.ref pR3) := Fld.same W12 c10
  have c15 : Exa Z h12 pR1 "java/util/ImmutableCollections$List12" := c11.wr W12
  have c16 : Fld Z h12 pR1 "java/util/ImmutableCollections$List12" "e0" "Ljava/lang/Object;" (.ref pR2) := F6.other W12 (Or.inr (slot_ne (Or.inr (ow hw 116 rfl)) (Or.inr (ow hw 118 rfl)) (by decide) (t := (.object "java/lang/Object")) (t' := (.object "java/lang/Object")) (by decide) (by decide)))
  obtain ⟨fs, hr, hrun, hended, hW, hsame⟩ := X12.leave (v := none) (fun _ => rfl)
  refine ⟨_, _, castTop (ef_l2I m pR1 pR2 pR3) ?_, hrun, hended, _, _, rfl, ?_, ⟨_, rfl⟩, hW, hsame.mono (by decide) (by decide)⟩
  · show oS p e below s₁ m 0 #[.val (.ref pR1), .val (.ref pR2), .val (.ref pR3)] [] _
    refine XS.aloadN X0.here hx rfl (hb hby d18_0) rfl rfl ?_
    refine st4.trans ?_
    refine XS.aloadN X4.here hx rfl (hb hby d18_4) rfl rfl ?_
    refine XS.aloadN X4.here hx rfl (hb hby d18_5) rfl rfl ?_
    refine st5 _ ?_
    refine st6 _ ?_
    refine XS.aloadN X6.here hx rfl (hb hby d18_12) rfl rfl ?_
    refine XS.aloadN X6.here hx rfl (hb hby d18_13) rfl rfl ?_
    show oS p e below T6 m 14 #[.val (.ref pR1), .val (.ref pR2), .val (.ref pR3)] [(.ref pR3), (.ref pR1)] _
    refine st9 _ ?_
    refine st12 _ ?_
    exact X12.returnOut hx Bd.returns (hb hby d18_20) hr
  · show Ql2I Z pR1 pR2 pR3 h0 n0 _ T12.heap _
    rw [e12]
    exact ⟨rfl, N12, K13, c15, c16, F12⟩
theorem d3_0 : decode jdk_65_method_117_code 0 = .ok (.iconst 0, 1) := by decide +kernel
theorem d3_1 : decode jdk_65_method_117_code 1 = .ok (.istore_n 2, 1) := by decide +kernel
theorem d3_2 : decode jdk_65_method_117_code 2 = .ok (.aload_n 0, 1) := by decide +kernel
theorem d3_3 : decode jdk_65_method_117_code 3 = .ok (.arraylength, 1) := by decide +kernel
theorem d3_4 : decode jdk_65_method_117_code 4 = .ok (.istore_n 3, 1) := by decide +kernel
theorem d3_5 : decode jdk_65_method_117_code 5 = .ok (.iload_n 2, 1) := by decide +kernel
theorem d3_6 : decode jdk_65_method_117_code 6 = .ok (.iload_n 3, 1) := by decide +kernel
theorem d3_7 : decode jdk_65_method_117_code 7 = .ok (.if_icmp .ge 13, 3) := by decide +kernel
theorem d3_10 : decode jdk_65_method_117_code 10 = .ok (.aload_n 0, 1) := by decide +kernel
theorem d3_11 : decode jdk_65_method_117_code 11 = .ok (.iload_n 2, 1) := by decide +kernel
theorem d3_12 : decode jdk_65_method_117_code 12 = .ok (.aload_n 1, 1) := by decide +kernel
theorem d3_13 : decode jdk_65_method_117_code 13 = .ok (.aastore, 1) := by decide +kernel
theorem d3_14 : decode jdk_65_method_117_code 14 = .ok (.iinc 2 1, 3) := by decide +kernel
theorem d3_17 : decode jdk_65_method_117_code 17 = .ok (.goto (-12), 3) := by decide +kernel
theorem d3_20 : decode jdk_65_method_117_code 20 = .ok (.return_, 1) := by decide +kernel
theorem pn_8 : plainName "java/util/Arrays" = true := by first | (simp [plainName, overriddenIn]; done) | decide +kernel
theorem ef_fill1 (m : MethodId) (pR1 : Addr) (pR2 : Addr) : entryFrame m #[(.ref pR1), (.ref pR2)] 4 = mkF m 0 #[.val (.ref pR1), .val (.ref pR2), .unset, .unset] [] := by first | (simp [entryFrame, mkF, argsToLocals, Value.category]; done) | rfl
def Qfill1 (Z : State) (pR1 : Addr) (pR2 : Addr) (pK3 : ClassId) (h0 : Heap) (n0 : Nat) (v : Option Value) (h : Heap) (L : List Loc) : Prop := v = none ∧ Fr n0 L ∧ Keep h0 h [pR1] ∧ Arv Z h pR1 pK3 (.object "java/lang/Integer") (1 : Int32) [(.ref pR2)] .null ∧ Ovr Z pK3 "java/lang/Integer"
set_option maxRecDepth 65536 in
set_option maxHeartbeats 40000000 in
theorem fill1 (l : Launch) (Z : State) (a0 : Array Value) (hw : ∀ d ∈ tables_1, d.before a0 Z = true) (ws : List Jvm.Cond) (pR1 : Addr) (pR2 : Addr) (pK3 : ClassId) (h0 : Heap) (n0 : Nat) (Z0 : n0 ≤ h0.size) (V_pR1 : Arv Z h0 pR1 pK3 (.object "java/lang/Integer") (1 : Int32) [.null] .null) (O_pK3 : Ovr Z pK3 "java/lang/Integer") (g_pR1 : n0 ≤ pR1) (E_pR2 : Exa Z h0 pR2 "java/lang/Integer") :
    oM l yN12 jdk_65_method_117_code 4 none ws ({ frames := 0, cells := 0, slots := 0, locals := 0 } : Room) #[(.ref pR1), (.ref pR2)] Z h0 (Qfill1 Z pR1 pR2 pK3 h0 n0) := by
  refine MetFree.of_bodySF (plainFor_of_name pn_8) hisR ?_
  intro p e s m args below meth c s₁ Bd hml0 hP hK
  obtain ⟨rfl, hZ, hh⟩ := hP
  have hx := Bd.exec
  have hby := Bd.bytes
  have hml : c.maxLocals = 4 := hml0
  have hown : s.vm.findClass "java/util/Arrays" = some m.cls := findClass_of_methodNamed Bd.named
  have hnm := (name_of_methodNamed Bd.named Bd.method).1
  have X0 : Stand p l e ({ frames := 0, cells := 0, slots := 0, locals := 0 } : Room) s m #[(.ref pR1), (.ref pR2)] below meth c s₁ [] 0 0 := Stand.of_body Bd
  have e0 : s₁.heap = h0 := by rw [← hh, Bd.state]; rfl
  have N0 := Fr.nil n0
  obtain ⟨clq4, Arq4, Akq4, Asq4, Anq4, Ahq4, Agq4⟩ := id V_pR1
  obtain ⟨clq5, Arq5, Akq5, Asq5, Anq5, Ahq5, Agq5⟩ := id V_pR1
  have hin6 : ¬ ((0 : Int32) < 0 ∨ clq5.slots.size ≤ ((0 : Int32)).toNatClampNeg) := inb_of Asq5 ⟨by decide, by decide⟩
  obtain ⟨T7, h7, X7, e7, W7, st7⟩ := stR X0 hx hZ e0 Arq5 (j := (0 : Int32)) hin6 rfl (Sto.ofV Arq5 Akq5 O_pK3 (Ins.self E_pR2)) (g := (mkF m 13 #[.val (.ref pR1), .val (.ref pR2), .val (.int 0), .val (.int 1)] [(.ref pR2), (.int 0), (.ref pR1)])) rfl rfl (hb hby d3_13)
  have K8 : Keep h0 h7 [pR1] := (Keep.refl h0 [pR1]).wr W7 (Or.inl (List.mem_of_getElem? (i := 0) rfl))
  have Z9 : n0 ≤ h7.size := (Nat.le_trans Z0 (Keep.of_wr W7).1)
  have N7 := Fr.snoc X7 N0 g_pR1
  obtain ⟨Lh7, X7, N7⟩ := own_hide X7 N7
  have V7 : Arv Z h7 pR1 pK3 (.object "java/lang/Integer") (1 : Int32) [(.ref pR2)] .null := Arv.set Arq5 Akq5 Asq5 Anq5 Ahq5 Agq5 rfl W7 0 rfl (Nat.le_of_ble_eq_true rfl)
  obtain ⟨fs, hr, hrun, hended, hW, hsame⟩ := X7.leave (v := none) (fun _ => rfl)
  refine ⟨_, _, castTop (ef_fill1 m pR1 pR2) ?_, hrun, hended, _, _, rfl, ?_, ⟨_, rfl⟩, hW, hsame.mono (by decide) (by decide)⟩
  · show oS p e below s₁ m 0 #[.val (.ref pR1), .val (.ref pR2), .unset, .unset] [] _
    refine XS.iconst X0.here hx rfl (hb hby d3_0) ?_
    refine XS.istoreN X0.here hx rfl (hb hby d3_1) rfl (l' := #[.val (.ref pR1), .val (.ref pR2), .val (.int 0), .unset]) rfl ?_
    refine XS.aloadN X0.here hx rfl (hb hby d3_2) rfl rfl ?_
    refine X0.arraylength hx (by rw [e0]; exact Arq4.1) (State.isArrayOf_alike hZ.alike Arq4.2.1) (g := (mkF m 3 #[.val (.ref pR1), .val (.ref pR2), .val (.int 0), .unset] [(.ref pR1)])) rfl rfl (hb hby d3_3) _ ?_
    rw [len_of Asq4 Anq4]
    refine XS.istoreN X0.here hx rfl (hb hby d3_4) rfl (l' := #[.val (.ref pR1), .val (.ref pR2), .val (.int 0), .val (.int 1)]) rfl ?_
    refine XS.iloadN X0.here hx rfl (hb hby d3_5) rfl ?_
    refine XS.iloadN X0.here hx rfl (hb hby d3_6) rfl ?_
    refine XS.icmpNo X0.here hx rfl (hb hby d3_7) rfl (tlt (by decide : (0 : Int32) < (1 : Int32))).2.1 ?_
    show oS p e below s₁ m 10 #[.val (.ref pR1), .val (.ref pR2), .val (.int 0), .val (.int 1)] [] _
    refine XS.aloadN X0.here hx rfl (hb hby d3_10) rfl rfl ?_
    refine XS.iloadN X0.here hx rfl (hb hby d3_11) rfl ?_
    refine XS.aloadN X0.here hx rfl (hb hby d3_12) rfl rfl ?_
    refine st7 _ ?_
    refine XS.iinc X7.here hx rfl (hb hby d3_14) rfl (l' := #[.val (.ref pR1), .val (.ref pR2), .val (.int 1), .val (.int 1)]) rfl ?_
    refine XS.goto X7.here hx rfl (pc0 := 17) (pc' := 5) rfl (hb hby d3_17) (by decide) (by decide) ?_
    refine XS.iloadN X7.here hx rfl (hb hby d3_5) rfl ?_
    refine XS.iloadN X7.here hx rfl (hb hby d3_6) rfl ?_
    show oS p e below T7 m 7 #[.val (.ref pR1), .val (.ref pR2), .val (.int 1), .val (.int 1)] [(.int 1), (.int 1)] _
    refine XS.icmpYes X7.here hx rfl (pc0 := 7) (pc' := 20) rfl (hb hby d3_7) rfl (flt (by decide : ¬ ((1 : Int32) < (1 : Int32)))).2.1 (by decide) (by decide) ?_
    exact X7.returnOut hx Bd.returns (hb hby d3_20) hr
  · show Qfill1 Z pR1 pR2 pK3 h0 n0 _ T7.heap _
    rw [e7]
    exact ⟨rfl, N7, K8, V7, O_pK3⟩
theorem d5_0 : decode jdk_40_method_47_code 0 = .ok (.aload_n 0, 1) := by decide +kernel
theorem d5_1 : decode jdk_40_method_47_code 1 = .ok (.arraylength, 1) := by decide +kernel
theorem d5_2 : decode jdk_40_method_47_code 2 = .ok (.tableswitch 57 0 2 #[26, 32, 43], 26) := by decide +kernel
theorem d5_34 : decode jdk_40_method_47_code 34 = .ok (.new 96, 3) := by decide +kernel
theorem d5_37 : decode jdk_40_method_47_code 37 = .ok (.dup, 1) := by decide +kernel
theorem d5_38 : decode jdk_40_method_47_code 38 = .ok (.aload_n 0, 1) := by decide +kernel
theorem d5_39 : decode jdk_40_method_47_code 39 = .ok (.iconst 0, 1) := by decide +kernel
theorem d5_40 : decode jdk_40_method_47_code 40 = .ok (.aaload, 1) := by decide +kernel
theorem d5_41 : decode jdk_40_method_47_code 41 = .ok (.invokespecial 98, 3) := by decide +kernel
theorem pd_3 : parseMethodDescriptor "(Ljava/lang/Object;)V" = some ⟨[(.object "java/lang/Object")], none⟩ := by decide +kernel
theorem d5_44 : decode jdk_40_method_47_code 44 = .ok (.areturn, 1) := by decide +kernel
theorem pn_9 : plainName "java/util/List" = true := by first | (simp [plainName, overriddenIn]; done) | decide +kernel
theorem ef_of1 (m : MethodId) (pR1 : Addr) : entryFrame m #[(.ref pR1)] 2 = mkF m 0 #[.val (.ref pR1), .unset] [] := by first | (simp [entryFrame, mkF, argsToLocals, Value.category]; done) | rfl
def Qof1 (Z : State) (pR1 : Addr) (pR801 : Addr) (pK2 : ClassId) (pR13 : Addr) (h0 : Heap) (n0 : Nat) (v : Option Value) (h : Heap) (L : List Loc) : Prop := ∃ bR4 : Addr, v = some (.ref bR4) ∧ Fr n0 L ∧ Keep h0 h [] ∧ h0.size ≤ bR4 ∧ Exa Z h bR4 "java/util/ImmutableCollections$List12" ∧ Fld Z h bR4 "java/util/ImmutableCollections$List12" "e0" "Ljava/lang/Object;" (.ref pR801) ∧ Fld Z h bR4 "java/util/ImmutableCollections$List12" "e1" "Ljava/lang/Object;" (.ref pR13)
set_option maxRecDepth 65536 in
set_option maxHeartbeats 40000000 in
theorem of1 (l : Launch) (Z : State) (a0 : Array Value) (hw : ∀ d ∈ tables_1, d.before a0 Z = true) (ws : List Jvm.Cond) (pR1 : Addr) (pR801 : Addr) (pK2 : ClassId) (pR13 : Addr) (h0 : Heap) (n0 : Nat) (Z0 : n0 ≤ h0.size) (V_pR1 : Arv Z h0 pR1 pK2 (.object "java/lang/Integer") (1 : Int32) [(.ref pR801)] .null) (S_ImmutableCollections_EMPTY : Sta Z h0 "java/util/ImmutableCollections" "EMPTY" "Ljava/lang/Object;" (.ref pR13)) :
    oM l yN13 jdk_40_method_47_code 2 (some (.object "java/util/List")) ws ({ frames := 5, cells := 1, slots := 2, locals := 62 } : Room) #[(.ref pR1)] Z h0 (Qof1 Z pR1 pR801 pK2 pR13 h0 n0) := by
  refine MetFree.of_bodySF (plainFor_of_name pn_9) hisR ?_
  intro p e s m args below meth c s₁ Bd hml0 hP hK
  obtain ⟨rfl, hZ, hh⟩ := hP
  have hx := Bd.exec
  have hby := Bd.bytes
  have hml : c.maxLocals = 2 := hml0
  have hown : s.vm.findClass "java/util/List" = some m.cls := findClass_of_methodNamed Bd.named
  have hnm := (name_of_methodNamed Bd.named Bd.method).1
  have X0 : Stand p l e ({ frames := 5, cells := 1, slots := 2, locals := 62 } : Room) s m #[(.ref pR1)] below meth c s₁ [] 0 0 := Stand.of_body Bd
  have e0 : s₁.heap = h0 := by rw [← hh, Bd.state]; rfl
  have N0 := Fr.nil n0
  obtain ⟨clq3, Arq3, Akq3, Asq3, Anq3, Ahq3, Agq3⟩ := id V_pR1
  obtain ⟨T4, h4, X4, e4, E4, A4, D4, U4, st4⟩ := newO X0 hx hZ hown (ow hw 103 rfl) (ow hw 104 rfl) (ow hw 105 rfl) e0 (g := (mkF m 34 #[.val (.ref pR1), .unset] [])) rfl (hb hby d5_34) (by decide) (by decide)
  obtain ⟨bR4, g4⟩ : ∃ z, z = h0.size := ⟨_, rfl⟩
  rw [← g4] at A4 D4 U4 st4
  have K5 : Keep h0 h4 [] := (Keep.refl h0 []).ext E4
  have Z6 : n0 ≤ h4.size := (Nat.le_trans Z0 E4.1)
  have F7 : Fld Z h4 bR4 "java/util/ImmutableCollections$List12" "e0" "Ljava/lang/Object;" .null := D4 (Or.inr (ow hw 116 rfl)) (ty := (.object "java/lang/Object")) (by decide)
  have F8 : Fld Z h4 bR4 "java/util/ImmutableCollections$List12" "e1" "Ljava/lang/Object;" .null := D4 (Or.inr (ow hw 118 rfl)) (ty := (.object "java/lang/Object")) (by decide)
  have c10 : Arv Z h4 pR1 pK2 (.object "java/lang/Integer") (1 : Int32) [(.ref pR801)] .null := V_pR1.ext E4
  obtain ⟨clq9, Arq9, Akq9, Asq9, Anq9, Ahq9, Agq9⟩ := id c10
  have hin11 : ¬ ((0 : Int32) < 0 ∨ clq9.slots.size ≤ ((0 : Int32)).toNatClampNeg) := inb_of Asq9 ⟨by decide, by decide⟩
  have g12 : n0 ≤ bR4 := Nat.le_trans Z0 (Nat.le_of_eq g4.symm)
  have c14 : Sta Z h4 "java/util/ImmutableCollections" "EMPTY" "Ljava/lang/Object;" (.ref pR13) := S_ImmutableCollections_EMPTY.ext E4
  obtain ⟨_, _, ⟨T15, L15, k15, n15⟩, -, X15, ⟨Lc15, hQ15, l15, y15, z15⟩, st15⟩ := X4.specialBack hx (y := yN10) rfl hown (mvT hZ (ow hw 143 rfl)) (mvT hZ (ow hw 144 rfl)) (mvT hZ (ow hw 145 rfl)) (by decide) (backOf (W := 1) (l1I l Z a0 hw [] bR4 pR801 pR13 h4 n0 Z6 A4 F7 g12 c14 F8) hZ (ow hw 145 rfl) (ow hw 105 rfl) (by decide) (by decide)) (g := (mkF m 41 #[.val (.ref pR1), .unset] [(.ref pR801), (.ref bR4), (.ref bR4)])) rfl (by rw [hml]; rfl) (Steps.refl _) (a := bR4) (argsL := [(.ref pR801)]) (rest := [(.ref bR4)]) (lenOf pd_3 rfl) rfl (Nat.le_refl _) (hb hby d5_41) (fun _ _ => ⟨rfl, e4, (by decide : 1 + 0 ≤ _), (by decide : 2 + 0 ≤ _)⟩)
  dsimp only [Pt.U, Pt.locs, Pt.cells, Pt.slots] at X15 l15 y15 z15 st15 hQ15
  subst l15 y15 z15
  obtain ⟨rfl, Nq15, Kq15, x15_0, x15_1, x15_2⟩ := hQ15
  have N15 := Fr.app N0 Nq15
  obtain ⟨Lh15, X15, N15⟩ := own_hide X15 N15
  have K16 : Keep h0 T15.heap [] := K5.trans Kq15 (allS (Or.inr (Nat.le_of_eq g4.symm)) all0)
  have Z17 : n0 ≤ T15.heap.size := (Nat.le_trans Z6 Kq15.1)
  obtain ⟨fs, hr, hrun, hended, hW, hsame⟩ := X15.leave (v := some (.ref bR4)) (fun h => by rw [Bd.returns] at h; cases h)
  refine ⟨_, _, castTop (ef_of1 m pR1) ?_, hrun, hended, _, _, rfl, ?_, ⟨_, rfl⟩, hW, hsame.mono (by decide) (by decide)⟩
  · show oS p e below s₁ m 0 #[.val (.ref pR1), .unset] [] _
    refine XS.aloadN X0.here hx rfl (hb hby d5_0) rfl rfl ?_
    refine X0.arraylength hx (by rw [e0]; exact Arq3.1) (State.isArrayOf_alike hZ.alike Arq3.2.1) (g := (mkF m 1 #[.val (.ref pR1), .unset] [(.ref pR1)])) rfl rfl (hb hby d5_1) _ ?_
    rw [len_of Asq3 Anq3]
    refine XS.tswIn X0.here hx rfl (pc0 := 2) (pc' := 34) (o := 32) rfl (hb hby d5_2) rfl (by decide) (by first | rfl | decide) (by decide) (by decide) ?_
    refine st4 _ ?_
    refine XS.dup X4.here hx rfl (hb hby d5_37) rfl rfl ?_
    refine XS.aloadN X4.here hx rfl (hb hby d5_38) rfl rfl ?_
    refine XS.iconst X4.here hx rfl (hb hby d5_39) ?_
    refine X4.aaload hx (j := (0 : Int32)) (v := (.ref pR801)) (by rw [e4]; exact Arq9.1) (State.isArrayOf_alike hZ.alike Arq9.2.1) rfl Arq9.2.2 hin11 (Has.at Ahq9 hin11 rfl) (g := (mkF m 40 #[.val (.ref pR1), .unset] [(.int 0), (.ref pR1), (.ref bR4), (.ref bR4)])) rfl rfl (hb hby d5_40) _ ?_
    show oS p e below T4 m 41 #[.val (.ref pR1), .unset] [(.ref pR801), (.ref bR4), (.ref bR4)] _
    refine st15.trans ?_
    exact retOut X15 hx Bd.returns rfl (Or.inr (Or.inr (Or.inr (Or.inr ⟨rfl, rfl, rfl⟩)))) (hb hby d5_44) hr
  · show Qof1 Z pR1 pR801 pK2 pR13 h0 n0 _ T15.heap _
    exact ⟨bR4, rfl, N15, K16, (Nat.le_of_eq g4.symm), x15_0, x15_1, x15_2⟩
theorem d1_0 : decode prog_51_method_10_code 0 = .ok (.iload_n 1, 1) := by decide +kernel
theorem d1_1 : decode prog_51_method_10_code 1 = .ok (.anewarray 40, 3) := by decide +kernel
theorem d1_4 : decode prog_51_method_10_code 4 = .ok (.astore_n 2, 1) := by decide +kernel
theorem d1_5 : decode prog_51_method_10_code 5 = .ok (.aload_n 2, 1) := by decide +kernel
theorem d1_6 : decode prog_51_method_10_code 6 = .ok (.iload_n 0, 1) := by decide +kernel
theorem d1_7 : decode prog_51_method_10_code 7 = .ok (.iload_n 1, 1) := by decide +kernel
theorem d1_8 : decode prog_51_method_10_code 8 = .ok (.idiv, 1) := by decide +kernel
theorem d1_9 : decode prog_51_method_10_code 9 = .ok (.invokestatic 42, 3) := by decide +kernel
theorem pd_4 : parseMethodDescriptor "(I)Ljava/lang/Integer;" = some ⟨[.int], some (.object "java/lang/Integer")⟩ := by decide +kernel
theorem d1_12 : decode prog_51_method_10_code 12 = .ok (.invokestatic 46, 3) := by decide +kernel
theorem pd_5 : parseMethodDescriptor "([Ljava/lang/Object;Ljava/lang/Object;)V" = some ⟨[(.array (.object "java/lang/Object")), (.object "java/lang/Object")], none⟩ := by decide +kernel
theorem d1_15 : decode prog_51_method_10_code 15 = .ok (.aload_n 2, 1) := by decide +kernel
theorem d1_16 : decode prog_51_method_10_code 16 = .ok (.astore_n 3, 1) := by decide +kernel
theorem d1_17 : decode prog_51_method_10_code 17 = .ok (.aload_n 3, 1) := by decide +kernel
theorem d1_18 : decode prog_51_method_10_code 18 = .ok (.iconst 0, 1) := by decide +kernel
theorem d1_19 : decode prog_51_method_10_code 19 = .ok (.aload_n 3, 1) := by decide +kernel
theorem d1_20 : decode prog_51_method_10_code 20 = .ok (.iconst 0, 1) := by decide +kernel
theorem d1_21 : decode prog_51_method_10_code 21 = .ok (.aaload, 1) := by decide +kernel
theorem d1_22 : decode prog_51_method_10_code 22 = .ok (.invokevirtual 52, 3) := by decide +kernel
theorem pd_6 : parseMethodDescriptor "()I" = some ⟨[], some .int⟩ := by decide +kernel
theorem d1_25 : decode prog_51_method_10_code 25 = .ok (.iload_n 0, 1) := by decide +kernel
theorem d1_26 : decode prog_51_method_10_code 26 = .ok (.iload_n 1, 1) := by decide +kernel
theorem d1_27 : decode prog_51_method_10_code 27 = .ok (.irem, 1) := by decide +kernel
theorem d1_28 : decode prog_51_method_10_code 28 = .ok (.iadd, 1) := by decide +kernel
theorem d1_29 : decode prog_51_method_10_code 29 = .ok (.invokestatic 42, 3) := by decide +kernel
theorem d1_32 : decode prog_51_method_10_code 32 = .ok (.dup_x2, 1) := by decide +kernel
theorem d1_33 : decode prog_51_method_10_code 33 = .ok (.aastore, 1) := by decide +kernel
theorem d1_34 : decode prog_51_method_10_code 34 = .ok (.pop, 1) := by decide +kernel
theorem d1_35 : decode prog_51_method_10_code 35 = .ok (.aload_n 2, 1) := by decide +kernel
theorem d1_36 : decode prog_51_method_10_code 36 = .ok (.invokestatic 56, 3) := by decide +kernel
theorem pd_7 : parseMethodDescriptor "([Ljava/lang/Object;)Ljava/util/List;" = some ⟨[(.array (.object "java/lang/Object"))], some (.object "java/util/List")⟩ := by decide +kernel
theorem d1_39 : decode prog_51_method_10_code 39 = .ok (.areturn, 1) := by decide +kernel
theorem pn_10 : plainName "com/example/watchful_junction/watchfuljunction/scenario/ProportionalSpec" = true := by first | (simp [plainName, overriddenIn]; done) | decide +kernel
theorem ef_eqs1 (m : MethodId) (pI1 : Int32) : entryFrame m #[(.int pI1), (.int 1)] 4 = mkF m 0 #[.val (.int pI1), .val (.int 1), .unset, .unset] [] := by first | (simp [entryFrame, mkF, argsToLocals, Value.category]; done) | rfl
def Qeqs1 (Z : State) (pI1 : Int32) (pR6 : Addr) (pC8 : Cell) (pR38 : Addr) (h0 : Heap) (n0 : Nat) (v : Option Value) (h : Heap) (L : List Loc) : Prop := ∃ bR44_0 : Addr, ∃ bR29_0 : Addr, v = some (.ref bR44_0) ∧ Fr n0 L ∧ Keep h0 h [] ∧ h0.size ≤ bR44_0 ∧ Exa Z h bR29_0 "java/lang/Integer" ∧ Fld Z h bR29_0 "java/lang/Integer" "value" "I" (.int ((pI1 / (1 : Int32)) + (pI1 % (1 : Int32)))) ∧ Exa Z h bR44_0 "java/util/ImmutableCollections$List12" ∧ Fld Z h bR44_0 "java/util/ImmutableCollections$List12" "e0" "Ljava/lang/Object;" (.ref bR29_0) ∧ Fld Z h bR44_0 "java/util/ImmutableCollections$List12" "e1" "Ljava/lang/Object;" (.ref pR38)
set_option maxRecDepth 65536 in
set_option maxHeartbeats 40000000 in
theorem eqs1 (l : Launch) (Z : State) (a0 : Array Value) (hw : ∀ d ∈ tables_1, d.before a0 Z = true) (ws : List Jvm.Cond) (pI1 : Int32) (pR6 : Addr) (pC8 : Cell) (pR38 : Addr) (h0 : Heap) (n0 : Nat) (Z0 : n0 ≤ h0.size) (S_Integer_IntegerCache_high : Sta Z h0 "java/lang/Integer$IntegerCache" "high" "I" (.int 127)) (S_Integer_IntegerCache_cache : Sta Z h0 "java/lang/Integer$IntegerCache" "cache" "[Ljava/lang/Integer;" (.ref pR6)) (B_pR6 : Bxs Z pR6 pC8 "java/lang/Integer" "I" (256 : Int32) (fun j => .int (j - 128))) (D0 : Old Z n0 h0) (S_ImmutableCollections_EMPTY : Sta Z h0 "java/util/ImmutableCollections" "EMPTY" "Ljava/lang/Object;" (.ref pR38)) :
    oM l yN14 prog_51_method_10_code 4 (some (.object "java/util/List")) ws ({ frames := 6, cells := 4, slots := 5, locals := 75 } : Room) #[(.int pI1), (.int 1)] Z h0 (Qeqs1 Z pI1 pR6 pC8 pR38 h0 n0) := by
  refine MetFree.of_bodySF (plainFor_of_name pn_10) hisR ?_
  intro p e s m args below meth c s₁ Bd hml0 hP hK
  obtain ⟨rfl, hZ, hh⟩ := hP
  have hx := Bd.exec
  have hby := Bd.bytes
  have hml : c.maxLocals = 4 := hml0
  have hown : s.vm.findClass "com/example/watchful_junction/watchfuljunction/scenario/ProportionalSpec" = some m.cls := findClass_of_methodNamed Bd.named
  have hnm := (name_of_methodNamed Bd.named Bd.method).1
  have X0 : Stand p l e ({ frames := 6, cells := 4, slots := 5, locals := 75 } : Room) s m #[(.int pI1), (.int 1)] below meth c s₁ [] 0 0 := Stand.of_body Bd
  have e0 : s₁.heap = h0 := by rw [← hh, Bd.state]; rfl
  have N0 := Fr.nil n0
  obtain ⟨T2, h2, k2, X2, e2, E2, A2, O2, st2⟩ := newR X0 hx hZ hown (ow hw 5 rfl) (ow hw 6 rfl) e0 (g := (mkF m 1 #[.val (.int pI1), .val (.int 1), .unset, .unset] [(.int 1)])) rfl (hb hby d1_1) rfl (by decide) (cap := 1) (by decide) (by decide) (by decide) (by decide)
  obtain ⟨bR2, g2⟩ : ∃ z, z = h0.size := ⟨_, rfl⟩
  rw [← g2] at A2 st2
  have K3 : Keep h0 h2 [] := (Keep.refl h0 []).ext E2
  have Z4 : n0 ≤ h2.size := (Nat.le_trans Z0 E2.1)
  have V2 : Arv Z h2 bR2 k2 (.object "java/lang/Integer") (1 : Int32) [.null] .null := (Arv.new A2 (by decide)).pad (pad_rep [] .null 1)
  have c5 : Sta Z h2 "java/lang/Integer$IntegerCache" "high" "I" (.int 127) := S_Integer_IntegerCache_high.ext E2
  have c7 : Sta Z h2 "java/lang/Integer$IntegerCache" "cache" "[Ljava/lang/Integer;" (.ref pR6) := S_Integer_IntegerCache_cache.ext E2
  have c9 : Old Z n0 h2 := D0.ext E2
  obtain ⟨_, _, ⟨T10, L10, k10, n10⟩, -, X10, ⟨Lc10, hQ10, l10, y10, z10⟩, st10⟩ := Jvm.LawKit.callS X2 hx (y := yN2) hown (mvT hZ (ow hw 7 rfl)) (mvT hZ (ow hw 8 rfl)) (mvT hZ (ow hw 9 rfl)) (mvT hZ (ow hw 10 rfl)) (by decide) (backOf (W := 1) (vo l Z a0 hw [] (pI1 / (1 : Int32)) pR6 pC8 h2 n0 Z4 c5 c7 B_pR6 c9) hZ (ow hw 10 rfl) (ow hw 9 rfl) (by decide) (by decide)) (g := (mkF m 9 #[.val (.int pI1), .val (.int 1), .val (.ref bR2), .unset] [(.int (pI1 / (1 : Int32))), (.ref bR2)])) rfl (by rw [hml]; rfl) (argsL := [(.int (pI1 / (1 : Int32)))]) (rest := [(.ref bR2)]) (lenOf pd_4 rfl) rfl (Nat.le_refl _) (hb hby d1_9) (fun _ _ => ⟨rfl, e2, (by decide : 1 + 1 ≤ _), (by decide : 1 + 1 ≤ _)⟩)
  dsimp only [Pt.U, Pt.locs, Pt.cells, Pt.slots] at X10 l10 y10 z10 st10 hQ10
  subst l10 y10 z10
  obtain ⟨bR10_0, rfl, Nq10, Kq10, x10_0, x10_1⟩ := hQ10
  have N10 := Fr.app N0 Nq10
  obtain ⟨Lh10, X10, N10⟩ := own_hide X10 N10
  have K11 : Keep h0 T10.heap [] := K3.trans Kq10 all0
  have Z12 : n0 ≤ T10.heap.size := (Nat.le_trans Z4 Kq10.1)
  have c13 : Arv Z T10.heap bR2 k2 (.object "java/lang/Integer") (1 : Int32) [.null] .null := V2.keep Kq10 nin0
  have g14 : n0 ≤ bR2 := Nat.le_trans Z0 (Nat.le_of_eq g2.symm)
  obtain ⟨_, _, ⟨T15, L15, k15, n15⟩, -, X15, ⟨Lc15, hQ15, l15, y15, z15⟩, st15⟩ := Jvm.LawKit.callS X10 hx (y := yN12) hown (mvT hZ (ow hw 14 rfl)) (mvT hZ (ow hw 15 rfl)) (mvT hZ (ow hw 16 rfl)) (mvT hZ (ow hw 17 rfl)) (by decide) (backOf (W := 0) (fill1 l Z a0 hw [] bR2 bR10_0 k2 T10.heap n0 Z12 c13 O2 g14 x10_0) hZ (ow hw 17 rfl) (ow hw 16 rfl) (by decide) (by decide)) (g := (mkF m 12 #[.val (.int pI1), .val (.int 1), .val (.ref bR2), .unset] [(.ref bR10_0), (.ref bR2)])) rfl (by rw [hml]; rfl) (argsL := [(.ref bR2), (.ref bR10_0)]) (rest := []) (lenOf pd_5 rfl) rfl (Nat.le_refl _) (hb hby d1_12) (fun _ _ => ⟨rfl, rfl, (by decide : 2 + 0 ≤ _), (by decide : 2 + 0 ≤ _)⟩)
  dsimp only [Pt.U, Pt.locs, Pt.cells, Pt.slots] at X15 l15 y15 z15 st15 hQ15
  subst l15 y15 z15
  obtain ⟨rfl, Nq15, Kq15, x15_0, x15_1⟩ := hQ15
  have N15 := Fr.app N10 Nq15
  obtain ⟨Lh15, X15, N15⟩ := own_hide X15 N15
  have K16 : Keep h0 T15.heap [] := K11.trans Kq15 (allS (Or.inr (Nat.le_of_eq g2.symm)) all0)
  have Z17 : n0 ≤ T15.heap.size := (Nat.le_trans Z12 Kq15.1)
  obtain ⟨clq18, Arq18, Akq18, Asq18, Anq18, Ahq18, Agq18⟩ := id x15_0
  have hin19 : ¬ ((0 : Int32) < 0 ∨ clq18.slots.size ≤ ((0 : Int32)).toNatClampNeg) := inb_of Asq18 ⟨by decide, by decide⟩
  have c20 : Exa Z T15.heap bR10_0 "java/lang/Integer" := x10_0.keep Kq15
  have c21 : Fld Z T15.heap bR10_0 "java/lang/Integer" "value" "I" (.int (pI1 / (1 : Int32))) := x10_1.keep Kq15 (ninS (own_ne_EV c20 (ow hw 132 rfl) x15_0) nin0)
  obtain ⟨cq22, kq22, q22a, q22b, q22c⟩ := isOf hZ rfl c20
  obtain ⟨_, _, ⟨T22, L22, k22, n22⟩, -, X22, ⟨Lc22, hQ22, l22, y22, z22⟩, st22⟩ := X15.virtualBack hx (y := yN3) (z := yN3) hown (mvT hZ (ow hw 19 rfl)) (mvT hZ (ow hw 20 rfl)) (notFace_of_selects (args := #[]) (mvT hZ (ow hw 22 rfl))) (mvT hZ (ow hw 22 rfl)) (mvT hZ (ow hw 21 rfl)) (by decide) (backOf (W := 2) (intV l Z a0 hw [] bR10_0 (pI1 / (1 : Int32)) T15.heap n0 Z17 c21) hZ (ow hw 23 rfl) (ow hw 9 rfl) (by decide) (by decide)) q22a q22c (g := (mkF m 22 #[.val (.int pI1), .val (.int 1), .val (.ref bR2), .val (.ref bR2)] [(.ref bR10_0), (.int 0), (.ref bR2)])) rfl (by rw [hml]; rfl) (Steps.refl _) (argsL := []) (rest := [(.int 0), (.ref bR2)]) (lenOf pd_6 rfl) rfl (Nat.le_refl _) (hb hby d1_22) (fun _ _ => ⟨rfl, rfl, (by decide : 2 + 0 ≤ _), (by decide : 2 + 0 ≤ _)⟩)
  dsimp only [Pt.U, Pt.locs, Pt.cells, Pt.slots] at X22 l22 y22 z22 st22 hQ22
  subst l22 y22 z22
  obtain ⟨rfl, Nq22, e22⟩ := hQ22
  have N22 := Fr.app N15 Nq22
  have c23 : Sta Z T10.heap "java/lang/Integer$IntegerCache" "high" "I" (.int 127) := own_sta_keep c5 Kq10 all0
  have c24 : Sta Z T15.heap "java/lang/Integer$IntegerCache" "high" "I" (.int 127) := own_sta_keep c23 Kq15 (allS (own_plain_V c13) all0)
  have c25 : Sta Z T10.heap "java/lang/Integer$IntegerCache" "cache" "[Ljava/lang/Integer;" (.ref pR6) := own_sta_keep c7 Kq10 all0
  have c26 : Sta Z T15.heap "java/lang/Integer$IntegerCache" "cache" "[Ljava/lang/Integer;" (.ref pR6) := own_sta_keep c25 Kq15 (allS (own_plain_V c13) all0)
  have c27 : Old Z n0 T10.heap := c9.keep Kq10 all0
  have c28 : Old Z n0 T15.heap := c27.keep Kq15 (allS g14 all0)
  obtain ⟨_, _, ⟨T29, L29, k29, n29⟩, -, X29, ⟨Lc29, hQ29, l29, y29, z29⟩, st29⟩ := Jvm.LawKit.callS X22 hx (y := yN2) hown (mvT hZ (ow hw 7 rfl)) (mvT hZ (ow hw 8 rfl)) (mvT hZ (ow hw 9 rfl)) (mvT hZ (ow hw 10 rfl)) (by decide) (backOf (W := 2) (vo l Z a0 hw [] ((pI1 / (1 : Int32)) + (pI1 % (1 : Int32))) pR6 pC8 T15.heap n0 Z17 c24 c26 B_pR6 c28) hZ (ow hw 10 rfl) (ow hw 9 rfl) (by decide) (by decide)) (g := (mkF m 29 #[.val (.int pI1), .val (.int 1), .val (.ref bR2), .val (.ref bR2)] [(.int ((pI1 / (1 : Int32)) + (pI1 % (1 : Int32)))), (.int 0), (.ref bR2)])) rfl (by rw [hml]; rfl) (argsL := [(.int ((pI1 / (1 : Int32)) + (pI1 % (1 : Int32))))]) (rest := [(.int 0), (.ref bR2)]) (lenOf pd_4 rfl) rfl (Nat.le_refl _) (hb hby d1_29) (fun _ _ => ⟨rfl, e22, (by decide : 2 + 1 ≤ _), (by decide : 2 + 1 ≤ _)⟩)
  dsimp only [Pt.U, Pt.locs, Pt.cells, Pt.slots] at X29 l29 y29 z29 st29 hQ29
  subst l29 y29 z29
  obtain ⟨bR29_0, rfl, Nq29, Kq29, x29_0, x29_1⟩ := hQ29
  have N29 := Fr.app N22 Nq29
  obtain ⟨Lh29, X29, N29⟩ := own_hide X29 N29
  have K30 : Keep h0 T29.heap [] := K16.trans Kq29 all0
  have Z31 : n0 ≤ T29.heap.size := (Nat.le_trans Z17 Kq29.1)
  have c33 : Arv Z T29.heap bR2 k2 (.object "java/lang/Integer") (1 : Int32) [(.ref bR10_0)] .null := x15_0.keep Kq29 nin0
  obtain ⟨clq32, Arq32, Akq32, Asq32, Anq32, Ahq32, Agq32⟩ := id c33
  have hin34 : ¬ ((0 : Int32) < 0 ∨ clq32.slots.size ≤ ((0 : Int32)).toNatClampNeg) := inb_of Asq32 ⟨by decide, by decide⟩
  obtain ⟨T35, h35, X35, e35, W35, st35⟩ := stR X29 hx hZ rfl Arq32 (j := (0 : Int32)) hin34 rfl (Sto.ofV Arq32 Akq32 x15_1 (Ins.self x29_0)) (g := (mkF m 33 #[.val (.int pI1), .val (.int 1), .val (.ref bR2), .val (.ref bR2)] [(.ref bR29_0), (.int 0), (.ref bR2), (.ref bR29_0)])) rfl rfl (hb hby d1_33)
  have K36 : Keep h0 h35 [] := K30.wr W35 (Or.inr (Nat.le_of_eq g2.symm))
  have Z37 : n0 ≤ h35.size := (Nat.le_trans Z31 (Keep.of_wr W35).1)
  have N35 := Fr.snoc X35 N29 g14
  obtain ⟨Lh35, X35, N35⟩ := own_hide X35 N35
  have V35 : Arv Z h35 bR2 k2 (.object "java/lang/Integer") (1 : Int32) [(.ref bR29_0)] .null := Arv.set Arq32 Akq32 Asq32 Anq32 Ahq32 Agq32 rfl W35 0 rfl (Nat.le_of_ble_eq_true rfl)
  have c39 : Sta Z h2 "java/util/ImmutableCollections" "EMPTY" "Ljava/lang/Object;" (.ref pR38) := S_ImmutableCollections_EMPTY.ext E2
  have c40 : Sta Z T10.heap "java/util/ImmutableCollections" "EMPTY" "Ljava/lang/Object;" (.ref pR38) := own_sta_keep c39 Kq10 all0
  have c41 : Sta Z T15.heap "java/util/ImmutableCollections" "EMPTY" "Ljava/lang/Object;" (.ref pR38) := own_sta_keep c40 Kq15 (allS (own_plain_V c13) all0)
  have c42 : Sta Z T29.heap "java/util/ImmutableCollections" "EMPTY" "Ljava/lang/Object;" (.ref pR38) := own_sta_keep c41 Kq29 all0
  have c43 : Sta Z h35 "java/util/ImmutableCollections" "EMPTY" "Ljava/lang/Object;" (.ref pR38) := c42.wr W35
  obtain ⟨_, _, ⟨T44, L44, k44, n44⟩, -, X44, ⟨Lc44, hQ44, l44, y44, z44⟩, st44⟩ := Jvm.LawKit.callS X35 hx (y := yN13) hown (mvT hZ (ow hw 26 rfl)) (mvT hZ (ow hw 27 rfl)) (mvT hZ (ow hw 28 rfl)) (mvT hZ (ow hw 29 rfl)) (by decide) (backOf (W := 0) (of1 l Z a0 hw [] bR2 bR29_0 k2 pR38 h35 n0 Z37 V35 c43) hZ (ow hw 29 rfl) (ow hw 28 rfl) (by decide) (by decide)) (g := (mkF m 36 #[.val (.int pI1), .val (.int 1), .val (.ref bR2), .val (.ref bR2)] [(.ref bR2)])) rfl (by rw [hml]; rfl) (argsL := [(.ref bR2)]) (rest := []) (lenOf pd_7 rfl) rfl (Nat.le_refl _) (hb hby d1_36) (fun _ _ => ⟨rfl, e35, (by decide : 3 + 1 ≤ _), (by decide : 3 + 2 ≤ _)⟩)
  dsimp only [Pt.U, Pt.locs, Pt.cells, Pt.slots] at X44 l44 y44 z44 st44 hQ44
  subst l44 y44 z44
  obtain ⟨bR44_0, rfl, Nq44, Kq44, sz44_0, x44_0, x44_1, x44_2⟩ := hQ44
  have N44 := Fr.app N35 Nq44
  obtain ⟨Lh44, X44, N44⟩ := own_hide X44 N44
  have K45 : Keep h0 T44.heap [] := K36.trans Kq44 all0
  have Z46 : n0 ≤ T44.heap.size := (Nat.le_trans Z37 Kq44.1)
  have c47 : Exa Z h35 bR29_0 "java/lang/Integer" := x29_0.wr W35
  have c48 : Exa Z T44.heap bR29_0 "java/lang/Integer" := c47.keep Kq44
  have c49 : Fld Z h35 bR29_0 "java/lang/Integer" "value" "I" (.int ((pI1 / (1 : Int32)) + (pI1 % (1 : Int32)))) := x29_1.other W35 (Or.inl (own_ne_EV c47 (ow hw 132 rfl) V35))
  have c50 : Fld Z T44.heap bR29_0 "java/lang/Integer" "value" "I" (.int ((pI1 / (1 : Int32)) + (pI1 % (1 : Int32)))) := c49.keep Kq44 nin0
  obtain ⟨fs, hr, hrun, hended, hW, hsame⟩ := X44.leave (v := some (.ref bR44_0)) (fun h => by rw [Bd.returns] at h; cases h)
  refine ⟨_, _, castTop (ef_eqs1 m pI1) ?_, hrun, hended, _, _, rfl, ?_, ⟨_, rfl⟩, hW, hsame.mono (by decide) (by decide)⟩
  · show oS p e below s₁ m 0 #[.val (.int pI1), .val (.int 1), .unset, .unset] [] _
    refine XS.iloadN X0.here hx rfl (hb hby d1_0) rfl ?_
    refine st2 _ ?_
    refine XS.astoreN X2.here hx rfl (hb hby d1_4) rfl rfl (l' := #[.val (.int pI1), .val (.int 1), .val (.ref bR2), .unset]) rfl ?_
    refine XS.aloadN X2.here hx rfl (hb hby d1_5) rfl rfl ?_
    refine XS.iloadN X2.here hx rfl (hb hby d1_6) rfl ?_
    refine XS.iloadN X2.here hx rfl (hb hby d1_7) rfl ?_
    refine XS.idiv X2.here hx rfl (hb hby d1_8) rfl (by decide) ?_
    refine st10 _ ?_
    show oS p e below T10 m 12 #[.val (.int pI1), .val (.int 1), .val (.ref bR2), .unset] [(.ref bR10_0), (.ref bR2)] _
    refine st15 _ ?_
    refine XS.aloadN X15.here hx rfl (hb hby d1_15) rfl rfl ?_
    refine XS.astoreN X15.here hx rfl (hb hby d1_16) rfl rfl (l' := #[.val (.int pI1), .val (.int 1), .val (.ref bR2), .val (.ref bR2)]) rfl ?_
    refine XS.aloadN X15.here hx rfl (hb hby d1_17) rfl rfl ?_
    refine XS.iconst X15.here hx rfl (hb hby d1_18) ?_
    refine XS.aloadN X15.here hx rfl (hb hby d1_19) rfl rfl ?_
    refine XS.iconst X15.here hx rfl (hb hby d1_20) ?_
    refine X15.aaload hx (j := (0 : Int32)) (v := (.ref bR10_0)) Arq18.1 (State.isArrayOf_alike hZ.alike Arq18.2.1) rfl Arq18.2.2 hin19 (Has.at Ahq18 hin19 rfl) (g := (mkF m 21 #[.val (.int pI1), .val (.int 1), .val (.ref bR2), .val (.ref bR2)] [(.int 0), (.ref bR2), (.int 0), (.ref bR2)])) rfl rfl (hb hby d1_21) _ ?_
    show oS p e below T15 m 22 #[.val (.int pI1), .val (.int 1), .val (.ref bR2), .val (.ref bR2)] [(.ref bR10_0), (.int 0), (.ref bR2)] _
    refine st22.trans ?_
    refine XS.iloadN X22.here hx rfl (hb hby d1_25) rfl ?_
    refine XS.iloadN X22.here hx rfl (hb hby d1_26) rfl ?_
    show Steps p.tables e below (T22.setTop (mkF m 27 #[.val (.int pI1), .val (.int 1), .val (.ref bR2), .val (.ref bR2)] [(.int 1), (.int pI1), (.int (pI1 / (1 : Int32))), (.int 0), (.ref bR2)])) _
    refine iremM (g := (mkF m 27 #[.val (.int pI1), .val (.int 1), .val (.ref bR2), .val (.ref bR2)] [(.int 1), (.int pI1), (.int (pI1 / (1 : Int32))), (.int 0), (.ref bR2)])) X22 hx rfl (hb hby d1_27) rfl (by decide) ?_
    refine XS.iadd X22.here hx rfl (hb hby d1_28) rfl ?_
    refine st29 _ ?_
    show Steps p.tables e below (T29.setTop (mkF m 32 #[.val (.int pI1), .val (.int 1), .val (.ref bR2), .val (.ref bR2)] [(.ref bR29_0), (.int 0), (.ref bR2)])) _
    jvm_step X29.here [X29.here.top, hx, (hb hby d1_32), Value.category]
    refine st35 _ ?_
    show oS p e below T35 m 34 #[.val (.int pI1), .val (.int 1), .val (.ref bR2), .val (.ref bR2)] [(.ref bR29_0)] _
    refine XS.pop X35.here hx rfl (hb hby d1_34) rfl rfl ?_
    refine XS.aloadN X35.here hx rfl (hb hby d1_35) rfl rfl ?_
    refine st44 _ ?_
    exact retOut X44 hx Bd.returns rfl (Or.inr (Or.inr (Or.inr (Or.inr ⟨rfl, rfl, rfl⟩)))) (hb hby d1_39) hr
  · show Qeqs1 Z pI1 pR6 pC8 pR38 h0 n0 _ T44.heap _
    exact ⟨bR44_0, bR29_0, rfl, N44, K45, (Nat.le_trans K36.1 sz44_0), c48, c50, x44_0, x44_1, x44_2⟩
theorem ef_fill2 (m : MethodId) (pR1 : Addr) (pR2 : Addr) : entryFrame m #[(.ref pR1), (.ref pR2)] 4 = mkF m 0 #[.val (.ref pR1), .val (.ref pR2), .unset, .unset] [] := by first | (simp [entryFrame, mkF, argsToLocals, Value.category]; done) | rfl
def Qfill2 (Z : State) (pR1 : Addr) (pR2 : Addr) (pK3 : ClassId) (h0 : Heap) (n0 : Nat) (v : Option Value) (h : Heap) (L : List Loc) : Prop := v = none ∧ Fr n0 L ∧ Keep h0 h [pR1] ∧ Arv Z h pR1 pK3 (.object "java/lang/Integer") (2 : Int32) [(.ref pR2), (.ref pR2)] .null ∧ Ovr Z pK3 "java/lang/Integer"
set_option maxRecDepth 65536 in
set_option maxHeartbeats 40000000 in
theorem fill2 (l : Launch) (Z : State) (a0 : Array Value) (hw : ∀ d ∈ tables_1, d.before a0 Z = true) (ws : List Jvm.Cond) (pR1 : Addr) (pR2 : Addr) (pK3 : ClassId) (h0 : Heap) (n0 : Nat) (Z0 : n0 ≤ h0.size) (V_pR1 : Arv Z h0 pR1 pK3 (.object "java/lang/Integer") (2 : Int32) [.null, .null] .null) (O_pK3 : Ovr Z pK3 "java/lang/Integer") (g_pR1 : n0 ≤ pR1) (E_pR2 : Exa Z h0 pR2 "java/lang/Integer") :
    oM l yN12 jdk_65_method_117_code 4 none ws ({ frames := 0, cells := 0, slots := 0, locals := 0 } : Room) #[(.ref pR1), (.ref pR2)] Z h0 (Qfill2 Z pR1 pR2 pK3 h0 n0) := by
  refine MetFree.of_bodySF (plainFor_of_name pn_8) hisR ?_
  intro p e s m args below meth c s₁ Bd hml0 hP hK
  obtain ⟨rfl, hZ, hh⟩ := hP
  have hx := Bd.exec
  have hby := Bd.bytes
  have hml : c.maxLocals = 4 := hml0
  have hown : s.vm.findClass "java/util/Arrays" = some m.cls := findClass_of_methodNamed Bd.named
  have hnm := (name_of_methodNamed Bd.named Bd.method).1
  have X0 : Stand p l e ({ frames := 0, cells := 0, slots := 0, locals := 0 } : Room) s m #[(.ref pR1), (.ref pR2)] below meth c s₁ [] 0 0 := Stand.of_body Bd
  have e0 : s₁.heap = h0 := by rw [← hh, Bd.state]; rfl
  have N0 := Fr.nil n0
  obtain ⟨clq4, Arq4, Akq4, Asq4, Anq4, Ahq4, Agq4⟩ := id V_pR1
  obtain ⟨clq5, Arq5, Akq5, Asq5, Anq5, Ahq5, Agq5⟩ := id V_pR1
  have hin6 : ¬ ((0 : Int32) < 0 ∨ clq5.slots.size ≤ ((0 : Int32)).toNatClampNeg) := inb_of Asq5 ⟨by decide, by decide⟩
  obtain ⟨T7, h7, X7, e7, W7, st7⟩ := stR X0 hx hZ e0 Arq5 (j := (0 : Int32)) hin6 rfl (Sto.ofV Arq5 Akq5 O_pK3 (Ins.self E_pR2)) (g := (mkF m 13 #[.val (.ref pR1), .val (.ref pR2), .val (.int 0), .val (.int 2)] [(.ref pR2), (.int 0), (.ref pR1)])) rfl rfl (hb hby d3_13)
  have K8 : Keep h0 h7 [pR1] := (Keep.refl h0 [pR1]).wr W7 (Or.inl (List.mem_of_getElem? (i := 0) rfl))
  have Z9 : n0 ≤ h7.size := (Nat.le_trans Z0 (Keep.of_wr W7).1)
  have N7 := Fr.snoc X7 N0 g_pR1
  obtain ⟨Lh7, X7, N7⟩ := own_hide X7 N7
  have V7 : Arv Z h7 pR1 pK3 (.object "java/lang/Integer") (2 : Int32) [(.ref pR2), .null] .null := Arv.set Arq5 Akq5 Asq5 Anq5 Ahq5 Agq5 rfl W7 0 rfl (Nat.le_of_ble_eq_true rfl)
  obtain ⟨clq10, Arq10, Akq10, Asq10, Anq10, Ahq10, Agq10⟩ := id V7
  have hin11 : ¬ ((1 : Int32) < 0 ∨ clq10.slots.size ≤ ((1 : Int32)).toNatClampNeg) := inb_of Asq10 ⟨by decide, by decide⟩
  have c12 : Exa Z h7 pR2 "java/lang/Integer" := E_pR2.wr W7
  obtain ⟨T13, h13, X13, e13, W13, st13⟩ := stR X7 hx hZ e7 Arq10 (j := (1 : Int32)) hin11 rfl (Sto.ofV Arq10 Akq10 O_pK3 (Ins.self c12)) (g := (mkF m 13 #[.val (.ref pR1), .val (.ref pR2), .val (.int 1), .val (.int 2)] [(.ref pR2), (.int 1), (.ref pR1)])) rfl rfl (hb hby d3_13)
  have K14 : Keep h0 h13 [pR1] := K8.wr W13 (Or.inl (List.mem_of_getElem? (i := 0) rfl))
  have Z15 : n0 ≤ h13.size := (Nat.le_trans Z9 (Keep.of_wr W13).1)
  have N13 := Fr.snoc X13 N7 g_pR1
  obtain ⟨Lh13, X13, N13⟩ := own_hide X13 N13
  have V13 : Arv Z h13 pR1 pK3 (.object "java/lang/Integer") (2 : Int32) [(.ref pR2), (.ref pR2)] .null := Arv.set Arq10 Akq10 Asq10 Anq10 Ahq10 Agq10 rfl W13 1 rfl (Nat.le_of_ble_eq_true rfl)
  obtain ⟨fs, hr, hrun, hended, hW, hsame⟩ := X13.leave (v := none) (fun _ => rfl)
  refine ⟨_, _, castTop (ef_fill2 m pR1 pR2) ?_, hrun, hended, _, _, rfl, ?_, ⟨_, rfl⟩, hW, hsame.mono (by decide) (by decide)⟩
  · show oS p e below s₁ m 0 #[.val (.ref pR1), .val (.ref pR2), .unset, .unset] [] _
    refine XS.iconst X0.here hx rfl (hb hby d3_0) ?_
    refine XS.istoreN X0.here hx rfl (hb hby d3_1) rfl (l' := #[.val (.ref pR1), .val (.ref pR2), .val (.int 0), .unset]) rfl ?_
    refine XS.aloadN X0.here hx rfl (hb hby d3_2) rfl rfl ?_
    refine X0.arraylength hx (by rw [e0]; exact Arq4.1) (State.isArrayOf_alike hZ.alike Arq4.2.1) (g := (mkF m 3 #[.val (.ref pR1), .val (.ref pR2), .val (.int 0), .unset] [(.ref pR1)])) rfl rfl (hb hby d3_3) _ ?_
    rw [len_of Asq4 Anq4]
    refine XS.istoreN X0.here hx rfl (hb hby d3_4) rfl (l' := #[.val (.ref pR1), .val (.ref pR2), .val (.int 0), .val (.int 2)]) rfl ?_
    refine XS.iloadN X0.here hx rfl (hb hby d3_5) rfl ?_
    refine XS.iloadN X0.here hx rfl (hb hby d3_6) rfl ?_
    refine XS.icmpNo X0.here hx rfl (hb hby d3_7) rfl (tlt (by decide : (0 : Int32) < (2 : Int32))).2.1 ?_
    show oS p e below s₁ m 10 #[.val (.ref pR1), .val (.ref pR2), .val (.int 0), .val (.int 2)] [] _
    refine XS.aloadN X0.here hx rfl (hb hby d3_10) rfl rfl ?_
    refine XS.iloadN X0.here hx rfl (hb hby d3_11) rfl ?_
    refine XS.aloadN X0.here hx rfl (hb hby d3_12) rfl rfl ?_
    refine st7 _ ?_
    refine XS.iinc X7.here hx rfl (hb hby d3_14) rfl (l' := #[.val (.ref pR1), .val (.ref pR2), .val (.int 1), .val (.int 2)]) rfl ?_
    refine XS.goto X7.here hx rfl (pc0 := 17) (pc' := 5) rfl (hb hby d3_17) (by decide) (by decide) ?_
    refine XS.iloadN X7.here hx rfl (hb hby d3_5) rfl ?_
    refine XS.iloadN X7.here hx rfl (hb hby d3_6) rfl ?_
    show oS p e below T7 m 7 #[.val (.ref pR1), .val (.ref pR2), .val (.int 1), .val (.int 2)] [(.int 2), (.int 1)] _
    refine XS.icmpNo X7.here hx rfl (hb hby d3_7) rfl (tlt (by decide : (1 : Int32) < (2 : Int32))).2.1 ?_
    refine XS.aloadN X7.here hx rfl (hb hby d3_10) rfl rfl ?_
    refine XS.iloadN X7.here hx rfl (hb hby d3_11) rfl ?_
    refine XS.aloadN X7.here hx rfl (hb hby d3_12) rfl rfl ?_
    refine st13 _ ?_
    refine XS.iinc X13.here hx rfl (hb hby d3_14) rfl (l' := #[.val (.ref pR1), .val (.ref pR2), .val (.int 2), .val (.int 2)]) rfl ?_
    refine XS.goto X13.here hx rfl (pc0 := 17) (pc' := 5) rfl (hb hby d3_17) (by decide) (by decide) ?_
    refine XS.iloadN X13.here hx rfl (hb hby d3_5) rfl ?_
    show oS p e below T13 m 6 #[.val (.ref pR1), .val (.ref pR2), .val (.int 2), .val (.int 2)] [(.int 2)] _
    refine XS.iloadN X13.here hx rfl (hb hby d3_6) rfl ?_
    refine XS.icmpYes X13.here hx rfl (pc0 := 7) (pc' := 20) rfl (hb hby d3_7) rfl (flt (by decide : ¬ ((2 : Int32) < (2 : Int32)))).2.1 (by decide) (by decide) ?_
    exact X13.returnOut hx Bd.returns (hb hby d3_20) hr
  · show Qfill2 Z pR1 pR2 pK3 h0 n0 _ T13.heap _
    rw [e13]
    exact ⟨rfl, N13, K14, V13, O_pK3⟩
theorem d5_45 : decode jdk_40_method_47_code 45 = .ok (.new 96, 3) := by decide +kernel
theorem d5_48 : decode jdk_40_method_47_code 48 = .ok (.dup, 1) := by decide +kernel
theorem d5_49 : decode jdk_40_method_47_code 49 = .ok (.aload_n 0, 1) := by decide +kernel
theorem d5_50 : decode jdk_40_method_47_code 50 = .ok (.iconst 0, 1) := by decide +kernel
theorem d5_51 : decode jdk_40_method_47_code 51 = .ok (.aaload, 1) := by decide +kernel
theorem d5_52 : decode jdk_40_method_47_code 52 = .ok (.aload_n 0, 1) := by decide +kernel
theorem d5_53 : decode jdk_40_method_47_code 53 = .ok (.iconst 1, 1) := by decide +kernel
theorem d5_54 : decode jdk_40_method_47_code 54 = .ok (.aaload, 1) := by decide +kernel
theorem d5_55 : decode jdk_40_method_47_code 55 = .ok (.invokespecial 100, 3) := by decide +kernel
theorem pd_8 : parseMethodDescriptor "(Ljava/lang/Object;Ljava/lang/Object;)V" = some ⟨[(.object "java/lang/Object"), (.object "java/lang/Object")], none⟩ := by decide +kernel
theorem d5_58 : decode jdk_40_method_47_code 58 = .ok (.areturn, 1) := by decide +kernel
theorem ef_of2 (m : MethodId) (pR1 : Addr) : entryFrame m #[(.ref pR1)] 2 = mkF m 0 #[.val (.ref pR1), .unset] [] := by first | (simp [entryFrame, mkF, argsToLocals, Value.category]; done) | rfl
def Qof2 (Z : State) (pR1 : Addr) (pR801 : Addr) (pR802 : Addr) (pK2 : ClassId) (h0 : Heap) (n0 : Nat) (v : Option Value) (h : Heap) (L : List Loc) : Prop := ∃ bR4 : Addr, v = some (.ref bR4) ∧ Fr n0 L ∧ Keep h0 h [] ∧ h0.size ≤ bR4 ∧ Exa Z h bR4 "java/util/ImmutableCollections$List12" ∧ Fld Z h bR4 "java/util/ImmutableCollections$List12" "e0" "Ljava/lang/Object;" (.ref pR801) ∧ Fld Z h bR4 "java/util/ImmutableCollections$List12" "e1" "Ljava/lang/Object;" (.ref pR802)
set_option maxRecDepth 65536 in
set_option maxHeartbeats 40000000 in
theorem of2 (l : Launch) (Z : State) (a0 : Array Value) (hw : ∀ d ∈ tables_1, d.before a0 Z = true) (ws : List Jvm.Cond) (pR1 : Addr) (pR801 : Addr) (pR802 : Addr) (pK2 : ClassId) (h0 : Heap) (n0 : Nat) (Z0 : n0 ≤ h0.size) (V_pR1 : Arv Z h0 pR1 pK2 (.object "java/lang/Integer") (2 : Int32) [(.ref pR801), (.ref pR802)] .null) :
    oM l yN13 jdk_40_method_47_code 2 (some (.object "java/util/List")) ws ({ frames := 5, cells := 1, slots := 2, locals := 63 } : Room) #[(.ref pR1)] Z h0 (Qof2 Z pR1 pR801 pR802 pK2 h0 n0) := by
  refine MetFree.of_bodySF (plainFor_of_name pn_9) hisR ?_
  intro p e s m args below meth c s₁ Bd hml0 hP hK
  obtain ⟨rfl, hZ, hh⟩ := hP
  have hx := Bd.exec
  have hby := Bd.bytes
  have hml : c.maxLocals = 2 := hml0
  have hown : s.vm.findClass "java/util/List" = some m.cls := findClass_of_methodNamed Bd.named
  have hnm := (name_of_methodNamed Bd.named Bd.method).1
  have X0 : Stand p l e ({ frames := 5, cells := 1, slots := 2, locals := 63 } : Room) s m #[(.ref pR1)] below meth c s₁ [] 0 0 := Stand.of_body Bd
  have e0 : s₁.heap = h0 := by rw [← hh, Bd.state]; rfl
  have N0 := Fr.nil n0
  obtain ⟨clq3, Arq3, Akq3, Asq3, Anq3, Ahq3, Agq3⟩ := id V_pR1
  obtain ⟨T4, h4, X4, e4, E4, A4, D4, U4, st4⟩ := newO X0 hx hZ hown (ow hw 103 rfl) (ow hw 104 rfl) (ow hw 105 rfl) e0 (g := (mkF m 45 #[.val (.ref pR1), .unset] [])) rfl (hb hby d5_45) (by decide) (by decide)
  obtain ⟨bR4, g4⟩ : ∃ z, z = h0.size := ⟨_, rfl⟩
  rw [← g4] at A4 D4 U4 st4
  have K5 : Keep h0 h4 [] := (Keep.refl h0 []).ext E4
  have Z6 : n0 ≤ h4.size := (Nat.le_trans Z0 E4.1)
  have F7 : Fld Z h4 bR4 "java/util/ImmutableCollections$List12" "e0" "Ljava/lang/Object;" .null := D4 (Or.inr (ow hw 116 rfl)) (ty := (.object "java/lang/Object")) (by decide)
  have F8 : Fld Z h4 bR4 "java/util/ImmutableCollections$List12" "e1" "Ljava/lang/Object;" .null := D4 (Or.inr (ow hw 118 rfl)) (ty := (.object "java/lang/Object")) (by decide)
  have c10 : Arv Z h4 pR1 pK2 (.object "java/lang/Integer") (2 : Int32) [(.ref pR801), (.ref pR802)] .null := V_pR1.ext E4
  obtain ⟨clq9, Arq9, Akq9, Asq9, Anq9, Ahq9, Agq9⟩ := id c10
  have hin11 : ¬ ((0 : Int32) < 0 ∨ clq9.slots.size ≤ ((0 : Int32)).toNatClampNeg) := inb_of Asq9 ⟨by decide, by decide⟩
  obtain ⟨clq12, Arq12, Akq12, Asq12, Anq12, Ahq12, Agq12⟩ := id c10
  have hin13 : ¬ ((1 : Int32) < 0 ∨ clq12.slots.size ≤ ((1 : Int32)).toNatClampNeg) := inb_of Asq12 ⟨by decide, by decide⟩
  have g14 : n0 ≤ bR4 := Nat.le_trans Z0 (Nat.le_of_eq g4.symm)
  obtain ⟨_, _, ⟨T15, L15, k15, n15⟩, -, X15, ⟨Lc15, hQ15, l15, y15, z15⟩, st15⟩ := X4.specialBack hx (y := yN11) rfl hown (mvT hZ (ow hw 106 rfl)) (mvT hZ (ow hw 107 rfl)) (mvT hZ (ow hw 109 rfl)) (by decide) (backOf (W := 1) (l2I l Z a0 hw [] bR4 pR801 pR802 h4 n0 Z6 A4 F7 g14 F8) hZ (ow hw 109 rfl) (ow hw 105 rfl) (by decide) (by decide)) (g := (mkF m 55 #[.val (.ref pR1), .unset] [(.ref pR802), (.ref pR801), (.ref bR4), (.ref bR4)])) rfl (by rw [hml]; rfl) (Steps.refl _) (a := bR4) (argsL := [(.ref pR801), (.ref pR802)]) (rest := [(.ref bR4)]) (lenOf pd_8 rfl) rfl (Nat.le_refl _) (hb hby d5_55) (fun _ _ => ⟨rfl, e4, (by decide : 1 + 0 ≤ _), (by decide : 2 + 0 ≤ _)⟩)
  dsimp only [Pt.U, Pt.locs, Pt.cells, Pt.slots] at X15 l15 y15 z15 st15 hQ15
  subst l15 y15 z15
  obtain ⟨rfl, Nq15, Kq15, x15_0, x15_1, x15_2⟩ := hQ15
  have N15 := Fr.app N0 Nq15
  obtain ⟨Lh15, X15, N15⟩ := own_hide X15 N15
  have K16 : Keep h0 T15.heap [] := K5.trans Kq15 (allS (Or.inr (Nat.le_of_eq g4.symm)) all0)
  have Z17 : n0 ≤ T15.heap.size := (Nat.le_trans Z6 Kq15.1)
  obtain ⟨fs, hr, hrun, hended, hW, hsame⟩ := X15.leave (v := some (.ref bR4)) (fun h => by rw [Bd.returns] at h; cases h)
  refine ⟨_, _, castTop (ef_of2 m pR1) ?_, hrun, hended, _, _, rfl, ?_, ⟨_, rfl⟩, hW, hsame.mono (by decide) (by decide)⟩
  · show oS p e below s₁ m 0 #[.val (.ref pR1), .unset] [] _
    refine XS.aloadN X0.here hx rfl (hb hby d5_0) rfl rfl ?_
    refine X0.arraylength hx (by rw [e0]; exact Arq3.1) (State.isArrayOf_alike hZ.alike Arq3.2.1) (g := (mkF m 1 #[.val (.ref pR1), .unset] [(.ref pR1)])) rfl rfl (hb hby d5_1) _ ?_
    rw [len_of Asq3 Anq3]
    refine XS.tswIn X0.here hx rfl (pc0 := 2) (pc' := 45) (o := 43) rfl (hb hby d5_2) rfl (by decide) (by first | rfl | decide) (by decide) (by decide) ?_
    refine st4 _ ?_
    refine XS.dup X4.here hx rfl (hb hby d5_48) rfl rfl ?_
    refine XS.aloadN X4.here hx rfl (hb hby d5_49) rfl rfl ?_
    refine XS.iconst X4.here hx rfl (hb hby d5_50) ?_
    refine X4.aaload hx (j := (0 : Int32)) (v := (.ref pR801)) (by rw [e4]; exact Arq9.1) (State.isArrayOf_alike hZ.alike Arq9.2.1) rfl Arq9.2.2 hin11 (Has.at Ahq9 hin11 rfl) (g := (mkF m 51 #[.val (.ref pR1), .unset] [(.int 0), (.ref pR1), (.ref bR4), (.ref bR4)])) rfl rfl (hb hby d5_51) _ ?_
    show oS p e below T4 m 52 #[.val (.ref pR1), .unset] [(.ref pR801), (.ref bR4), (.ref bR4)] _
    refine XS.aloadN X4.here hx rfl (hb hby d5_52) rfl rfl ?_
    refine XS.iconst X4.here hx rfl (hb hby d5_53) ?_
    refine X4.aaload hx (j := (1 : Int32)) (v := (.ref pR802)) (by rw [e4]; exact Arq12.1) (State.isArrayOf_alike hZ.alike Arq12.2.1) rfl Arq12.2.2 hin13 (Has.at Ahq12 hin13 rfl) (g := (mkF m 54 #[.val (.ref pR1), .unset] [(.int 1), (.ref pR1), (.ref pR801), (.ref bR4), (.ref bR4)])) rfl rfl (hb hby d5_54) _ ?_
    refine st15.trans ?_
    exact retOut X15 hx Bd.returns rfl (Or.inr (Or.inr (Or.inr (Or.inr ⟨rfl, rfl, rfl⟩)))) (hb hby d5_58) hr
  · show Qof2 Z pR1 pR801 pR802 pK2 h0 n0 _ T15.heap _
    exact ⟨bR4, rfl, N15, K16, (Nat.le_of_eq g4.symm), x15_0, x15_1, x15_2⟩
theorem ef_eqs2 (m : MethodId) (pI1 : Int32) : entryFrame m #[(.int pI1), (.int 2)] 4 = mkF m 0 #[.val (.int pI1), .val (.int 2), .unset, .unset] [] := by first | (simp [entryFrame, mkF, argsToLocals, Value.category]; done) | rfl
def Qeqs2 (Z : State) (pI1 : Int32) (pR6 : Addr) (pC8 : Cell) (h0 : Heap) (n0 : Nat) (v : Option Value) (h : Heap) (L : List Loc) : Prop := ∃ bR38_0 : Addr, ∃ bR10_0 : Addr, ∃ bR29_0 : Addr, v = some (.ref bR38_0) ∧ Fr n0 L ∧ Keep h0 h [] ∧ h0.size ≤ bR38_0 ∧ Exa Z h bR10_0 "java/lang/Integer" ∧ Fld Z h bR10_0 "java/lang/Integer" "value" "I" (.int (pI1 / (2 : Int32))) ∧ Exa Z h bR29_0 "java/lang/Integer" ∧ Fld Z h bR29_0 "java/lang/Integer" "value" "I" (.int ((pI1 / (2 : Int32)) + (pI1 % (2 : Int32)))) ∧ Exa Z h bR38_0 "java/util/ImmutableCollections$List12" ∧ Fld Z h bR38_0 "java/util/ImmutableCollections$List12" "e0" "Ljava/lang/Object;" (.ref bR29_0) ∧ Fld Z h bR38_0 "java/util/ImmutableCollections$List12" "e1" "Ljava/lang/Object;" (.ref bR10_0)
set_option maxRecDepth 65536 in
set_option maxHeartbeats 40000000 in
theorem eqs2 (l : Launch) (Z : State) (a0 : Array Value) (hw : ∀ d ∈ tables_1, d.before a0 Z = true) (ws : List Jvm.Cond) (pI1 : Int32) (pR6 : Addr) (pC8 : Cell) (h0 : Heap) (n0 : Nat) (Z0 : n0 ≤ h0.size) (S_Integer_IntegerCache_high : Sta Z h0 "java/lang/Integer$IntegerCache" "high" "I" (.int 127)) (S_Integer_IntegerCache_cache : Sta Z h0 "java/lang/Integer$IntegerCache" "cache" "[Ljava/lang/Integer;" (.ref pR6)) (B_pR6 : Bxs Z pR6 pC8 "java/lang/Integer" "I" (256 : Int32) (fun j => .int (j - 128))) (D0 : Old Z n0 h0) :
    oM l yN14 prog_51_method_10_code 4 (some (.object "java/util/List")) ws ({ frames := 6, cells := 4, slots := 6, locals := 76 } : Room) #[(.int pI1), (.int 2)] Z h0 (Qeqs2 Z pI1 pR6 pC8 h0 n0) := by
  refine MetFree.of_bodySF (plainFor_of_name pn_10) hisR ?_
  intro p e s m args below meth c s₁ Bd hml0 hP hK
  obtain ⟨rfl, hZ, hh⟩ := hP
  have hx := Bd.exec
  have hby := Bd.bytes
  have hml : c.maxLocals = 4 := hml0
  have hown : s.vm.findClass "com/example/watchful_junction/watchfuljunction/scenario/ProportionalSpec" = some m.cls := findClass_of_methodNamed Bd.named
  have hnm := (name_of_methodNamed Bd.named Bd.method).1
  have X0 : Stand p l e ({ frames := 6, cells := 4, slots := 6, locals := 76 } : Room) s m #[(.int pI1), (.int 2)] below meth c s₁ [] 0 0 := Stand.of_body Bd
  have e0 : s₁.heap = h0 := by rw [← hh, Bd.state]; rfl
  have N0 := Fr.nil n0
  obtain ⟨T2, h2, k2, X2, e2, E2, A2, O2, st2⟩ := newR X0 hx hZ hown (ow hw 5 rfl) (ow hw 6 rfl) e0 (g := (mkF m 1 #[.val (.int pI1), .val (.int 2), .unset, .unset] [(.int 2)])) rfl (hb hby d1_1) rfl (by decide) (cap := 2) (by decide) (by decide) (by decide) (by decide)
  obtain ⟨bR2, g2⟩ : ∃ z, z = h0.size := ⟨_, rfl⟩
  rw [← g2] at A2 st2
  have K3 : Keep h0 h2 [] := (Keep.refl h0 []).ext E2
  have Z4 : n0 ≤ h2.size := (Nat.le_trans Z0 E2.1)
  have V2 : Arv Z h2 bR2 k2 (.object "java/lang/Integer") (2 : Int32) [.null, .null] .null := (Arv.new A2 (by decide)).pad (pad_rep [] .null 2)
  have c5 : Sta Z h2 "java/lang/Integer$IntegerCache" "high" "I" (.int 127) := S_Integer_IntegerCache_high.ext E2
  have c7 : Sta Z h2 "java/lang/Integer$IntegerCache" "cache" "[Ljava/lang/Integer;" (.ref pR6) := S_Integer_IntegerCache_cache.ext E2
  have c9 : Old Z n0 h2 := D0.ext E2
  obtain ⟨_, _, ⟨T10, L10, k10, n10⟩, -, X10, ⟨Lc10, hQ10, l10, y10, z10⟩, st10⟩ := Jvm.LawKit.callS X2 hx (y := yN2) hown (mvT hZ (ow hw 7 rfl)) (mvT hZ (ow hw 8 rfl)) (mvT hZ (ow hw 9 rfl)) (mvT hZ (ow hw 10 rfl)) (by decide) (backOf (W := 1) (vo l Z a0 hw [] (pI1 / (2 : Int32)) pR6 pC8 h2 n0 Z4 c5 c7 B_pR6 c9) hZ (ow hw 10 rfl) (ow hw 9 rfl) (by decide) (by decide)) (g := (mkF m 9 #[.val (.int pI1), .val (.int 2), .val (.ref bR2), .unset] [(.int (pI1 / (2 : Int32))), (.ref bR2)])) rfl (by rw [hml]; rfl) (argsL := [(.int (pI1 / (2 : Int32)))]) (rest := [(.ref bR2)]) (lenOf pd_4 rfl) rfl (Nat.le_refl _) (hb hby d1_9) (fun _ _ => ⟨rfl, e2, (by decide : 1 + 1 ≤ _), (by decide : 2 + 1 ≤ _)⟩)
  dsimp only [Pt.U, Pt.locs, Pt.cells, Pt.slots] at X10 l10 y10 z10 st10 hQ10
  subst l10 y10 z10
  obtain ⟨bR10_0, rfl, Nq10, Kq10, x10_0, x10_1⟩ := hQ10
  have N10 := Fr.app N0 Nq10
  obtain ⟨Lh10, X10, N10⟩ := own_hide X10 N10
  have K11 : Keep h0 T10.heap [] := K3.trans Kq10 all0
  have Z12 : n0 ≤ T10.heap.size := (Nat.le_trans Z4 Kq10.1)
  have c13 : Arv Z T10.heap bR2 k2 (.object "java/lang/Integer") (2 : Int32) [.null, .null] .null := V2.keep Kq10 nin0
  have g14 : n0 ≤ bR2 := Nat.le_trans Z0 (Nat.le_of_eq g2.symm)
  obtain ⟨_, _, ⟨T15, L15, k15, n15⟩, -, X15, ⟨Lc15, hQ15, l15, y15, z15⟩, st15⟩ := Jvm.LawKit.callS X10 hx (y := yN12) hown (mvT hZ (ow hw 14 rfl)) (mvT hZ (ow hw 15 rfl)) (mvT hZ (ow hw 16 rfl)) (mvT hZ (ow hw 17 rfl)) (by decide) (backOf (W := 0) (fill2 l Z a0 hw [] bR2 bR10_0 k2 T10.heap n0 Z12 c13 O2 g14 x10_0) hZ (ow hw 17 rfl) (ow hw 16 rfl) (by decide) (by decide)) (g := (mkF m 12 #[.val (.int pI1), .val (.int 2), .val (.ref bR2), .unset] [(.ref bR10_0), (.ref bR2)])) rfl (by rw [hml]; rfl) (argsL := [(.ref bR2), (.ref bR10_0)]) (rest := []) (lenOf pd_5 rfl) rfl (Nat.le_refl _) (hb hby d1_12) (fun _ _ => ⟨rfl, rfl, (by decide : 2 + 0 ≤ _), (by decide : 3 + 0 ≤ _)⟩)
  dsimp only [Pt.U, Pt.locs, Pt.cells, Pt.slots] at X15 l15 y15 z15 st15 hQ15
  subst l15 y15 z15
  obtain ⟨rfl, Nq15, Kq15, x15_0, x15_1⟩ := hQ15
  have N15 := Fr.app N10 Nq15
  obtain ⟨Lh15, X15, N15⟩ := own_hide X15 N15
  have K16 : Keep h0 T15.heap [] := K11.trans Kq15 (allS (Or.inr (Nat.le_of_eq g2.symm)) all0)
  have Z17 : n0 ≤ T15.heap.size := (Nat.le_trans Z12 Kq15.1)
  obtain ⟨clq18, Arq18, Akq18, Asq18, Anq18, Ahq18, Agq18⟩ := id x15_0
  have hin19 : ¬ ((0 : Int32) < 0 ∨ clq18.slots.size ≤ ((0 : Int32)).toNatClampNeg) := inb_of Asq18 ⟨by decide, by decide⟩
  have c20 : Exa Z T15.heap bR10_0 "java/lang/Integer" := x10_0.keep Kq15
  have c21 : Fld Z T15.heap bR10_0 "java/lang/Integer" "value" "I" (.int (pI1 / (2 : Int32))) := x10_1.keep Kq15 (ninS (own_ne_EV c20 (ow hw 132 rfl) x15_0) nin0)
  obtain ⟨cq22, kq22, q22a, q22b, q22c⟩ := isOf hZ rfl c20
  obtain ⟨_, _, ⟨T22, L22, k22, n22⟩, -, X22, ⟨Lc22, hQ22, l22, y22, z22⟩, st22⟩ := X15.virtualBack hx (y := yN3) (z := yN3) hown (mvT hZ (ow hw 19 rfl)) (mvT hZ (ow hw 20 rfl)) (notFace_of_selects (args := #[]) (mvT hZ (ow hw 22 rfl))) (mvT hZ (ow hw 22 rfl)) (mvT hZ (ow hw 21 rfl)) (by decide) (backOf (W := 2) (intV l Z a0 hw [] bR10_0 (pI1 / (2 : Int32)) T15.heap n0 Z17 c21) hZ (ow hw 23 rfl) (ow hw 9 rfl) (by decide) (by decide)) q22a q22c (g := (mkF m 22 #[.val (.int pI1), .val (.int 2), .val (.ref bR2), .val (.ref bR2)] [(.ref bR10_0), (.int 0), (.ref bR2)])) rfl (by rw [hml]; rfl) (Steps.refl _) (argsL := []) (rest := [(.int 0), (.ref bR2)]) (lenOf pd_6 rfl) rfl (Nat.le_refl _) (hb hby d1_22) (fun _ _ => ⟨rfl, rfl, (by decide : 2 + 0 ≤ _), (by decide : 3 + 0 ≤ _)⟩)
  dsimp only [Pt.U, Pt.locs, Pt.cells, Pt.slots] at X22 l22 y22 z22 st22 hQ22
  subst l22 y22 z22
  obtain ⟨rfl, Nq22, e22⟩ := hQ22
  have N22 := Fr.app N15 Nq22
  have c23 : Sta Z T10.heap "java/lang/Integer$IntegerCache" "high" "I" (.int 127) := own_sta_keep c5 Kq10 all0
  have c24 : Sta Z T15.heap "java/lang/Integer$IntegerCache" "high" "I" (.int 127) := own_sta_keep c23 Kq15 (allS (own_plain_V c13) all0)
  have c25 : Sta Z T10.heap "java/lang/Integer$IntegerCache" "cache" "[Ljava/lang/Integer;" (.ref pR6) := own_sta_keep c7 Kq10 all0
  have c26 : Sta Z T15.heap "java/lang/Integer$IntegerCache" "cache" "[Ljava/lang/Integer;" (.ref pR6) := own_sta_keep c25 Kq15 (allS (own_plain_V c13) all0)
  have c27 : Old Z n0 T10.heap := c9.keep Kq10 all0
  have c28 : Old Z n0 T15.heap := c27.keep Kq15 (allS g14 all0)
  obtain ⟨_, _, ⟨T29, L29, k29, n29⟩, -, X29, ⟨Lc29, hQ29, l29, y29, z29⟩, st29⟩ := Jvm.LawKit.callS X22 hx (y := yN2) hown (mvT hZ (ow hw 7 rfl)) (mvT hZ (ow hw 8 rfl)) (mvT hZ (ow hw 9 rfl)) (mvT hZ (ow hw 10 rfl)) (by decide) (backOf (W := 2) (vo l Z a0 hw [] ((pI1 / (2 : Int32)) + (pI1 % (2 : Int32))) pR6 pC8 T15.heap n0 Z17 c24 c26 B_pR6 c28) hZ (ow hw 10 rfl) (ow hw 9 rfl) (by decide) (by decide)) (g := (mkF m 29 #[.val (.int pI1), .val (.int 2), .val (.ref bR2), .val (.ref bR2)] [(.int ((pI1 / (2 : Int32)) + (pI1 % (2 : Int32)))), (.int 0), (.ref bR2)])) rfl (by rw [hml]; rfl) (argsL := [(.int ((pI1 / (2 : Int32)) + (pI1 % (2 : Int32))))]) (rest := [(.int 0), (.ref bR2)]) (lenOf pd_4 rfl) rfl (Nat.le_refl _) (hb hby d1_29) (fun _ _ => ⟨rfl, e22, (by decide : 2 + 1 ≤ _), (by decide : 3 + 1 ≤ _)⟩)
  dsimp only [Pt.U, Pt.locs, Pt.cells, Pt.slots] at X29 l29 y29 z29 st29 hQ29
  subst l29 y29 z29
  obtain ⟨bR29_0, rfl, Nq29, Kq29, x29_0, x29_1⟩ := hQ29
  have N29 := Fr.app N22 Nq29
  obtain ⟨Lh29, X29, N29⟩ := own_hide X29 N29
  have K30 : Keep h0 T29.heap [] := K16.trans Kq29 all0
  have Z31 : n0 ≤ T29.heap.size := (Nat.le_trans Z17 Kq29.1)
  have c33 : Arv Z T29.heap bR2 k2 (.object "java/lang/Integer") (2 : Int32) [(.ref bR10_0), (.ref bR10_0)] .null := x15_0.keep Kq29 nin0
  obtain ⟨clq32, Arq32, Akq32, Asq32, Anq32, Ahq32, Agq32⟩ := id c33
  have hin34 : ¬ ((0 : Int32) < 0 ∨ clq32.slots.size ≤ ((0 : Int32)).toNatClampNeg) := inb_of Asq32 ⟨by decide, by decide⟩
  obtain ⟨T35, h35, X35, e35, W35, st35⟩ := stR X29 hx hZ rfl Arq32 (j := (0 : Int32)) hin34 rfl (Sto.ofV Arq32 Akq32 x15_1 (Ins.self x29_0)) (g := (mkF m 33 #[.val (.int pI1), .val (.int 2), .val (.ref bR2), .val (.ref bR2)] [(.ref bR29_0), (.int 0), (.ref bR2), (.ref bR29_0)])) rfl rfl (hb hby d1_33)
  have K36 : Keep h0 h35 [] := K30.wr W35 (Or.inr (Nat.le_of_eq g2.symm))
  have Z37 : n0 ≤ h35.size := (Nat.le_trans Z31 (Keep.of_wr W35).1)
  have N35 := Fr.snoc X35 N29 g14
  obtain ⟨Lh35, X35, N35⟩ := own_hide X35 N35
  have V35 : Arv Z h35 bR2 k2 (.object "java/lang/Integer") (2 : Int32) [(.ref bR29_0), (.ref bR10_0)] .null := Arv.set Arq32 Akq32 Asq32 Anq32 Ahq32 Agq32 rfl W35 0 rfl (Nat.le_of_ble_eq_true rfl)
  obtain ⟨_, _, ⟨T38, L38, k38, n38⟩, -, X38, ⟨Lc38, hQ38, l38, y38, z38⟩, st38⟩ := Jvm.LawKit.callS X35 hx (y := yN13) hown (mvT hZ (ow hw 26 rfl)) (mvT hZ (ow hw 27 rfl)) (mvT hZ (ow hw 28 rfl)) (mvT hZ (ow hw 29 rfl)) (by decide) (backOf (W := 0) (of2 l Z a0 hw [] bR2 bR29_0 bR10_0 k2 h35 n0 Z37 V35) hZ (ow hw 29 rfl) (ow hw 28 rfl) (by decide) (by decide)) (g := (mkF m 36 #[.val (.int pI1), .val (.int 2), .val (.ref bR2), .val (.ref bR2)] [(.ref bR2)])) rfl (by rw [hml]; rfl) (argsL := [(.ref bR2)]) (rest := []) (lenOf pd_7 rfl) rfl (Nat.le_refl _) (hb hby d1_36) (fun _ _ => ⟨rfl, e35, (by decide : 3 + 1 ≤ _), (by decide : 4 + 2 ≤ _)⟩)
  dsimp only [Pt.U, Pt.locs, Pt.cells, Pt.slots] at X38 l38 y38 z38 st38 hQ38
  subst l38 y38 z38
  obtain ⟨bR38_0, rfl, Nq38, Kq38, sz38_0, x38_0, x38_1, x38_2⟩ := hQ38
  have N38 := Fr.app N35 Nq38
  obtain ⟨Lh38, X38, N38⟩ := own_hide X38 N38
  have K39 : Keep h0 T38.heap [] := K36.trans Kq38 all0
  have Z40 : n0 ≤ T38.heap.size := (Nat.le_trans Z37 Kq38.1)
  have c41 : Exa Z T29.heap bR10_0 "java/lang/Integer" := c20.keep Kq29
  have c42 : Exa Z h35 bR10_0 "java/lang/Integer" := c41.wr W35
  have c43 : Exa Z T38.heap bR10_0 "java/lang/Integer" := c42.keep Kq38
  have c44 : Fld Z T29.heap bR10_0 "java/lang/Integer" "value" "I" (.int (pI1 / (2 : Int32))) := c21.keep Kq29 nin0
  have c45 : Fld Z h35 bR10_0 "java/lang/Integer" "value" "I" (.int (pI1 / (2 : Int32))) := c44.other W35 (Or.inl (own_ne_EV c20 (ow hw 132 rfl) x15_0))
  have c46 : Fld Z T38.heap bR10_0 "java/lang/Integer" "value" "I" (.int (pI1 / (2 : Int32))) := c45.keep Kq38 nin0
  have c47 : Exa Z h35 bR29_0 "java/lang/Integer" := x29_0.wr W35
  have c48 : Exa Z T38.heap bR29_0 "java/lang/Integer" := c47.keep Kq38
  have c49 : Fld Z h35 bR29_0 "java/lang/Integer" "value" "I" (.int ((pI1 / (2 : Int32)) + (pI1 % (2 : Int32)))) := x29_1.other W35 (Or.inl (own_ne_EV c47 (ow hw 132 rfl) V35))
  have c50 : Fld Z T38.heap bR29_0 "java/lang/Integer" "value" "I" (.int ((pI1 / (2 : Int32)) + (pI1 % (2 : Int32)))) := c49.keep Kq38 nin0
  obtain ⟨fs, hr, hrun, hended, hW, hsame⟩ := X38.leave (v := some (.ref bR38_0)) (fun h => by rw [Bd.returns] at h; cases h)
  refine ⟨_, _, castTop (ef_eqs2 m pI1) ?_, hrun, hended, _, _, rfl, ?_, ⟨_, rfl⟩, hW, hsame.mono (by decide) (by decide)⟩
  · show oS p e below s₁ m 0 #[.val (.int pI1), .val (.int 2), .unset, .unset] [] _
    refine XS.iloadN X0.here hx rfl (hb hby d1_0) rfl ?_
    refine st2 _ ?_
    refine XS.astoreN X2.here hx rfl (hb hby d1_4) rfl rfl (l' := #[.val (.int pI1), .val (.int 2), .val (.ref bR2), .unset]) rfl ?_
    refine XS.aloadN X2.here hx rfl (hb hby d1_5) rfl rfl ?_
    refine XS.iloadN X2.here hx rfl (hb hby d1_6) rfl ?_
    refine XS.iloadN X2.here hx rfl (hb hby d1_7) rfl ?_
    refine XS.idiv X2.here hx rfl (hb hby d1_8) rfl (by decide) ?_
    refine st10 _ ?_
    show oS p e below T10 m 12 #[.val (.int pI1), .val (.int 2), .val (.ref bR2), .unset] [(.ref bR10_0), (.ref bR2)] _
    refine st15 _ ?_
    refine XS.aloadN X15.here hx rfl (hb hby d1_15) rfl rfl ?_
    refine XS.astoreN X15.here hx rfl (hb hby d1_16) rfl rfl (l' := #[.val (.int pI1), .val (.int 2), .val (.ref bR2), .val (.ref bR2)]) rfl ?_
    refine XS.aloadN X15.here hx rfl (hb hby d1_17) rfl rfl ?_
    refine XS.iconst X15.here hx rfl (hb hby d1_18) ?_
    refine XS.aloadN X15.here hx rfl (hb hby d1_19) rfl rfl ?_
    refine XS.iconst X15.here hx rfl (hb hby d1_20) ?_
    refine X15.aaload hx (j := (0 : Int32)) (v := (.ref bR10_0)) Arq18.1 (State.isArrayOf_alike hZ.alike Arq18.2.1) rfl Arq18.2.2 hin19 (Has.at Ahq18 hin19 rfl) (g := (mkF m 21 #[.val (.int pI1), .val (.int 2), .val (.ref bR2), .val (.ref bR2)] [(.int 0), (.ref bR2), (.int 0), (.ref bR2)])) rfl rfl (hb hby d1_21) _ ?_
    show oS p e below T15 m 22 #[.val (.int pI1), .val (.int 2), .val (.ref bR2), .val (.ref bR2)] [(.ref bR10_0), (.int 0), (.ref bR2)] _
    refine st22.trans ?_
    refine XS.iloadN X22.here hx rfl (hb hby d1_25) rfl ?_
    refine XS.iloadN X22.here hx rfl (hb hby d1_26) rfl ?_
    show Steps p.tables e below (T22.setTop (mkF m 27 #[.val (.int pI1), .val (.int 2), .val (.ref bR2), .val (.ref bR2)] [(.int 2), (.int pI1), (.int (pI1 / (2 : Int32))), (.int 0), (.ref bR2)])) _
    refine iremM (g := (mkF m 27 #[.val (.int pI1), .val (.int 2), .val (.ref bR2), .val (.ref bR2)] [(.int 2), (.int pI1), (.int (pI1 / (2 : Int32))), (.int 0), (.ref bR2)])) X22 hx rfl (hb hby d1_27) rfl (by decide) ?_
    refine XS.iadd X22.here hx rfl (hb hby d1_28) rfl ?_
    refine st29 _ ?_
    show Steps p.tables e below (T29.setTop (mkF m 32 #[.val (.int pI1), .val (.int 2), .val (.ref bR2), .val (.ref bR2)] [(.ref bR29_0), (.int 0), (.ref bR2)])) _
    jvm_step X29.here [X29.here.top, hx, (hb hby d1_32), Value.category]
    refine st35 _ ?_
    show oS p e below T35 m 34 #[.val (.int pI1), .val (.int 2), .val (.ref bR2), .val (.ref bR2)] [(.ref bR29_0)] _
    refine XS.pop X35.here hx rfl (hb hby d1_34) rfl rfl ?_
    refine XS.aloadN X35.here hx rfl (hb hby d1_35) rfl rfl ?_
    refine st38 _ ?_
    exact retOut X38 hx Bd.returns rfl (Or.inr (Or.inr (Or.inr (Or.inr ⟨rfl, rfl, rfl⟩)))) (hb hby d1_39) hr
  · show Qeqs2 Z pI1 pR6 pC8 h0 n0 _ T38.heap _
    exact ⟨bR38_0, bR10_0, bR29_0, rfl, N38, K39, (Nat.le_trans K36.1 sz38_0), c43, c46, c48, c50, x38_0, x38_1, x38_2⟩
theorem ef_fill3 (m : MethodId) (pR1 : Addr) (pR2 : Addr) : entryFrame m #[(.ref pR1), (.ref pR2)] 4 = mkF m 0 #[.val (.ref pR1), .val (.ref pR2), .unset, .unset] [] := by first | (simp [entryFrame, mkF, argsToLocals, Value.category]; done) | rfl
def Qfill3 (Z : State) (pR1 : Addr) (pR2 : Addr) (pK3 : ClassId) (h0 : Heap) (n0 : Nat) (v : Option Value) (h : Heap) (L : List Loc) : Prop := v = none ∧ Fr n0 L ∧ Keep h0 h [pR1] ∧ Arv Z h pR1 pK3 (.object "java/lang/Integer") (3 : Int32) [(.ref pR2), (.ref pR2), (.ref pR2)] .null ∧ Ovr Z pK3 "java/lang/Integer"
set_option maxRecDepth 65536 in
set_option maxHeartbeats 40000000 in
theorem fill3 (l : Launch) (Z : State) (a0 : Array Value) (hw : ∀ d ∈ tables_1, d.before a0 Z = true) (ws : List Jvm.Cond) (pR1 : Addr) (pR2 : Addr) (pK3 : ClassId) (h0 : Heap) (n0 : Nat) (Z0 : n0 ≤ h0.size) (V_pR1 : Arv Z h0 pR1 pK3 (.object "java/lang/Integer") (3 : Int32) [.null, .null, .null] .null) (O_pK3 : Ovr Z pK3 "java/lang/Integer") (g_pR1 : n0 ≤ pR1) (E_pR2 : Exa Z h0 pR2 "java/lang/Integer") :
    oM l yN12 jdk_65_method_117_code 4 none ws ({ frames := 0, cells := 0, slots := 0, locals := 0 } : Room) #[(.ref pR1), (.ref pR2)] Z h0 (Qfill3 Z pR1 pR2 pK3 h0 n0) := by
  refine MetFree.of_bodySF (plainFor_of_name pn_8) hisR ?_
  intro p e s m args below meth c s₁ Bd hml0 hP hK
  obtain ⟨rfl, hZ, hh⟩ := hP
  have hx := Bd.exec
  have hby := Bd.bytes
  have hml : c.maxLocals = 4 := hml0
  have hown : s.vm.findClass "java/util/Arrays" = some m.cls := findClass_of_methodNamed Bd.named
  have hnm := (name_of_methodNamed Bd.named Bd.method).1
  have X0 : Stand p l e ({ frames := 0, cells := 0, slots := 0, locals := 0 } : Room) s m #[(.ref pR1), (.ref pR2)] below meth c s₁ [] 0 0 := Stand.of_body Bd
  have e0 : s₁.heap = h0 := by rw [← hh, Bd.state]; rfl
  have N0 := Fr.nil n0
  obtain ⟨clq4, Arq4, Akq4, Asq4, Anq4, Ahq4, Agq4⟩ := id V_pR1
  obtain ⟨clq5, Arq5, Akq5, Asq5, Anq5, Ahq5, Agq5⟩ := id V_pR1
  have hin6 : ¬ ((0 : Int32) < 0 ∨ clq5.slots.size ≤ ((0 : Int32)).toNatClampNeg) := inb_of Asq5 ⟨by decide, by decide⟩
  obtain ⟨T7, h7, X7, e7, W7, st7⟩ := stR X0 hx hZ e0 Arq5 (j := (0 : Int32)) hin6 rfl (Sto.ofV Arq5 Akq5 O_pK3 (Ins.self E_pR2)) (g := (mkF m 13 #[.val (.ref pR1), .val (.ref pR2), .val (.int 0), .val (.int 3)] [(.ref pR2), (.int 0), (.ref pR1)])) rfl rfl (hb hby d3_13)
  have K8 : Keep h0 h7 [pR1] := (Keep.refl h0 [pR1]).wr W7 (Or.inl (List.mem_of_getElem? (i := 0) rfl))
  have Z9 : n0 ≤ h7.size := (Nat.le_trans Z0 (Keep.of_wr W7).1)
  have N7 := Fr.snoc X7 N0 g_pR1
  obtain ⟨Lh7, X7, N7⟩ := own_hide X7 N7
  have V7 : Arv Z h7 pR1 pK3 (.object "java/lang/Integer") (3 : Int32) [(.ref pR2), .null, .null] .null := Arv.set Arq5 Akq5 Asq5 Anq5 Ahq5 Agq5 rfl W7 0 rfl (Nat.le_of_ble_eq_true rfl)
  obtain ⟨clq10, Arq10, Akq10, Asq10, Anq10, Ahq10, Agq10⟩ := id V7
  have hin11 : ¬ ((1 : Int32) < 0 ∨ clq10.slots.size ≤ ((1 : Int32)).toNatClampNeg) := inb_of Asq10 ⟨by decide, by decide⟩
  have c12 : Exa Z h7 pR2 "java/lang/Integer" := E_pR2.wr W7
  obtain ⟨T13, h13, X13, e13, W13, st13⟩ := stR X7 hx hZ e7 Arq10 (j := (1 : Int32)) hin11 rfl (Sto.ofV Arq10 Akq10 O_pK3 (Ins.self c12)) (g := (mkF m 13 #[.val (.ref pR1), .val (.ref pR2), .val (.int 1), .val (.int 3)] [(.ref pR2), (.int 1), (.ref pR1)])) rfl rfl (hb hby d3_13)
  have K14 : Keep h0 h13 [pR1] := K8.wr W13 (Or.inl (List.mem_of_getElem? (i := 0) rfl))
  have Z15 : n0 ≤ h13.size := (Nat.le_trans Z9 (Keep.of_wr W13).1)
  have N13 := Fr.snoc X13 N7 g_pR1
  obtain ⟨Lh13, X13, N13⟩ := own_hide X13 N13
  have V13 : Arv Z h13 pR1 pK3 (.object "java/lang/Integer") (3 : Int32) [(.ref pR2), (.ref pR2), .null] .null := Arv.set Arq10 Akq10 Asq10 Anq10 Ahq10 Agq10 rfl W13 1 rfl (Nat.le_of_ble_eq_true rfl)
  obtain ⟨clq16, Arq16, Akq16, Asq16, Anq16, Ahq16, Agq16⟩ := id V13
  have hin17 : ¬ ((2 : Int32) < 0 ∨ clq16.slots.size ≤ ((2 : Int32)).toNatClampNeg) := inb_of Asq16 ⟨by decide, by decide⟩
  have c18 : Exa Z h13 pR2 "java/lang/Integer" := c12.wr W13
  obtain ⟨T19, h19, X19, e19, W19, st19⟩ := stR X13 hx hZ e13 Arq16 (j := (2 : Int32)) hin17 rfl (Sto.ofV Arq16 Akq16 O_pK3 (Ins.self c18)) (g := (mkF m 13 #[.val (.ref pR1), .val (.ref pR2), .val (.int 2), .val (.int 3)] [(.ref pR2), (.int 2), (.ref pR1)])) rfl rfl (hb hby d3_13)
  have K20 : Keep h0 h19 [pR1] := K14.wr W19 (Or.inl (List.mem_of_getElem? (i := 0) rfl))
  have Z21 : n0 ≤ h19.size := (Nat.le_trans Z15 (Keep.of_wr W19).1)
  have N19 := Fr.snoc X19 N13 g_pR1
  obtain ⟨Lh19, X19, N19⟩ := own_hide X19 N19
  have V19 : Arv Z h19 pR1 pK3 (.object "java/lang/Integer") (3 : Int32) [(.ref pR2), (.ref pR2), (.ref pR2)] .null := Arv.set Arq16 Akq16 Asq16 Anq16 Ahq16 Agq16 rfl W19 2 rfl (Nat.le_of_ble_eq_true rfl)
  obtain ⟨fs, hr, hrun, hended, hW, hsame⟩ := X19.leave (v := none) (fun _ => rfl)
  refine ⟨_, _, castTop (ef_fill3 m pR1 pR2) ?_, hrun, hended, _, _, rfl, ?_, ⟨_, rfl⟩, hW, hsame.mono (by decide) (by decide)⟩
  · show oS p e below s₁ m 0 #[.val (.ref pR1), .val (.ref pR2), .unset, .unset] [] _
    refine XS.iconst X0.here hx rfl (hb hby d3_0) ?_
    refine XS.istoreN X0.here hx rfl (hb hby d3_1) rfl (l' := #[.val (.ref pR1), .val (.ref pR2), .val (.int 0), .unset]) rfl ?_
    refine XS.aloadN X0.here hx rfl (hb hby d3_2) rfl rfl ?_
    refine X0.arraylength hx (by rw [e0]; exact Arq4.1) (State.isArrayOf_alike hZ.alike Arq4.2.1) (g := (mkF m 3 #[.val (.ref pR1), .val (.ref pR2), .val (.int 0), .unset] [(.ref pR1)])) rfl rfl (hb hby d3_3) _ ?_
    rw [len_of Asq4 Anq4]
    refine XS.istoreN X0.here hx rfl (hb hby d3_4) rfl (l' := #[.val (.ref pR1), .val (.ref pR2), .val (.int 0), .val (.int 3)]) rfl ?_
    refine XS.iloadN X0.here hx rfl (hb hby d3_5) rfl ?_
    refine XS.iloadN X0.here hx rfl (hb hby d3_6) rfl ?_
    refine XS.icmpNo X0.here hx rfl (hb hby d3_7) rfl (tlt (by decide : (0 : Int32) < (3 : Int32))).2.1 ?_
    show oS p e below s₁ m 10 #[.val (.ref pR1), .val (.ref pR2), .val (.int 0), .val (.int 3)] [] _
    refine XS.aloadN X0.here hx rfl (hb hby d3_10) rfl rfl ?_
    refine XS.iloadN X0.here hx rfl (hb hby d3_11) rfl ?_
    refine XS.aloadN X0.here hx rfl (hb hby d3_12) rfl rfl ?_
    refine st7 _ ?_
    refine XS.iinc X7.here hx rfl (hb hby d3_14) rfl (l' := #[.val (.ref pR1), .val (.ref pR2), .val (.int 1), .val (.int 3)]) rfl ?_
    refine XS.goto X7.here hx rfl (pc0 := 17) (pc' := 5) rfl (hb hby d3_17) (by decide) (by decide) ?_
    refine XS.iloadN X7.here hx rfl (hb hby d3_5) rfl ?_
    refine XS.iloadN X7.here hx rfl (hb hby d3_6) rfl ?_
    show oS p e below T7 m 7 #[.val (.ref pR1), .val (.ref pR2), .val (.int 1), .val (.int 3)] [(.int 3), (.int 1)] _
    refine XS.icmpNo X7.here hx rfl (hb hby d3_7) rfl (tlt (by decide : (1 : Int32) < (3 : Int32))).2.1 ?_
    refine XS.aloadN X7.here hx rfl (hb hby d3_10) rfl rfl ?_
    refine XS.iloadN X7.here hx rfl (hb hby d3_11) rfl ?_
    refine XS.aloadN X7.here hx rfl (hb hby d3_12) rfl rfl ?_
    refine st13 _ ?_
    refine XS.iinc X13.here hx rfl (hb hby d3_14) rfl (l' := #[.val (.ref pR1), .val (.ref pR2), .val (.int 2), .val (.int 3)]) rfl ?_
    refine XS.goto X13.here hx rfl (pc0 := 17) (pc' := 5) rfl (hb hby d3_17) (by decide) (by decide) ?_
    refine XS.iloadN X13.here hx rfl (hb hby d3_5) rfl ?_
    show oS p e below T13 m 6 #[.val (.ref pR1), .val (.ref pR2), .val (.int 2), .val (.int 3)] [(.int 2)] _
    refine XS.iloadN X13.here hx rfl (hb hby d3_6) rfl ?_
    refine XS.icmpNo X13.here hx rfl (hb hby d3_7) rfl (tlt (by decide : (2 : Int32) < (3 : Int32))).2.1 ?_
    refine XS.aloadN X13.here hx rfl (hb hby d3_10) rfl rfl ?_
    refine XS.iloadN X13.here hx rfl (hb hby d3_11) rfl ?_
    refine XS.aloadN X13.here hx rfl (hb hby d3_12) rfl rfl ?_
    refine st19 _ ?_
    refine XS.iinc X19.here hx rfl (hb hby d3_14) rfl (l' := #[.val (.ref pR1), .val (.ref pR2), .val (.int 3), .val (.int 3)]) rfl ?_
    refine XS.goto X19.here hx rfl (pc0 := 17) (pc' := 5) rfl (hb hby d3_17) (by decide) (by decide) ?_
    show oS p e below T19 m 5 #[.val (.ref pR1), .val (.ref pR2), .val (.int 3), .val (.int 3)] [] _
    refine XS.iloadN X19.here hx rfl (hb hby d3_5) rfl ?_
    refine XS.iloadN X19.here hx rfl (hb hby d3_6) rfl ?_
    refine XS.icmpYes X19.here hx rfl (pc0 := 7) (pc' := 20) rfl (hb hby d3_7) rfl (flt (by decide : ¬ ((3 : Int32) < (3 : Int32)))).2.1 (by decide) (by decide) ?_
    exact X19.returnOut hx Bd.returns (hb hby d3_20) hr
  · show Qfill3 Z pR1 pR2 pK3 h0 n0 _ T19.heap _
    rw [e19]
    exact ⟨rfl, N19, K20, V19, O_pK3⟩
theorem d6_0 : decode jdk_56_method_4_code 0 = .ok (.aload_n 0, 1) := by decide +kernel
theorem d6_1 : decode jdk_56_method_4_code 1 = .ok (.arraylength, 1) := by decide +kernel
theorem d6_2 : decode jdk_56_method_4_code 2 = .ok (.anewarray 2, 3) := by decide +kernel
theorem d6_5 : decode jdk_56_method_4_code 5 = .ok (.astore_n 1, 1) := by decide +kernel
theorem d6_6 : decode jdk_56_method_4_code 6 = .ok (.iconst 0, 1) := by decide +kernel
theorem d6_7 : decode jdk_56_method_4_code 7 = .ok (.istore_n 2, 1) := by decide +kernel
theorem d6_8 : decode jdk_56_method_4_code 8 = .ok (.iload_n 2, 1) := by decide +kernel
theorem d6_9 : decode jdk_56_method_4_code 9 = .ok (.aload_n 0, 1) := by decide +kernel
theorem d6_10 : decode jdk_56_method_4_code 10 = .ok (.arraylength, 1) := by decide +kernel
theorem d6_11 : decode jdk_56_method_4_code 11 = .ok (.if_icmp .ge 18, 3) := by decide +kernel
theorem d6_14 : decode jdk_56_method_4_code 14 = .ok (.aload_n 1, 1) := by decide +kernel
theorem d6_15 : decode jdk_56_method_4_code 15 = .ok (.iload_n 2, 1) := by decide +kernel
theorem d6_16 : decode jdk_56_method_4_code 16 = .ok (.aload_n 0, 1) := by decide +kernel
theorem d6_17 : decode jdk_56_method_4_code 17 = .ok (.iload_n 2, 1) := by decide +kernel
theorem d6_18 : decode jdk_56_method_4_code 18 = .ok (.aaload, 1) := by decide +kernel
theorem d6_19 : decode jdk_56_method_4_code 19 = .ok (.invokestatic 37, 3) := by decide +kernel
theorem d6_22 : decode jdk_56_method_4_code 22 = .ok (.aastore, 1) := by decide +kernel
theorem d6_23 : decode jdk_56_method_4_code 23 = .ok (.iinc 2 1, 3) := by decide +kernel
theorem d6_26 : decode jdk_56_method_4_code 26 = .ok (.goto (-18), 3) := by decide +kernel
theorem d6_29 : decode jdk_56_method_4_code 29 = .ok (.new 12, 3) := by decide +kernel
theorem d6_32 : decode jdk_56_method_4_code 32 = .ok (.dup, 1) := by decide +kernel
theorem d6_33 : decode jdk_56_method_4_code 33 = .ok (.aload_n 1, 1) := by decide +kernel
theorem d6_34 : decode jdk_56_method_4_code 34 = .ok (.iconst 0, 1) := by decide +kernel
theorem d6_35 : decode jdk_56_method_4_code 35 = .ok (.invokespecial 43, 3) := by decide +kernel
theorem pd_9 : parseMethodDescriptor "([Ljava/lang/Object;Z)V" = some ⟨[(.array (.object "java/lang/Object")), .boolean], none⟩ := by decide +kernel
theorem d6_38 : decode jdk_56_method_4_code 38 = .ok (.areturn, 1) := by decide +kernel
theorem pn_11 : plainName "java/util/ImmutableCollections" = true := by first | (simp [plainName, overriddenIn]; done) | decide +kernel
theorem ef_lfa3 (m : MethodId) (pR1 : Addr) : entryFrame m #[(.ref pR1)] 3 = mkF m 0 #[.val (.ref pR1), .unset, .unset] [] := by first | (simp [entryFrame, mkF, argsToLocals, Value.category]; done) | rfl
def Qlfa3 (Z : State) (pR1 : Addr) (pR801 : Addr) (pR802 : Addr) (pK2 : ClassId) (h0 : Heap) (n0 : Nat) (v : Option Value) (h : Heap) (L : List Loc) : Prop := ∃ bR4 : Addr, ∃ bR44 : Addr, ∃ k4 : ClassId, v = some (.ref bR44) ∧ Fr n0 L ∧ Keep h0 h [] ∧ h0.size ≤ bR4 ∧ h0.size ≤ bR44 ∧ Arv Z h bR4 k4 (.object "java/lang/Object") (3 : Int32) [(.ref pR801), (.ref pR802), (.ref pR802)] .null ∧ Ovr Z k4 "java/lang/Object" ∧ Exa Z h bR44 "java/util/ImmutableCollections$ListN" ∧ Fld Z h bR44 "java/util/ImmutableCollections$ListN" "elements" "[Ljava/lang/Object;" (.ref bR4) ∧ Fld Z h bR44 "java/util/ImmutableCollections$ListN" "allowNulls" "Z" (.int 0)
set_option maxRecDepth 65536 in
set_option maxHeartbeats 40000000 in
theorem lfa3 (l : Launch) (Z : State) (a0 : Array Value) (hw : ∀ d ∈ tables_1, d.before a0 Z = true) (ws : List Jvm.Cond) (pR1 : Addr) (pR801 : Addr) (pR802 : Addr) (pK2 : ClassId) (h0 : Heap) (n0 : Nat) (Z0 : n0 ≤ h0.size) (V_pR1 : Arv Z h0 pR1 pK2 (.object "java/lang/Integer") (3 : Int32) [(.ref pR801), (.ref pR802), (.ref pR802)] .null) (E_pR801 : Exa Z h0 pR801 "java/lang/Integer") (E_pR802 : Exa Z h0 pR802 "java/lang/Integer") :
    oM l yN15 jdk_56_method_4_code 3 (some (.object "java/util/List")) ws ({ frames := 5, cells := 2, slots := 5, locals := 63 } : Room) #[(.ref pR1)] Z h0 (Qlfa3 Z pR1 pR801 pR802 pK2 h0 n0) := by
  refine MetFree.of_bodySF (plainFor_of_name pn_11) hisR ?_
  intro p e s m args below meth c s₁ Bd hml0 hP hK
  obtain ⟨rfl, hZ, hh⟩ := hP
  have hx := Bd.exec
  have hby := Bd.bytes
  have hml : c.maxLocals = 3 := hml0
  have hown : s.vm.findClass "java/util/ImmutableCollections" = some m.cls := findClass_of_methodNamed Bd.named
  have hnm := (name_of_methodNamed Bd.named Bd.method).1
  have X0 : Stand p l e ({ frames := 5, cells := 2, slots := 5, locals := 63 } : Room) s m #[(.ref pR1)] below meth c s₁ [] 0 0 := Stand.of_body Bd
  have e0 : s₁.heap = h0 := by rw [← hh, Bd.state]; rfl
  have N0 := Fr.nil n0
  obtain ⟨clq3, Arq3, Akq3, Asq3, Anq3, Ahq3, Agq3⟩ := id V_pR1
  obtain ⟨T4, h4, k4, X4, e4, E4, A4, O4, st4⟩ := newR X0 hx hZ hown (ow hw 34 rfl) (ow hw 35 rfl) e0 (g := (mkF m 2 #[.val (.ref pR1), .unset, .unset] [(.int 3)])) rfl (hb hby d6_2) rfl (by decide) (cap := 3) (by decide) (by decide) (by decide) (by decide)
  obtain ⟨bR4, g4⟩ : ∃ z, z = h0.size := ⟨_, rfl⟩
  rw [← g4] at A4 st4
  have K5 : Keep h0 h4 [] := (Keep.refl h0 []).ext E4
  have Z6 : n0 ≤ h4.size := (Nat.le_trans Z0 E4.1)
  have V4 : Arv Z h4 bR4 k4 (.object "java/lang/Object") (3 : Int32) [.null, .null, .null] .null := (Arv.new A4 (by decide)).pad (pad_rep [] .null 3)
  have c8 : Arv Z h4 pR1 pK2 (.object "java/lang/Integer") (3 : Int32) [(.ref pR801), (.ref pR802), (.ref pR802)] .null := V_pR1.ext E4
  obtain ⟨clq7, Arq7, Akq7, Asq7, Anq7, Ahq7, Agq7⟩ := id c8
  obtain ⟨clq9, Arq9, Akq9, Asq9, Anq9, Ahq9, Agq9⟩ := id c8
  have hin10 : ¬ ((0 : Int32) < 0 ∨ clq9.slots.size ≤ ((0 : Int32)).toNatClampNeg) := inb_of Asq9 ⟨by decide, by decide⟩
  obtain ⟨_, _, ⟨T11, L11, k11, n11⟩, -, X11, ⟨Lc11, hQ11, l11, y11, z11⟩, st11⟩ := Jvm.LawKit.callS X4 hx (y := yN5) hown (mvT hZ (ow hw 36 rfl)) (mvT hZ (ow hw 37 rfl)) (mvT hZ (ow hw 38 rfl)) (mvT hZ (ow hw 39 rfl)) (by decide) (backOf (W := 2) (rnn l Z a0 hw [] pR801 h4 n0 Z6 ) hZ (ow hw 39 rfl) (ow hw 38 rfl) (by decide) (by decide)) (g := (mkF m 19 #[.val (.ref pR1), .val (.ref bR4), .val (.int 0)] [(.ref pR801), (.int 0), (.ref bR4)])) rfl (by rw [hml]; rfl) (argsL := [(.ref pR801)]) (rest := [(.int 0), (.ref bR4)]) (lenOf pd_2 rfl) rfl (Nat.le_refl _) (hb hby d6_19) (fun _ _ => ⟨rfl, e4, (by decide : 1 + 0 ≤ _), (by decide : 3 + 0 ≤ _)⟩)
  dsimp only [Pt.U, Pt.locs, Pt.cells, Pt.slots] at X11 l11 y11 z11 st11 hQ11
  subst l11 y11 z11
  obtain ⟨rfl, Nq11, e11⟩ := hQ11
  have N11 := Fr.app N0 Nq11
  have g12 : n0 ≤ bR4 := Nat.le_trans Z0 (Nat.le_of_eq g4.symm)
  obtain ⟨clq13, Arq13, Akq13, Asq13, Anq13, Ahq13, Agq13⟩ := id V4
  have hin14 : ¬ ((0 : Int32) < 0 ∨ clq13.slots.size ≤ ((0 : Int32)).toNatClampNeg) := inb_of Asq13 ⟨by decide, by decide⟩
  have c15 : Exa Z h4 pR801 "java/lang/Integer" := E_pR801.ext E4
  obtain ⟨T16, h16, X16, e16, W16, st16⟩ := stR X11 hx hZ e11 Arq13 (j := (0 : Int32)) hin14 rfl (Sto.ofV Arq13 Akq13 O4 (Ins.of_exa c15 (ow hw 40 rfl))) (g := (mkF m 22 #[.val (.ref pR1), .val (.ref bR4), .val (.int 0)] [(.ref pR801), (.int 0), (.ref bR4)])) rfl rfl (hb hby d6_22)
  have K17 : Keep h0 h16 [] := K5.wr W16 (Or.inr (Nat.le_of_eq g4.symm))
  have Z18 : n0 ≤ h16.size := (Nat.le_trans Z6 (Keep.of_wr W16).1)
  have N16 := Fr.snoc X16 N11 g12
  obtain ⟨Lh16, X16, N16⟩ := own_hide X16 N16
  have V16 : Arv Z h16 bR4 k4 (.object "java/lang/Object") (3 : Int32) [(.ref pR801), .null, .null] .null := Arv.set Arq13 Akq13 Asq13 Anq13 Ahq13 Agq13 rfl W16 0 rfl (Nat.le_of_ble_eq_true rfl)
  have c20 : Arv Z h16 pR1 pK2 (.object "java/lang/Integer") (3 : Int32) [(.ref pR801), (.ref pR802), (.ref pR802)] .null := c8.other W16 (Nat.ne_of_lt (Nat.lt_of_lt_of_le V_pR1.lt (Nat.le_of_eq g4.symm)))
  obtain ⟨clq19, Arq19, Akq19, Asq19, Anq19, Ahq19, Agq19⟩ := id c20
  obtain ⟨clq21, Arq21, Akq21, Asq21, Anq21, Ahq21, Agq21⟩ := id c20
  have hin22 : ¬ ((1 : Int32) < 0 ∨ clq21.slots.size ≤ ((1 : Int32)).toNatClampNeg) := inb_of Asq21 ⟨by decide, by decide⟩
  obtain ⟨_, _, ⟨T23, L23, k23, n23⟩, -, X23, ⟨Lc23, hQ23, l23, y23, z23⟩, st23⟩ := Jvm.LawKit.callS X16 hx (y := yN5) hown (mvT hZ (ow hw 36 rfl)) (mvT hZ (ow hw 37 rfl)) (mvT hZ (ow hw 38 rfl)) (mvT hZ (ow hw 39 rfl)) (by decide) (backOf (W := 2) (rnn l Z a0 hw [] pR802 h16 n0 Z18 ) hZ (ow hw 39 rfl) (ow hw 38 rfl) (by decide) (by decide)) (g := (mkF m 19 #[.val (.ref pR1), .val (.ref bR4), .val (.int 1)] [(.ref pR802), (.int 1), (.ref bR4)])) rfl (by rw [hml]; rfl) (argsL := [(.ref pR802)]) (rest := [(.int 1), (.ref bR4)]) (lenOf pd_2 rfl) rfl (Nat.le_refl _) (hb hby d6_19) (fun _ _ => ⟨rfl, e16, (by decide : 1 + 0 ≤ _), (by decide : 3 + 0 ≤ _)⟩)
  dsimp only [Pt.U, Pt.locs, Pt.cells, Pt.slots] at X23 l23 y23 z23 st23 hQ23
  subst l23 y23 z23
  obtain ⟨rfl, Nq23, e23⟩ := hQ23
  have N23 := Fr.app N16 Nq23
  obtain ⟨clq24, Arq24, Akq24, Asq24, Anq24, Ahq24, Agq24⟩ := id V16
  have hin25 : ¬ ((1 : Int32) < 0 ∨ clq24.slots.size ≤ ((1 : Int32)).toNatClampNeg) := inb_of Asq24 ⟨by decide, by decide⟩
  have c26 : Exa Z h4 pR802 "java/lang/Integer" := E_pR802.ext E4
  have c27 : Exa Z h16 pR802 "java/lang/Integer" := c26.wr W16
  obtain ⟨T28, h28, X28, e28, W28, st28⟩ := stR X23 hx hZ e23 Arq24 (j := (1 : Int32)) hin25 rfl (Sto.ofV Arq24 Akq24 O4 (Ins.of_exa c27 (ow hw 40 rfl))) (g := (mkF m 22 #[.val (.ref pR1), .val (.ref bR4), .val (.int 1)] [(.ref pR802), (.int 1), (.ref bR4)])) rfl rfl (hb hby d6_22)
  have K29 : Keep h0 h28 [] := K17.wr W28 (Or.inr (Nat.le_of_eq g4.symm))
  have Z30 : n0 ≤ h28.size := (Nat.le_trans Z18 (Keep.of_wr W28).1)
  have N28 := Fr.snoc X28 N23 g12
  obtain ⟨Lh28, X28, N28⟩ := own_hide X28 N28
  have V28 : Arv Z h28 bR4 k4 (.object "java/lang/Object") (3 : Int32) [(.ref pR801), (.ref pR802), .null] .null := Arv.set Arq24 Akq24 Asq24 Anq24 Ahq24 Agq24 rfl W28 1 rfl (Nat.le_of_ble_eq_true rfl)
  have c32 : Arv Z h28 pR1 pK2 (.object "java/lang/Integer") (3 : Int32) [(.ref pR801), (.ref pR802), (.ref pR802)] .null := c20.other W28 (Nat.ne_of_lt (Nat.lt_of_lt_of_le V_pR1.lt (Nat.le_of_eq g4.symm)))
  obtain ⟨clq31, Arq31, Akq31, Asq31, Anq31, Ahq31, Agq31⟩ := id c32
  obtain ⟨clq33, Arq33, Akq33, Asq33, Anq33, Ahq33, Agq33⟩ := id c32
  have hin34 : ¬ ((2 : Int32) < 0 ∨ clq33.slots.size ≤ ((2 : Int32)).toNatClampNeg) := inb_of Asq33 ⟨by decide, by decide⟩
  obtain ⟨_, _, ⟨T35, L35, k35, n35⟩, -, X35, ⟨Lc35, hQ35, l35, y35, z35⟩, st35⟩ := Jvm.LawKit.callS X28 hx (y := yN5) hown (mvT hZ (ow hw 36 rfl)) (mvT hZ (ow hw 37 rfl)) (mvT hZ (ow hw 38 rfl)) (mvT hZ (ow hw 39 rfl)) (by decide) (backOf (W := 2) (rnn l Z a0 hw [] pR802 h28 n0 Z30 ) hZ (ow hw 39 rfl) (ow hw 38 rfl) (by decide) (by decide)) (g := (mkF m 19 #[.val (.ref pR1), .val (.ref bR4), .val (.int 2)] [(.ref pR802), (.int 2), (.ref bR4)])) rfl (by rw [hml]; rfl) (argsL := [(.ref pR802)]) (rest := [(.int 2), (.ref bR4)]) (lenOf pd_2 rfl) rfl (Nat.le_refl _) (hb hby d6_19) (fun _ _ => ⟨rfl, e28, (by decide : 1 + 0 ≤ _), (by decide : 3 + 0 ≤ _)⟩)
  dsimp only [Pt.U, Pt.locs, Pt.cells, Pt.slots] at X35 l35 y35 z35 st35 hQ35
  subst l35 y35 z35
  obtain ⟨rfl, Nq35, e35⟩ := hQ35
  have N35 := Fr.app N28 Nq35
  obtain ⟨clq36, Arq36, Akq36, Asq36, Anq36, Ahq36, Agq36⟩ := id V28
  have hin37 : ¬ ((2 : Int32) < 0 ∨ clq36.slots.size ≤ ((2 : Int32)).toNatClampNeg) := inb_of Asq36 ⟨by decide, by decide⟩
  have c38 : Exa Z h28 pR802 "java/lang/Integer" := c27.wr W28
  obtain ⟨T39, h39, X39, e39, W39, st39⟩ := stR X35 hx hZ e35 Arq36 (j := (2 : Int32)) hin37 rfl (Sto.ofV Arq36 Akq36 O4 (Ins.of_exa c38 (ow hw 40 rfl))) (g := (mkF m 22 #[.val (.ref pR1), .val (.ref bR4), .val (.int 2)] [(.ref pR802), (.int 2), (.ref bR4)])) rfl rfl (hb hby d6_22)
  have K40 : Keep h0 h39 [] := K29.wr W39 (Or.inr (Nat.le_of_eq g4.symm))
  have Z41 : n0 ≤ h39.size := (Nat.le_trans Z30 (Keep.of_wr W39).1)
  have N39 := Fr.snoc X39 N35 g12
  obtain ⟨Lh39, X39, N39⟩ := own_hide X39 N39
  have V39 : Arv Z h39 bR4 k4 (.object "java/lang/Object") (3 : Int32) [(.ref pR801), (.ref pR802), (.ref pR802)] .null := Arv.set Arq36 Akq36 Asq36 Anq36 Ahq36 Agq36 rfl W39 2 rfl (Nat.le_of_ble_eq_true rfl)
  have c43 : Arv Z h39 pR1 pK2 (.object "java/lang/Integer") (3 : Int32) [(.ref pR801), (.ref pR802), (.ref pR802)] .null := c32.other W39 (Nat.ne_of_lt (Nat.lt_of_lt_of_le V_pR1.lt (Nat.le_of_eq g4.symm)))
  obtain ⟨clq42, Arq42, Akq42, Asq42, Anq42, Ahq42, Agq42⟩ := id c43
  obtain ⟨T44, h44, X44, e44, E44, A44, D44, U44, st44⟩ := newO X39 hx hZ hown (ow hw 41 rfl) (ow hw 42 rfl) (ow hw 43 rfl) e39 (g := (mkF m 29 #[.val (.ref pR1), .val (.ref bR4), .val (.int 3)] [])) rfl (hb hby d6_29) (by decide) (by decide)
  obtain ⟨bR44, g44⟩ : ∃ z, z = h39.size := ⟨_, rfl⟩
  rw [← g44] at A44 D44 U44 st44
  have K45 : Keep h0 h44 [] := K40.ext E44
  have Z46 : n0 ≤ h44.size := (Nat.le_trans Z41 E44.1)
  have F47 : Fld Z h44 bR44 "java/util/ImmutableCollections$ListN" "elements" "[Ljava/lang/Object;" .null := D44 (Or.inr (ow hw 70 rfl)) (ty := (.array (.object "java/lang/Object"))) (by decide)
  have F48 : Fld Z h44 bR44 "java/util/ImmutableCollections$ListN" "allowNulls" "Z" (.int 0) := D44 (Or.inr (ow hw 72 rfl)) (ty := .boolean) (by decide)
  have g49 : n0 ≤ bR44 := Nat.le_trans Z41 (Nat.le_of_eq g44.symm)
  obtain ⟨_, _, ⟨T50, L50, k50, n50⟩, -, X50, ⟨Lc50, hQ50, l50, y50, z50⟩, st50⟩ := X44.specialBackNest hx (y := yN9) rfl hown (own_mvM hZ (ow hw 44 rfl)) (mvT hZ (ow hw 45 rfl)) (mvT hZ (ow hw 47 rfl)) (by decide) (backOf (W := 1) (lnI l Z a0 hw [] bR44 bR4 h44 n0 Z46 A44 F47 g49 F48) hZ (ow hw 47 rfl) (ow hw 43 rfl) (by decide) (by decide)) (g := (mkF m 35 #[.val (.ref pR1), .val (.ref bR4), .val (.int 3)] [(.int 0), (.ref bR4), (.ref bR44), (.ref bR44)])) rfl (by rw [hml]; rfl) (Steps.refl _) (a := bR44) (argsL := [(.ref bR4), (.int 0)]) (rest := [(.ref bR44)]) (lenOf pd_9 rfl) rfl (Nat.le_refl _) (hb hby d6_35) (fun _ _ => ⟨rfl, e44, (by decide : 2 + 0 ≤ _), (by decide : 5 + 0 ≤ _)⟩)
  dsimp only [Pt.U, Pt.locs, Pt.cells, Pt.slots] at X50 l50 y50 z50 st50 hQ50
  subst l50 y50 z50
  obtain ⟨rfl, Nq50, Kq50, x50_0, x50_1, x50_2⟩ := hQ50
  have N50 := Fr.app N39 Nq50
  obtain ⟨Lh50, X50, N50⟩ := own_hide X50 N50
  have K51 : Keep h0 T50.heap [] := K45.trans Kq50 (allS (Or.inr (Nat.le_trans K40.1 (Nat.le_of_eq g44.symm))) all0)
  have Z52 : n0 ≤ T50.heap.size := (Nat.le_trans Z46 Kq50.1)
  have c53 : Arv Z h44 bR4 k4 (.object "java/lang/Object") (3 : Int32) [(.ref pR801), (.ref pR802), (.ref pR802)] .null := V39.ext E44
  have c54 : Arv Z T50.heap bR4 k4 (.object "java/lang/Object") (3 : Int32) [(.ref pR801), (.ref pR802), (.ref pR802)] .null := c53.keep Kq50 (ninS (Nat.ne_of_lt (Nat.lt_of_lt_of_le V39.lt (Nat.le_of_eq g44.symm))) nin0)
  obtain ⟨fs, hr, hrun, hended, hW, hsame⟩ := X50.leave (v := some (.ref bR44)) (fun h => by rw [Bd.returns] at h; cases h)
  refine ⟨_, _, castTop (ef_lfa3 m pR1) ?_, hrun, hended, _, _, rfl, ?_, ⟨_, rfl⟩, hW, hsame.mono (by decide) (by decide)⟩
  · show oS p e below s₁ m 0 #[.val (.ref pR1), .unset, .unset] [] _
    refine XS.aloadN X0.here hx rfl (hb hby d6_0) rfl rfl ?_
    refine X0.arraylength hx (by rw [e0]; exact Arq3.1) (State.isArrayOf_alike hZ.alike Arq3.2.1) (g := (mkF m 1 #[.val (.ref pR1), .unset, .unset] [(.ref pR1)])) rfl rfl (hb hby d6_1) _ ?_
    rw [len_of Asq3 Anq3]
    refine st4 _ ?_
    refine XS.astoreN X4.here hx rfl (hb hby d6_5) rfl rfl (l' := #[.val (.ref pR1), .val (.ref bR4), .unset]) rfl ?_
    refine XS.iconst X4.here hx rfl (hb hby d6_6) ?_
    refine XS.istoreN X4.here hx rfl (hb hby d6_7) rfl (l' := #[.val (.ref pR1), .val (.ref bR4), .val (.int 0)]) rfl ?_
    refine XS.iloadN X4.here hx rfl (hb hby d6_8) rfl ?_
    refine XS.aloadN X4.here hx rfl (hb hby d6_9) rfl rfl ?_
    show oS p e below T4 m 10 #[.val (.ref pR1), .val (.ref bR4), .val (.int 0)] [(.ref pR1), (.int 0)] _
    refine X4.arraylength hx (by rw [e4]; exact Arq7.1) (State.isArrayOf_alike hZ.alike Arq7.2.1) (g := (mkF m 10 #[.val (.ref pR1), .val (.ref bR4), .val (.int 0)] [(.ref pR1), (.int 0)])) rfl rfl (hb hby d6_10) _ ?_
    rw [len_of Asq7 Anq7]
    refine XS.icmpNo X4.here hx rfl (hb hby d6_11) rfl (tlt (by decide : (0 : Int32) < (3 : Int32))).2.1 ?_
    refine XS.aloadN X4.here hx rfl (hb hby d6_14) rfl rfl ?_
    refine XS.iloadN X4.here hx rfl (hb hby d6_15) rfl ?_
    refine XS.aloadN X4.here hx rfl (hb hby d6_16) rfl rfl ?_
    refine XS.iloadN X4.here hx rfl (hb hby d6_17) rfl ?_
    refine X4.aaload hx (j := (0 : Int32)) (v := (.ref pR801)) (by rw [e4]; exact Arq9.1) (State.isArrayOf_alike hZ.alike Arq9.2.1) rfl Arq9.2.2 hin10 (Has.at Ahq9 hin10 rfl) (g := (mkF m 18 #[.val (.ref pR1), .val (.ref bR4), .val (.int 0)] [(.int 0), (.ref pR1), (.int 0), (.ref bR4)])) rfl rfl (hb hby d6_18) _ ?_
    refine st11 _ ?_
    show oS p e below T11 m 22 #[.val (.ref pR1), .val (.ref bR4), .val (.int 0)] [(.ref pR801), (.int 0), (.ref bR4)] _
    refine st16 _ ?_
    refine XS.iinc X16.here hx rfl (hb hby d6_23) rfl (l' := #[.val (.ref pR1), .val (.ref bR4), .val (.int 1)]) rfl ?_
    refine XS.goto X16.here hx rfl (pc0 := 26) (pc' := 8) rfl (hb hby d6_26) (by decide) (by decide) ?_
    refine XS.iloadN X16.here hx rfl (hb hby d6_8) rfl ?_
    refine XS.aloadN X16.here hx rfl (hb hby d6_9) rfl rfl ?_
    refine X16.arraylength hx (by rw [e16]; exact Arq19.1) (State.isArrayOf_alike hZ.alike Arq19.2.1) (g := (mkF m 10 #[.val (.ref pR1), .val (.ref bR4), .val (.int 1)] [(.ref pR1), (.int 1)])) rfl rfl (hb hby d6_10) _ ?_
    rw [len_of Asq19 Anq19]
    refine XS.icmpNo X16.here hx rfl (hb hby d6_11) rfl (tlt (by decide : (1 : Int32) < (3 : Int32))).2.1 ?_
    refine XS.aloadN X16.here hx rfl (hb hby d6_14) rfl rfl ?_
    show oS p e below T16 m 15 #[.val (.ref pR1), .val (.ref bR4), .val (.int 1)] [(.ref bR4)] _
    refine XS.iloadN X16.here hx rfl (hb hby d6_15) rfl ?_
    refine XS.aloadN X16.here hx rfl (hb hby d6_16) rfl rfl ?_
    refine XS.iloadN X16.here hx rfl (hb hby d6_17) rfl ?_
    refine X16.aaload hx (j := (1 : Int32)) (v := (.ref pR802)) (by rw [e16]; exact Arq21.1) (State.isArrayOf_alike hZ.alike Arq21.2.1) rfl Arq21.2.2 hin22 (Has.at Ahq21 hin22 rfl) (g := (mkF m 18 #[.val (.ref pR1), .val (.ref bR4), .val (.int 1)] [(.int 1), (.ref pR1), (.int 1), (.ref bR4)])) rfl rfl (hb hby d6_18) _ ?_
    refine st23 _ ?_
    refine st28 _ ?_
    refine XS.iinc X28.here hx rfl (hb hby d6_23) rfl (l' := #[.val (.ref pR1), .val (.ref bR4), .val (.int 2)]) rfl ?_
    refine XS.goto X28.here hx rfl (pc0 := 26) (pc' := 8) rfl (hb hby d6_26) (by decide) (by decide) ?_
    show oS p e below T28 m 8 #[.val (.ref pR1), .val (.ref bR4), .val (.int 2)] [] _
    refine XS.iloadN X28.here hx rfl (hb hby d6_8) rfl ?_
    refine XS.aloadN X28.here hx rfl (hb hby d6_9) rfl rfl ?_
    refine X28.arraylength hx (by rw [e28]; exact Arq31.1) (State.isArrayOf_alike hZ.alike Arq31.2.1) (g := (mkF m 10 #[.val (.ref pR1), .val (.ref bR4), .val (.int 2)] [(.ref pR1), (.int 2)])) rfl rfl (hb hby d6_10) _ ?_
    rw [len_of Asq31 Anq31]
    refine XS.icmpNo X28.here hx rfl (hb hby d6_11) rfl (tlt (by decide : (2 : Int32) < (3 : Int32))).2.1 ?_
    refine XS.aloadN X28.here hx rfl (hb hby d6_14) rfl rfl ?_
    refine XS.iloadN X28.here hx rfl (hb hby d6_15) rfl ?_
    refine XS.aloadN X28.here hx rfl (hb hby d6_16) rfl rfl ?_
    refine XS.iloadN X28.here hx rfl (hb hby d6_17) rfl ?_
    show oS p e below T28 m 18 #[.val (.ref pR1), .val (.ref bR4), .val (.int 2)] [(.int 2), (.ref pR1), (.int 2), (.ref bR4)] _
    refine X28.aaload hx (j := (2 : Int32)) (v := (.ref pR802)) (by rw [e28]; exact Arq33.1) (State.isArrayOf_alike hZ.alike Arq33.2.1) rfl Arq33.2.2 hin34 (Has.at Ahq33 hin34 rfl) (g := (mkF m 18 #[.val (.ref pR1), .val (.ref bR4), .val (.int 2)] [(.int 2), (.ref pR1), (.int 2), (.ref bR4)])) rfl rfl (hb hby d6_18) _ ?_
    refine st35 _ ?_
    refine st39 _ ?_
    refine XS.iinc X39.here hx rfl (hb hby d6_23) rfl (l' := #[.val (.ref pR1), .val (.ref bR4), .val (.int 3)]) rfl ?_
    refine XS.goto X39.here hx rfl (pc0 := 26) (pc' := 8) rfl (hb hby d6_26) (by decide) (by decide) ?_
    refine XS.iloadN X39.here hx rfl (hb hby d6_8) rfl ?_
    refine XS.aloadN X39.here hx rfl (hb hby d6_9) rfl rfl ?_
    refine X39.arraylength hx (by rw [e39]; exact Arq42.1) (State.isArrayOf_alike hZ.alike Arq42.2.1) (g := (mkF m 10 #[.val (.ref pR1), .val (.ref bR4), .val (.int 3)] [(.ref pR1), (.int 3)])) rfl rfl (hb hby d6_10) _ ?_
    rw [len_of Asq42 Anq42]
    show oS p e below T39 m 11 #[.val (.ref pR1), .val (.ref bR4), .val (.int 3)] [(.int 3), (.int 3)] _
    refine XS.icmpYes X39.here hx rfl (pc0 := 11) (pc' := 29) rfl (hb hby d6_11) rfl (flt (by decide : ¬ ((3 : Int32) < (3 : Int32)))).2.1 (by decide) (by decide) ?_
    refine st44 _ ?_
    refine XS.dup X44.here hx rfl (hb hby d6_32) rfl rfl ?_
    refine XS.aloadN X44.here hx rfl (hb hby d6_33) rfl rfl ?_
    refine XS.iconst X44.here hx rfl (hb hby d6_34) ?_
    refine st50.trans ?_
    exact retOut X50 hx Bd.returns rfl (Or.inr (Or.inr (Or.inr (Or.inr ⟨rfl, rfl, rfl⟩)))) (hb hby d6_38) hr
  · show Qlfa3 Z pR1 pR801 pR802 pK2 h0 n0 _ T50.heap _
    exact ⟨bR4, bR44, k4, rfl, N50, K51, (Nat.le_of_eq g4.symm), (Nat.le_trans K40.1 (Nat.le_of_eq g44.symm)), c54, O4, x50_0, x50_1, x50_2⟩
theorem d5_59 : decode jdk_40_method_47_code 59 = .ok (.aload_n 0, 1) := by decide +kernel
theorem d5_60 : decode jdk_40_method_47_code 60 = .ok (.invokestatic 109, 3) := by decide +kernel
theorem d5_63 : decode jdk_40_method_47_code 63 = .ok (.areturn, 1) := by decide +kernel
theorem ef_of3 (m : MethodId) (pR1 : Addr) : entryFrame m #[(.ref pR1)] 2 = mkF m 0 #[.val (.ref pR1), .unset] [] := by first | (simp [entryFrame, mkF, argsToLocals, Value.category]; done) | rfl
def Qof3 (Z : State) (pR1 : Addr) (pR801 : Addr) (pR802 : Addr) (pK2 : ClassId) (h0 : Heap) (n0 : Nat) (v : Option Value) (h : Heap) (L : List Loc) : Prop := ∃ bR4_0 : Addr, ∃ bR4_1 : Addr, ∃ kK4_0 : ClassId, v = some (.ref bR4_1) ∧ Fr n0 L ∧ Keep h0 h [] ∧ h0.size ≤ bR4_0 ∧ h0.size ≤ bR4_1 ∧ Arv Z h bR4_0 kK4_0 (.object "java/lang/Object") (3 : Int32) [(.ref pR801), (.ref pR802), (.ref pR802)] .null ∧ Exa Z h bR4_1 "java/util/ImmutableCollections$ListN" ∧ Fld Z h bR4_1 "java/util/ImmutableCollections$ListN" "elements" "[Ljava/lang/Object;" (.ref bR4_0) ∧ Fld Z h bR4_1 "java/util/ImmutableCollections$ListN" "allowNulls" "Z" (.int 0)
set_option maxRecDepth 65536 in
set_option maxHeartbeats 40000000 in
theorem of3 (l : Launch) (Z : State) (a0 : Array Value) (hw : ∀ d ∈ tables_1, d.before a0 Z = true) (ws : List Jvm.Cond) (pR1 : Addr) (pR801 : Addr) (pR802 : Addr) (pK2 : ClassId) (h0 : Heap) (n0 : Nat) (Z0 : n0 ≤ h0.size) (V_pR1 : Arv Z h0 pR1 pK2 (.object "java/lang/Integer") (3 : Int32) [(.ref pR801), (.ref pR802), (.ref pR802)] .null) (E_pR801 : Exa Z h0 pR801 "java/lang/Integer") (E_pR802 : Exa Z h0 pR802 "java/lang/Integer") :
    oM l yN13 jdk_40_method_47_code 2 (some (.object "java/util/List")) ws ({ frames := 6, cells := 2, slots := 5, locals := 77 } : Room) #[(.ref pR1)] Z h0 (Qof3 Z pR1 pR801 pR802 pK2 h0 n0) := by
  refine MetFree.of_bodySF (plainFor_of_name pn_9) hisR ?_
  intro p e s m args below meth c s₁ Bd hml0 hP hK
  obtain ⟨rfl, hZ, hh⟩ := hP
  have hx := Bd.exec
  have hby := Bd.bytes
  have hml : c.maxLocals = 2 := hml0
  have hown : s.vm.findClass "java/util/List" = some m.cls := findClass_of_methodNamed Bd.named
  have hnm := (name_of_methodNamed Bd.named Bd.method).1
  have X0 : Stand p l e ({ frames := 6, cells := 2, slots := 5, locals := 77 } : Room) s m #[(.ref pR1)] below meth c s₁ [] 0 0 := Stand.of_body Bd
  have e0 : s₁.heap = h0 := by rw [← hh, Bd.state]; rfl
  have N0 := Fr.nil n0
  obtain ⟨clq3, Arq3, Akq3, Asq3, Anq3, Ahq3, Agq3⟩ := id V_pR1
  obtain ⟨_, _, ⟨T4, L4, k4, n4⟩, -, X4, ⟨Lc4, hQ4, l4, y4, z4⟩, st4⟩ := Jvm.LawKit.callS X0 hx (y := yN15) hown (mvT hZ (ow hw 30 rfl)) (mvT hZ (ow hw 31 rfl)) (mvT hZ (ow hw 32 rfl)) (mvT hZ (ow hw 33 rfl)) (by decide) (backOf (W := 0) (lfa3 l Z a0 hw [] pR1 pR801 pR802 pK2 h0 n0 Z0 V_pR1 E_pR801 E_pR802) hZ (ow hw 33 rfl) (ow hw 32 rfl) (by decide) (by decide)) (g := (mkF m 60 #[.val (.ref pR1), .unset] [(.ref pR1)])) rfl (by rw [hml]; rfl) (argsL := [(.ref pR1)]) (rest := []) (lenOf pd_7 rfl) rfl (Nat.le_refl _) (hb hby d5_60) (fun _ _ => ⟨rfl, e0, (by decide : 0 + 2 ≤ _), (by decide : 0 + 5 ≤ _)⟩)
  dsimp only [Pt.U, Pt.locs, Pt.cells, Pt.slots] at X4 l4 y4 z4 st4 hQ4
  subst l4 y4 z4
  obtain ⟨bR4_0, bR4_1, kK4_0, rfl, Nq4, Kq4, sz4_0, sz4_1, x4_0, x4_1, x4_2, x4_3, x4_4⟩ := hQ4
  have N4 := Fr.app N0 Nq4
  obtain ⟨Lh4, X4, N4⟩ := own_hide X4 N4
  have K5 : Keep h0 T4.heap [] := (Keep.refl h0 []).trans Kq4 all0
  have Z6 : n0 ≤ T4.heap.size := (Nat.le_trans Z0 Kq4.1)
  obtain ⟨fs, hr, hrun, hended, hW, hsame⟩ := X4.leave (v := some (.ref bR4_1)) (fun h => by rw [Bd.returns] at h; cases h)
  refine ⟨_, _, castTop (ef_of3 m pR1) ?_, hrun, hended, _, _, rfl, ?_, ⟨_, rfl⟩, hW, hsame.mono (by decide) (by decide)⟩
  · show oS p e below s₁ m 0 #[.val (.ref pR1), .unset] [] _
    refine XS.aloadN X0.here hx rfl (hb hby d5_0) rfl rfl ?_
    refine X0.arraylength hx (by rw [e0]; exact Arq3.1) (State.isArrayOf_alike hZ.alike Arq3.2.1) (g := (mkF m 1 #[.val (.ref pR1), .unset] [(.ref pR1)])) rfl rfl (hb hby d5_1) _ ?_
    rw [len_of Asq3 Anq3]
    refine XS.tswOut X0.here hx rfl (pc0 := 2) (pc' := 59) rfl (hb hby d5_2) rfl (by decide) (by decide) (by decide) ?_
    refine XS.aloadN X0.here hx rfl (hb hby d5_59) rfl rfl ?_
    refine st4 _ ?_
    exact retOut X4 hx Bd.returns rfl (Or.inr (Or.inr (Or.inr (Or.inr ⟨rfl, rfl, rfl⟩)))) (hb hby d5_63) hr
  · show Qof3 Z pR1 pR801 pR802 pK2 h0 n0 _ T4.heap _
    exact ⟨bR4_0, bR4_1, kK4_0, rfl, N4, K5, sz4_0, sz4_1, x4_0, x4_2, x4_3, x4_4⟩
theorem ef_eqs3 (m : MethodId) (pI1 : Int32) : entryFrame m #[(.int pI1), (.int 3)] 4 = mkF m 0 #[.val (.int pI1), .val (.int 3), .unset, .unset] [] := by first | (simp [entryFrame, mkF, argsToLocals, Value.category]; done) | rfl
def Qeqs3 (Z : State) (pI1 : Int32) (pR6 : Addr) (pC8 : Cell) (h0 : Heap) (n0 : Nat) (v : Option Value) (h : Heap) (L : List Loc) : Prop := ∃ bR41_0 : Addr, ∃ bR41_1 : Addr, ∃ bR10_0 : Addr, ∃ bR29_0 : Addr, ∃ kK41_0 : ClassId, v = some (.ref bR41_1) ∧ Fr n0 L ∧ Keep h0 h [] ∧ h0.size ≤ bR41_0 ∧ h0.size ≤ bR41_1 ∧ Exa Z h bR10_0 "java/lang/Integer" ∧ Fld Z h bR10_0 "java/lang/Integer" "value" "I" (.int (pI1 / (3 : Int32))) ∧ Exa Z h bR29_0 "java/lang/Integer" ∧ Fld Z h bR29_0 "java/lang/Integer" "value" "I" (.int ((pI1 / (3 : Int32)) + (pI1 % (3 : Int32)))) ∧ Arv Z h bR41_0 kK41_0 (.object "java/lang/Object") (3 : Int32) [(.ref bR29_0), (.ref bR10_0), (.ref bR10_0)] .null ∧ Exa Z h bR41_1 "java/util/ImmutableCollections$ListN" ∧ Fld Z h bR41_1 "java/util/ImmutableCollections$ListN" "elements" "[Ljava/lang/Object;" (.ref bR41_0) ∧ Fld Z h bR41_1 "java/util/ImmutableCollections$ListN" "allowNulls" "Z" (.int 0)
set_option maxRecDepth 65536 in
set_option maxHeartbeats 40000000 in
theorem eqs3 (l : Launch) (Z : State) (a0 : Array Value) (hw : ∀ d ∈ tables_1, d.before a0 Z = true) (ws : List Jvm.Cond) (pI1 : Int32) (pR6 : Addr) (pC8 : Cell) (h0 : Heap) (n0 : Nat) (Z0 : n0 ≤ h0.size) (S_Integer_IntegerCache_high : Sta Z h0 "java/lang/Integer$IntegerCache" "high" "I" (.int 127)) (S_Integer_IntegerCache_cache : Sta Z h0 "java/lang/Integer$IntegerCache" "cache" "[Ljava/lang/Integer;" (.ref pR6)) (B_pR6 : Bxs Z pR6 pC8 "java/lang/Integer" "I" (256 : Int32) (fun j => .int (j - 128))) (D0 : Old Z n0 h0) :
    oM l yN14 prog_51_method_10_code 4 (some (.object "java/util/List")) ws ({ frames := 7, cells := 5, slots := 10, locals := 90 } : Room) #[(.int pI1), (.int 3)] Z h0 (Qeqs3 Z pI1 pR6 pC8 h0 n0) := by
  refine MetFree.of_bodySF (plainFor_of_name pn_10) hisR ?_
  intro p e s m args below meth c s₁ Bd hml0 hP hK
  obtain ⟨rfl, hZ, hh⟩ := hP
  have hx := Bd.exec
  have hby := Bd.bytes
  have hml : c.maxLocals = 4 := hml0
  have hown : s.vm.findClass "com/example/watchful_junction/watchfuljunction/scenario/ProportionalSpec" = some m.cls := findClass_of_methodNamed Bd.named
  have hnm := (name_of_methodNamed Bd.named Bd.method).1
  have X0 : Stand p l e ({ frames := 7, cells := 5, slots := 10, locals := 90 } : Room) s m #[(.int pI1), (.int 3)] below meth c s₁ [] 0 0 := Stand.of_body Bd
  have e0 : s₁.heap = h0 := by rw [← hh, Bd.state]; rfl
  have N0 := Fr.nil n0
  obtain ⟨T2, h2, k2, X2, e2, E2, A2, O2, st2⟩ := newR X0 hx hZ hown (ow hw 5 rfl) (ow hw 6 rfl) e0 (g := (mkF m 1 #[.val (.int pI1), .val (.int 3), .unset, .unset] [(.int 3)])) rfl (hb hby d1_1) rfl (by decide) (cap := 3) (by decide) (by decide) (by decide) (by decide)
  obtain ⟨bR2, g2⟩ : ∃ z, z = h0.size := ⟨_, rfl⟩
  rw [← g2] at A2 st2
  have K3 : Keep h0 h2 [] := (Keep.refl h0 []).ext E2
  have Z4 : n0 ≤ h2.size := (Nat.le_trans Z0 E2.1)
  have V2 : Arv Z h2 bR2 k2 (.object "java/lang/Integer") (3 : Int32) [.null, .null, .null] .null := (Arv.new A2 (by decide)).pad (pad_rep [] .null 3)
  have c5 : Sta Z h2 "java/lang/Integer$IntegerCache" "high" "I" (.int 127) := S_Integer_IntegerCache_high.ext E2
  have c7 : Sta Z h2 "java/lang/Integer$IntegerCache" "cache" "[Ljava/lang/Integer;" (.ref pR6) := S_Integer_IntegerCache_cache.ext E2
  have c9 : Old Z n0 h2 := D0.ext E2
  obtain ⟨_, _, ⟨T10, L10, k10, n10⟩, -, X10, ⟨Lc10, hQ10, l10, y10, z10⟩, st10⟩ := Jvm.LawKit.callS X2 hx (y := yN2) hown (mvT hZ (ow hw 7 rfl)) (mvT hZ (ow hw 8 rfl)) (mvT hZ (ow hw 9 rfl)) (mvT hZ (ow hw 10 rfl)) (by decide) (backOf (W := 1) (vo l Z a0 hw [] (pI1 / (3 : Int32)) pR6 pC8 h2 n0 Z4 c5 c7 B_pR6 c9) hZ (ow hw 10 rfl) (ow hw 9 rfl) (by decide) (by decide)) (g := (mkF m 9 #[.val (.int pI1), .val (.int 3), .val (.ref bR2), .unset] [(.int (pI1 / (3 : Int32))), (.ref bR2)])) rfl (by rw [hml]; rfl) (argsL := [(.int (pI1 / (3 : Int32)))]) (rest := [(.ref bR2)]) (lenOf pd_4 rfl) rfl (Nat.le_refl _) (hb hby d1_9) (fun _ _ => ⟨rfl, e2, (by decide : 1 + 1 ≤ _), (by decide : 3 + 1 ≤ _)⟩)
  dsimp only [Pt.U, Pt.locs, Pt.cells, Pt.slots] at X10 l10 y10 z10 st10 hQ10
  subst l10 y10 z10
  obtain ⟨bR10_0, rfl, Nq10, Kq10, x10_0, x10_1⟩ := hQ10
  have N10 := Fr.app N0 Nq10
  obtain ⟨Lh10, X10, N10⟩ := own_hide X10 N10
  have K11 : Keep h0 T10.heap [] := K3.trans Kq10 all0
  have Z12 : n0 ≤ T10.heap.size := (Nat.le_trans Z4 Kq10.1)
  have c13 : Arv Z T10.heap bR2 k2 (.object "java/lang/Integer") (3 : Int32) [.null, .null, .null] .null := V2.keep Kq10 nin0
  have g14 : n0 ≤ bR2 := Nat.le_trans Z0 (Nat.le_of_eq g2.symm)
  obtain ⟨_, _, ⟨T15, L15, k15, n15⟩, -, X15, ⟨Lc15, hQ15, l15, y15, z15⟩, st15⟩ := Jvm.LawKit.callS X10 hx (y := yN12) hown (mvT hZ (ow hw 14 rfl)) (mvT hZ (ow hw 15 rfl)) (mvT hZ (ow hw 16 rfl)) (mvT hZ (ow hw 17 rfl)) (by decide) (backOf (W := 0) (fill3 l Z a0 hw [] bR2 bR10_0 k2 T10.heap n0 Z12 c13 O2 g14 x10_0) hZ (ow hw 17 rfl) (ow hw 16 rfl) (by decide) (by decide)) (g := (mkF m 12 #[.val (.int pI1), .val (.int 3), .val (.ref bR2), .unset] [(.ref bR10_0), (.ref bR2)])) rfl (by rw [hml]; rfl) (argsL := [(.ref bR2), (.ref bR10_0)]) (rest := []) (lenOf pd_5 rfl) rfl (Nat.le_refl _) (hb hby d1_12) (fun _ _ => ⟨rfl, rfl, (by decide : 2 + 0 ≤ _), (by decide : 4 + 0 ≤ _)⟩)
  dsimp only [Pt.U, Pt.locs, Pt.cells, Pt.slots] at X15 l15 y15 z15 st15 hQ15
  subst l15 y15 z15
  obtain ⟨rfl, Nq15, Kq15, x15_0, x15_1⟩ := hQ15
  have N15 := Fr.app N10 Nq15
  obtain ⟨Lh15, X15, N15⟩ := own_hide X15 N15
  have K16 : Keep h0 T15.heap [] := K11.trans Kq15 (allS (Or.inr (Nat.le_of_eq g2.symm)) all0)
  have Z17 : n0 ≤ T15.heap.size := (Nat.le_trans Z12 Kq15.1)
  obtain ⟨clq18, Arq18, Akq18, Asq18, Anq18, Ahq18, Agq18⟩ := id x15_0
  have hin19 : ¬ ((0 : Int32) < 0 ∨ clq18.slots.size ≤ ((0 : Int32)).toNatClampNeg) := inb_of Asq18 ⟨by decide, by decide⟩
  have c20 : Exa Z T15.heap bR10_0 "java/lang/Integer" := x10_0.keep Kq15
  have c21 : Fld Z T15.heap bR10_0 "java/lang/Integer" "value" "I" (.int (pI1 / (3 : Int32))) := x10_1.keep Kq15 (ninS (own_ne_EV c20 (ow hw 132 rfl) x15_0) nin0)
  obtain ⟨cq22, kq22, q22a, q22b, q22c⟩ := isOf hZ rfl c20
  obtain ⟨_, _, ⟨T22, L22, k22, n22⟩, -, X22, ⟨Lc22, hQ22, l22, y22, z22⟩, st22⟩ := X15.virtualBack hx (y := yN3) (z := yN3) hown (mvT hZ (ow hw 19 rfl)) (mvT hZ (ow hw 20 rfl)) (notFace_of_selects (args := #[]) (mvT hZ (ow hw 22 rfl))) (mvT hZ (ow hw 22 rfl)) (mvT hZ (ow hw 21 rfl)) (by decide) (backOf (W := 2) (intV l Z a0 hw [] bR10_0 (pI1 / (3 : Int32)) T15.heap n0 Z17 c21) hZ (ow hw 23 rfl) (ow hw 9 rfl) (by decide) (by decide)) q22a q22c (g := (mkF m 22 #[.val (.int pI1), .val (.int 3), .val (.ref bR2), .val (.ref bR2)] [(.ref bR10_0), (.int 0), (.ref bR2)])) rfl (by rw [hml]; rfl) (Steps.refl _) (argsL := []) (rest := [(.int 0), (.ref bR2)]) (lenOf pd_6 rfl) rfl (Nat.le_refl _) (hb hby d1_22) (fun _ _ => ⟨rfl, rfl, (by decide : 2 + 0 ≤ _), (by decide : 4 + 0 ≤ _)⟩)
  dsimp only [Pt.U, Pt.locs, Pt.cells, Pt.slots] at X22 l22 y22 z22 st22 hQ22
  subst l22 y22 z22
  obtain ⟨rfl, Nq22, e22⟩ := hQ22
  have N22 := Fr.app N15 Nq22
  have c23 : Sta Z T10.heap "java/lang/Integer$IntegerCache" "high" "I" (.int 127) := own_sta_keep c5 Kq10 all0
  have c24 : Sta Z T15.heap "java/lang/Integer$IntegerCache" "high" "I" (.int 127) := own_sta_keep c23 Kq15 (allS (own_plain_V c13) all0)
  have c25 : Sta Z T10.heap "java/lang/Integer$IntegerCache" "cache" "[Ljava/lang/Integer;" (.ref pR6) := own_sta_keep c7 Kq10 all0
  have c26 : Sta Z T15.heap "java/lang/Integer$IntegerCache" "cache" "[Ljava/lang/Integer;" (.ref pR6) := own_sta_keep c25 Kq15 (allS (own_plain_V c13) all0)
  have c27 : Old Z n0 T10.heap := c9.keep Kq10 all0
  have c28 : Old Z n0 T15.heap := c27.keep Kq15 (allS g14 all0)
  obtain ⟨_, _, ⟨T29, L29, k29, n29⟩, -, X29, ⟨Lc29, hQ29, l29, y29, z29⟩, st29⟩ := Jvm.LawKit.callS X22 hx (y := yN2) hown (mvT hZ (ow hw 7 rfl)) (mvT hZ (ow hw 8 rfl)) (mvT hZ (ow hw 9 rfl)) (mvT hZ (ow hw 10 rfl)) (by decide) (backOf (W := 2) (vo l Z a0 hw [] ((pI1 / (3 : Int32)) + (pI1 % (3 : Int32))) pR6 pC8 T15.heap n0 Z17 c24 c26 B_pR6 c28) hZ (ow hw 10 rfl) (ow hw 9 rfl) (by decide) (by decide)) (g := (mkF m 29 #[.val (.int pI1), .val (.int 3), .val (.ref bR2), .val (.ref bR2)] [(.int ((pI1 / (3 : Int32)) + (pI1 % (3 : Int32)))), (.int 0), (.ref bR2)])) rfl (by rw [hml]; rfl) (argsL := [(.int ((pI1 / (3 : Int32)) + (pI1 % (3 : Int32))))]) (rest := [(.int 0), (.ref bR2)]) (lenOf pd_4 rfl) rfl (Nat.le_refl _) (hb hby d1_29) (fun _ _ => ⟨rfl, e22, (by decide : 2 + 1 ≤ _), (by decide : 4 + 1 ≤ _)⟩)
  dsimp only [Pt.U, Pt.locs, Pt.cells, Pt.slots] at X29 l29 y29 z29 st29 hQ29
  subst l29 y29 z29
  obtain ⟨bR29_0, rfl, Nq29, Kq29, x29_0, x29_1⟩ := hQ29
  have N29 := Fr.app N22 Nq29
  obtain ⟨Lh29, X29, N29⟩ := own_hide X29 N29
  have K30 : Keep h0 T29.heap [] := K16.trans Kq29 all0
  have Z31 : n0 ≤ T29.heap.size := (Nat.le_trans Z17 Kq29.1)
  have c33 : Arv Z T29.heap bR2 k2 (.object "java/lang/Integer") (3 : Int32) [(.ref bR10_0), (.ref bR10_0), (.ref bR10_0)] .null := x15_0.keep Kq29 nin0
  obtain ⟨clq32, Arq32, Akq32, Asq32, Anq32, Ahq32, Agq32⟩ := id c33
  have hin34 : ¬ ((0 : Int32) < 0 ∨ clq32.slots.size ≤ ((0 : Int32)).toNatClampNeg) := inb_of Asq32 ⟨by decide, by decide⟩
  obtain ⟨T35, h35, X35, e35, W35, st35⟩ := stR X29 hx hZ rfl Arq32 (j := (0 : Int32)) hin34 rfl (Sto.ofV Arq32 Akq32 x15_1 (Ins.self x29_0)) (g := (mkF m 33 #[.val (.int pI1), .val (.int 3), .val (.ref bR2), .val (.ref bR2)] [(.ref bR29_0), (.int 0), (.ref bR2), (.ref bR29_0)])) rfl rfl (hb hby d1_33)
  have K36 : Keep h0 h35 [] := K30.wr W35 (Or.inr (Nat.le_of_eq g2.symm))
  have Z37 : n0 ≤ h35.size := (Nat.le_trans Z31 (Keep.of_wr W35).1)
  have N35 := Fr.snoc X35 N29 g14
  obtain ⟨Lh35, X35, N35⟩ := own_hide X35 N35
  have V35 : Arv Z h35 bR2 k2 (.object "java/lang/Integer") (3 : Int32) [(.ref bR29_0), (.ref bR10_0), (.ref bR10_0)] .null := Arv.set Arq32 Akq32 Asq32 Anq32 Ahq32 Agq32 rfl W35 0 rfl (Nat.le_of_ble_eq_true rfl)
  have c38 : Exa Z h35 bR29_0 "java/lang/Integer" := x29_0.wr W35
  have c39 : Exa Z T29.heap bR10_0 "java/lang/Integer" := c20.keep Kq29
  have c40 : Exa Z h35 bR10_0 "java/lang/Integer" := c39.wr W35
  obtain ⟨_, _, ⟨T41, L41, k41, n41⟩, -, X41, ⟨Lc41, hQ41, l41, y41, z41⟩, st41⟩ := Jvm.LawKit.callS X35 hx (y := yN13) hown (mvT hZ (ow hw 26 rfl)) (mvT hZ (ow hw 27 rfl)) (mvT hZ (ow hw 28 rfl)) (mvT hZ (ow hw 29 rfl)) (by decide) (backOf (W := 0) (of3 l Z a0 hw [] bR2 bR29_0 bR10_0 k2 h35 n0 Z37 V35 c38 c40) hZ (ow hw 29 rfl) (ow hw 28 rfl) (by decide) (by decide)) (g := (mkF m 36 #[.val (.int pI1), .val (.int 3), .val (.ref bR2), .val (.ref bR2)] [(.ref bR2)])) rfl (by rw [hml]; rfl) (argsL := [(.ref bR2)]) (rest := []) (lenOf pd_7 rfl) rfl (Nat.le_refl _) (hb hby d1_36) (fun _ _ => ⟨rfl, e35, (by decide : 3 + 2 ≤ _), (by decide : 5 + 5 ≤ _)⟩)
  dsimp only [Pt.U, Pt.locs, Pt.cells, Pt.slots] at X41 l41 y41 z41 st41 hQ41
  subst l41 y41 z41
  obtain ⟨bR41_0, bR41_1, kK41_0, rfl, Nq41, Kq41, sz41_0, sz41_1, x41_0, x41_1, x41_2, x41_3⟩ := hQ41
  have N41 := Fr.app N35 Nq41
  obtain ⟨Lh41, X41, N41⟩ := own_hide X41 N41
  have K42 : Keep h0 T41.heap [] := K36.trans Kq41 all0
  have Z43 : n0 ≤ T41.heap.size := (Nat.le_trans Z37 Kq41.1)
  have c44 : Exa Z T41.heap bR10_0 "java/lang/Integer" := c40.keep Kq41
  have c45 : Fld Z T29.heap bR10_0 "java/lang/Integer" "value" "I" (.int (pI1 / (3 : Int32))) := c21.keep Kq29 nin0
  have c46 : Fld Z h35 bR10_0 "java/lang/Integer" "value" "I" (.int (pI1 / (3 : Int32))) := c45.other W35 (Or.inl (own_ne_EV c20 (ow hw 132 rfl) x15_0))
  have c47 : Fld Z T41.heap bR10_0 "java/lang/Integer" "value" "I" (.int (pI1 / (3 : Int32))) := c46.keep Kq41 nin0
  have c48 : Exa Z T41.heap bR29_0 "java/lang/Integer" := c38.keep Kq41
  have c49 : Fld Z h35 bR29_0 "java/lang/Integer" "value" "I" (.int ((pI1 / (3 : Int32)) + (pI1 % (3 : Int32)))) := x29_1.other W35 (Or.inl (own_ne_EV c38 (ow hw 132 rfl) V35))
  have c50 : Fld Z T41.heap bR29_0 "java/lang/Integer" "value" "I" (.int ((pI1 / (3 : Int32)) + (pI1 % (3 : Int32)))) := c49.keep Kq41 nin0
  obtain ⟨fs, hr, hrun, hended, hW, hsame⟩ := X41.leave (v := some (.ref bR41_1)) (fun h => by rw [Bd.returns] at h; cases h)
  refine ⟨_, _, castTop (ef_eqs3 m pI1) ?_, hrun, hended, _, _, rfl, ?_, ⟨_, rfl⟩, hW, hsame.mono (by decide) (by decide)⟩
  · show oS p e below s₁ m 0 #[.val (.int pI1), .val (.int 3), .unset, .unset] [] _
    refine XS.iloadN X0.here hx rfl (hb hby d1_0) rfl ?_
    refine st2 _ ?_
    refine XS.astoreN X2.here hx rfl (hb hby d1_4) rfl rfl (l' := #[.val (.int pI1), .val (.int 3), .val (.ref bR2), .unset]) rfl ?_
    refine XS.aloadN X2.here hx rfl (hb hby d1_5) rfl rfl ?_
    refine XS.iloadN X2.here hx rfl (hb hby d1_6) rfl ?_
    refine XS.iloadN X2.here hx rfl (hb hby d1_7) rfl ?_
    refine XS.idiv X2.here hx rfl (hb hby d1_8) rfl (by decide) ?_
    refine st10 _ ?_
    show oS p e below T10 m 12 #[.val (.int pI1), .val (.int 3), .val (.ref bR2), .unset] [(.ref bR10_0), (.ref bR2)] _
    refine st15 _ ?_
    refine XS.aloadN X15.here hx rfl (hb hby d1_15) rfl rfl ?_
    refine XS.astoreN X15.here hx rfl (hb hby d1_16) rfl rfl (l' := #[.val (.int pI1), .val (.int 3), .val (.ref bR2), .val (.ref bR2)]) rfl ?_
    refine XS.aloadN X15.here hx rfl (hb hby d1_17) rfl rfl ?_
    refine XS.iconst X15.here hx rfl (hb hby d1_18) ?_
    refine XS.aloadN X15.here hx rfl (hb hby d1_19) rfl rfl ?_
    refine XS.iconst X15.here hx rfl (hb hby d1_20) ?_
    refine X15.aaload hx (j := (0 : Int32)) (v := (.ref bR10_0)) Arq18.1 (State.isArrayOf_alike hZ.alike Arq18.2.1) rfl Arq18.2.2 hin19 (Has.at Ahq18 hin19 rfl) (g := (mkF m 21 #[.val (.int pI1), .val (.int 3), .val (.ref bR2), .val (.ref bR2)] [(.int 0), (.ref bR2), (.int 0), (.ref bR2)])) rfl rfl (hb hby d1_21) _ ?_
    show oS p e below T15 m 22 #[.val (.int pI1), .val (.int 3), .val (.ref bR2), .val (.ref bR2)] [(.ref bR10_0), (.int 0), (.ref bR2)] _
    refine st22.trans ?_
    refine XS.iloadN X22.here hx rfl (hb hby d1_25) rfl ?_
    refine XS.iloadN X22.here hx rfl (hb hby d1_26) rfl ?_
    show Steps p.tables e below (T22.setTop (mkF m 27 #[.val (.int pI1), .val (.int 3), .val (.ref bR2), .val (.ref bR2)] [(.int 3), (.int pI1), (.int (pI1 / (3 : Int32))), (.int 0), (.ref bR2)])) _
    refine iremM (g := (mkF m 27 #[.val (.int pI1), .val (.int 3), .val (.ref bR2), .val (.ref bR2)] [(.int 3), (.int pI1), (.int (pI1 / (3 : Int32))), (.int 0), (.ref bR2)])) X22 hx rfl (hb hby d1_27) rfl (by decide) ?_
    refine XS.iadd X22.here hx rfl (hb hby d1_28) rfl ?_
    refine st29 _ ?_
    show Steps p.tables e below (T29.setTop (mkF m 32 #[.val (.int pI1), .val (.int 3), .val (.ref bR2), .val (.ref bR2)] [(.ref bR29_0), (.int 0), (.ref bR2)])) _
    jvm_step X29.here [X29.here.top, hx, (hb hby d1_32), Value.category]
    refine st35 _ ?_
    show oS p e below T35 m 34 #[.val (.int pI1), .val (.int 3), .val (.ref bR2), .val (.ref bR2)] [(.ref bR29_0)] _
    refine XS.pop X35.here hx rfl (hb hby d1_34) rfl rfl ?_
    refine XS.aloadN X35.here hx rfl (hb hby d1_35) rfl rfl ?_
    refine st41 _ ?_
    exact retOut X41 hx Bd.returns rfl (Or.inr (Or.inr (Or.inr (Or.inr ⟨rfl, rfl, rfl⟩)))) (hb hby d1_39) hr
  · show Qeqs3 Z pI1 pR6 pC8 h0 n0 _ T41.heap _
    exact ⟨bR41_0, bR41_1, bR10_0, bR29_0, kK41_0, rfl, N41, K42, (Nat.le_trans K36.1 sz41_0), (Nat.le_trans K36.1 sz41_1), c44, c47, c48, c50, x41_0, x41_1, x41_2, x41_3⟩
theorem ef_fill4 (m : MethodId) (pR1 : Addr) (pR2 : Addr) : entryFrame m #[(.ref pR1), (.ref pR2)] 4 = mkF m 0 #[.val (.ref pR1), .val (.ref pR2), .unset, .unset] [] := by first | (simp [entryFrame, mkF, argsToLocals, Value.category]; done) | rfl
def Qfill4 (Z : State) (pR1 : Addr) (pR2 : Addr) (pK3 : ClassId) (h0 : Heap) (n0 : Nat) (v : Option Value) (h : Heap) (L : List Loc) : Prop := v = none ∧ Fr n0 L ∧ Keep h0 h [pR1] ∧ Arv Z h pR1 pK3 (.object "java/lang/Integer") (4 : Int32) [(.ref pR2), (.ref pR2), (.ref pR2), (.ref pR2)] .null ∧ Ovr Z pK3 "java/lang/Integer"
set_option maxRecDepth 65536 in
set_option maxHeartbeats 40000000 in
theorem fill4 (l : Launch) (Z : State) (a0 : Array Value) (hw : ∀ d ∈ tables_1, d.before a0 Z = true) (ws : List Jvm.Cond) (pR1 : Addr) (pR2 : Addr) (pK3 : ClassId) (h0 : Heap) (n0 : Nat) (Z0 : n0 ≤ h0.size) (V_pR1 : Arv Z h0 pR1 pK3 (.object "java/lang/Integer") (4 : Int32) [.null, .null, .null, .null] .null) (O_pK3 : Ovr Z pK3 "java/lang/Integer") (g_pR1 : n0 ≤ pR1) (E_pR2 : Exa Z h0 pR2 "java/lang/Integer") :
    oM l yN12 jdk_65_method_117_code 4 none ws ({ frames := 0, cells := 0, slots := 0, locals := 0 } : Room) #[(.ref pR1), (.ref pR2)] Z h0 (Qfill4 Z pR1 pR2 pK3 h0 n0) := by
  refine MetFree.of_bodySF (plainFor_of_name pn_8) hisR ?_
  intro p e s m args below meth c s₁ Bd hml0 hP hK
  obtain ⟨rfl, hZ, hh⟩ := hP
  have hx := Bd.exec
  have hby := Bd.bytes
  have hml : c.maxLocals = 4 := hml0
  have hown : s.vm.findClass "java/util/Arrays" = some m.cls := findClass_of_methodNamed Bd.named
  have hnm := (name_of_methodNamed Bd.named Bd.method).1
  have X0 : Stand p l e ({ frames := 0, cells := 0, slots := 0, locals := 0 } : Room) s m #[(.ref pR1), (.ref pR2)] below meth c s₁ [] 0 0 := Stand.of_body Bd
  have e0 : s₁.heap = h0 := by rw [← hh, Bd.state]; rfl
  have N0 := Fr.nil n0
  obtain ⟨clq4, Arq4, Akq4, Asq4, Anq4, Ahq4, Agq4⟩ := id V_pR1
  obtain ⟨clq5, Arq5, Akq5, Asq5, Anq5, Ahq5, Agq5⟩ := id V_pR1
  have hin6 : ¬ ((0 : Int32) < 0 ∨ clq5.slots.size ≤ ((0 : Int32)).toNatClampNeg) := inb_of Asq5 ⟨by decide, by decide⟩
  obtain ⟨T7, h7, X7, e7, W7, st7⟩ := stR X0 hx hZ e0 Arq5 (j := (0 : Int32)) hin6 rfl (Sto.ofV Arq5 Akq5 O_pK3 (Ins.self E_pR2)) (g := (mkF m 13 #[.val (.ref pR1), .val (.ref pR2), .val (.int 0), .val (.int 4)] [(.ref pR2), (.int 0), (.ref pR1)])) rfl rfl (hb hby d3_13)
  have K8 : Keep h0 h7 [pR1] := (Keep.refl h0 [pR1]).wr W7 (Or.inl (List.mem_of_getElem? (i := 0) rfl))
  have Z9 : n0 ≤ h7.size := (Nat.le_trans Z0 (Keep.of_wr W7).1)
  have N7 := Fr.snoc X7 N0 g_pR1
  obtain ⟨Lh7, X7, N7⟩ := own_hide X7 N7
  have V7 : Arv Z h7 pR1 pK3 (.object "java/lang/Integer") (4 : Int32) [(.ref pR2), .null, .null, .null] .null := Arv.set Arq5 Akq5 Asq5 Anq5 Ahq5 Agq5 rfl W7 0 rfl (Nat.le_of_ble_eq_true rfl)
  obtain ⟨clq10, Arq10, Akq10, Asq10, Anq10, Ahq10, Agq10⟩ := id V7
  have hin11 : ¬ ((1 : Int32) < 0 ∨ clq10.slots.size ≤ ((1 : Int32)).toNatClampNeg) := inb_of Asq10 ⟨by decide, by decide⟩
  have c12 : Exa Z h7 pR2 "java/lang/Integer" := E_pR2.wr W7
  obtain ⟨T13, h13, X13, e13, W13, st13⟩ := stR X7 hx hZ e7 Arq10 (j := (1 : Int32)) hin11 rfl (Sto.ofV Arq10 Akq10 O_pK3 (Ins.self c12)) (g := (mkF m 13 #[.val (.ref pR1), .val (.ref pR2), .val (.int 1), .val (.int 4)] [(.ref pR2), (.int 1), (.ref pR1)])) rfl rfl (hb hby d3_13)
  have K14 : Keep h0 h13 [pR1] := K8.wr W13 (Or.inl (List.mem_of_getElem? (i := 0) rfl))
  have Z15 : n0 ≤ h13.size := (Nat.le_trans Z9 (Keep.of_wr W13).1)
  have N13 := Fr.snoc X13 N7 g_pR1
  obtain ⟨Lh13, X13, N13⟩ := own_hide X13 N13
  have V13 : Arv Z h13 pR1 pK3 (.object "java/lang/Integer") (4 : Int32) [(.ref pR2), (.ref pR2), .null, .null] .null := Arv.set Arq10 Akq10 Asq10 Anq10 Ahq10 Agq10 rfl W13 1 rfl (Nat.le_of_ble_eq_true rfl)
  obtain ⟨clq16, Arq16, Akq16, Asq16, Anq16, Ahq16, Agq16⟩ := id V13
  have hin17 : ¬ ((2 : Int32) < 0 ∨ clq16.slots.size ≤ ((2 : Int32)).toNatClampNeg) := inb_of Asq16 ⟨by decide, by decide⟩
  have c18 : Exa Z h13 pR2 "java/lang/Integer" := c12.wr W13
  obtain ⟨T19, h19, X19, e19, W19, st19⟩ := stR X13 hx hZ e13 Arq16 (j := (2 : Int32)) hin17 rfl (Sto.ofV Arq16 Akq16 O_pK3 (Ins.self c18)) (g := (mkF m 13 #[.val (.ref pR1), .val (.ref pR2), .val (.int 2), .val (.int 4)] [(.ref pR2), (.int 2), (.ref pR1)])) rfl rfl (hb hby d3_13)
  have K20 : Keep h0 h19 [pR1] := K14.wr W19 (Or.inl (List.mem_of_getElem? (i := 0) rfl))
  have Z21 : n0 ≤ h19.size := (Nat.le_trans Z15 (Keep.of_wr W19).1)
  have N19 := Fr.snoc X19 N13 g_pR1
  obtain ⟨Lh19, X19, N19⟩ := own_hide X19 N19
  have V19 : Arv Z h19 pR1 pK3 (.object "java/lang/Integer") (4 : Int32) [(.ref pR2), (.ref pR2), (.ref pR2), .null] .null := Arv.set Arq16 Akq16 Asq16 Anq16 Ahq16 Agq16 rfl W19 2 rfl (Nat.le_of_ble_eq_true rfl)
  obtain ⟨clq22, Arq22, Akq22, Asq22, Anq22, Ahq22, Agq22⟩ := id V19
  have hin23 : ¬ ((3 : Int32) < 0 ∨ clq22.slots.size ≤ ((3 : Int32)).toNatClampNeg) := inb_of Asq22 ⟨by decide, by decide⟩
  have c24 : Exa Z h19 pR2 "java/lang/Integer" := c18.wr W19
  obtain ⟨T25, h25, X25, e25, W25, st25⟩ := stR X19 hx hZ e19 Arq22 (j := (3 : Int32)) hin23 rfl (Sto.ofV Arq22 Akq22 O_pK3 (Ins.self c24)) (g := (mkF m 13 #[.val (.ref pR1), .val (.ref pR2), .val (.int 3), .val (.int 4)] [(.ref pR2), (.int 3), (.ref pR1)])) rfl rfl (hb hby d3_13)
  have K26 : Keep h0 h25 [pR1] := K20.wr W25 (Or.inl (List.mem_of_getElem? (i := 0) rfl))
  have Z27 : n0 ≤ h25.size := (Nat.le_trans Z21 (Keep.of_wr W25).1)
  have N25 := Fr.snoc X25 N19 g_pR1
  obtain ⟨Lh25, X25, N25⟩ := own_hide X25 N25
  have V25 : Arv Z h25 pR1 pK3 (.object "java/lang/Integer") (4 : Int32) [(.ref pR2), (.ref pR2), (.ref pR2), (.ref pR2)] .null := Arv.set Arq22 Akq22 Asq22 Anq22 Ahq22 Agq22 rfl W25 3 rfl (Nat.le_of_ble_eq_true rfl)
  obtain ⟨fs, hr, hrun, hended, hW, hsame⟩ := X25.leave (v := none) (fun _ => rfl)
  refine ⟨_, _, castTop (ef_fill4 m pR1 pR2) ?_, hrun, hended, _, _, rfl, ?_, ⟨_, rfl⟩, hW, hsame.mono (by decide) (by decide)⟩
  · show oS p e below s₁ m 0 #[.val (.ref pR1), .val (.ref pR2), .unset, .unset] [] _
    refine XS.iconst X0.here hx rfl (hb hby d3_0) ?_
    refine XS.istoreN X0.here hx rfl (hb hby d3_1) rfl (l' := #[.val (.ref pR1), .val (.ref pR2), .val (.int 0), .unset]) rfl ?_
    refine XS.aloadN X0.here hx rfl (hb hby d3_2) rfl rfl ?_
    refine X0.arraylength hx (by rw [e0]; exact Arq4.1) (State.isArrayOf_alike hZ.alike Arq4.2.1) (g := (mkF m 3 #[.val (.ref pR1), .val (.ref pR2), .val (.int 0), .unset] [(.ref pR1)])) rfl rfl (hb hby d3_3) _ ?_
    rw [len_of Asq4 Anq4]
    refine XS.istoreN X0.here hx rfl (hb hby d3_4) rfl (l' := #[.val (.ref pR1), .val (.ref pR2), .val (.int 0), .val (.int 4)]) rfl ?_
    refine XS.iloadN X0.here hx rfl (hb hby d3_5) rfl ?_
    refine XS.iloadN X0.here hx rfl (hb hby d3_6) rfl ?_
    refine XS.icmpNo X0.here hx rfl (hb hby d3_7) rfl (tlt (by decide : (0 : Int32) < (4 : Int32))).2.1 ?_
    show oS p e below s₁ m 10 #[.val (.ref pR1), .val (.ref pR2), .val (.int 0), .val (.int 4)] [] _
    refine XS.aloadN X0.here hx rfl (hb hby d3_10) rfl rfl ?_
    refine XS.iloadN X0.here hx rfl (hb hby d3_11) rfl ?_
    refine XS.aloadN X0.here hx rfl (hb hby d3_12) rfl rfl ?_
    refine st7 _ ?_
    refine XS.iinc X7.here hx rfl (hb hby d3_14) rfl (l' := #[.val (.ref pR1), .val (.ref pR2), .val (.int 1), .val (.int 4)]) rfl ?_
    refine XS.goto X7.here hx rfl (pc0 := 17) (pc' := 5) rfl (hb hby d3_17) (by decide) (by decide) ?_
    refine XS.iloadN X7.here hx rfl (hb hby d3_5) rfl ?_
    refine XS.iloadN X7.here hx rfl (hb hby d3_6) rfl ?_
    show oS p e below T7 m 7 #[.val (.ref pR1), .val (.ref pR2), .val (.int 1), .val (.int 4)] [(.int 4), (.int 1)] _
    refine XS.icmpNo X7.here hx rfl (hb hby d3_7) rfl (tlt (by decide : (1 : Int32) < (4 : Int32))).2.1 ?_
    refine XS.aloadN X7.here hx rfl (hb hby d3_10) rfl rfl ?_
    refine XS.iloadN X7.here hx rfl (hb hby d3_11) rfl ?_
    refine XS.aloadN X7.here hx rfl (hb hby d3_12) rfl rfl ?_
    refine st13 _ ?_
    refine XS.iinc X13.here hx rfl (hb hby d3_14) rfl (l' := #[.val (.ref pR1), .val (.ref pR2), .val (.int 2), .val (.int 4)]) rfl ?_
    refine XS.goto X13.here hx rfl (pc0 := 17) (pc' := 5) rfl (hb hby d3_17) (by decide) (by decide) ?_
    refine XS.iloadN X13.here hx rfl (hb hby d3_5) rfl ?_
    show oS p e below T13 m 6 #[.val (.ref pR1), .val (.ref pR2), .val (.int 2), .val (.int 4)] [(.int 2)] _
    refine XS.iloadN X13.here hx rfl (hb hby d3_6) rfl ?_
    refine XS.icmpNo X13.here hx rfl (hb hby d3_7) rfl (tlt (by decide : (2 : Int32) < (4 : Int32))).2.1 ?_
    refine XS.aloadN X13.here hx rfl (hb hby d3_10) rfl rfl ?_
    refine XS.iloadN X13.here hx rfl (hb hby d3_11) rfl ?_
    refine XS.aloadN X13.here hx rfl (hb hby d3_12) rfl rfl ?_
    refine st19 _ ?_
    refine XS.iinc X19.here hx rfl (hb hby d3_14) rfl (l' := #[.val (.ref pR1), .val (.ref pR2), .val (.int 3), .val (.int 4)]) rfl ?_
    refine XS.goto X19.here hx rfl (pc0 := 17) (pc' := 5) rfl (hb hby d3_17) (by decide) (by decide) ?_
    show oS p e below T19 m 5 #[.val (.ref pR1), .val (.ref pR2), .val (.int 3), .val (.int 4)] [] _
    refine XS.iloadN X19.here hx rfl (hb hby d3_5) rfl ?_
    refine XS.iloadN X19.here hx rfl (hb hby d3_6) rfl ?_
    refine XS.icmpNo X19.here hx rfl (hb hby d3_7) rfl (tlt (by decide : (3 : Int32) < (4 : Int32))).2.1 ?_
    refine XS.aloadN X19.here hx rfl (hb hby d3_10) rfl rfl ?_
    refine XS.iloadN X19.here hx rfl (hb hby d3_11) rfl ?_
    refine XS.aloadN X19.here hx rfl (hb hby d3_12) rfl rfl ?_
    refine st25 _ ?_
    refine XS.iinc X25.here hx rfl (hb hby d3_14) rfl (l' := #[.val (.ref pR1), .val (.ref pR2), .val (.int 4), .val (.int 4)]) rfl ?_
    show oS p e below T25 m 17 #[.val (.ref pR1), .val (.ref pR2), .val (.int 4), .val (.int 4)] [] _
    refine XS.goto X25.here hx rfl (pc0 := 17) (pc' := 5) rfl (hb hby d3_17) (by decide) (by decide) ?_
    refine XS.iloadN X25.here hx rfl (hb hby d3_5) rfl ?_
    refine XS.iloadN X25.here hx rfl (hb hby d3_6) rfl ?_
    refine XS.icmpYes X25.here hx rfl (pc0 := 7) (pc' := 20) rfl (hb hby d3_7) rfl (flt (by decide : ¬ ((4 : Int32) < (4 : Int32)))).2.1 (by decide) (by decide) ?_
    exact X25.returnOut hx Bd.returns (hb hby d3_20) hr
  · show Qfill4 Z pR1 pR2 pK3 h0 n0 _ T25.heap _
    rw [e25]
    exact ⟨rfl, N25, K26, V25, O_pK3⟩
theorem ef_lfa4 (m : MethodId) (pR1 : Addr) : entryFrame m #[(.ref pR1)] 3 = mkF m 0 #[.val (.ref pR1), .unset, .unset] [] := by first | (simp [entryFrame, mkF, argsToLocals, Value.category]; done) | rfl
def Qlfa4 (Z : State) (pR1 : Addr) (pR801 : Addr) (pR802 : Addr) (pK2 : ClassId) (h0 : Heap) (n0 : Nat) (v : Option Value) (h : Heap) (L : List Loc) : Prop := ∃ bR4 : Addr, ∃ bR55 : Addr, ∃ k4 : ClassId, v = some (.ref bR55) ∧ Fr n0 L ∧ Keep h0 h [] ∧ h0.size ≤ bR4 ∧ h0.size ≤ bR55 ∧ Arv Z h bR4 k4 (.object "java/lang/Object") (4 : Int32) [(.ref pR801), (.ref pR802), (.ref pR802), (.ref pR802)] .null ∧ Ovr Z k4 "java/lang/Object" ∧ Exa Z h bR55 "java/util/ImmutableCollections$ListN" ∧ Fld Z h bR55 "java/util/ImmutableCollections$ListN" "elements" "[Ljava/lang/Object;" (.ref bR4) ∧ Fld Z h bR55 "java/util/ImmutableCollections$ListN" "allowNulls" "Z" (.int 0)
set_option maxRecDepth 65536 in
set_option maxHeartbeats 40000000 in
theorem lfa4 (l : Launch) (Z : State) (a0 : Array Value) (hw : ∀ d ∈ tables_1, d.before a0 Z = true) (ws : List Jvm.Cond) (pR1 : Addr) (pR801 : Addr) (pR802 : Addr) (pK2 : ClassId) (h0 : Heap) (n0 : Nat) (Z0 : n0 ≤ h0.size) (V_pR1 : Arv Z h0 pR1 pK2 (.object "java/lang/Integer") (4 : Int32) [(.ref pR801), (.ref pR802), (.ref pR802), (.ref pR802)] .null) (E_pR801 : Exa Z h0 pR801 "java/lang/Integer") (E_pR802 : Exa Z h0 pR802 "java/lang/Integer") :
    oM l yN15 jdk_56_method_4_code 3 (some (.object "java/util/List")) ws ({ frames := 5, cells := 2, slots := 6, locals := 63 } : Room) #[(.ref pR1)] Z h0 (Qlfa4 Z pR1 pR801 pR802 pK2 h0 n0) := by
  refine MetFree.of_bodySF (plainFor_of_name pn_11) hisR ?_
  intro p e s m args below meth c s₁ Bd hml0 hP hK
  obtain ⟨rfl, hZ, hh⟩ := hP
  have hx := Bd.exec
  have hby := Bd.bytes
  have hml : c.maxLocals = 3 := hml0
  have hown : s.vm.findClass "java/util/ImmutableCollections" = some m.cls := findClass_of_methodNamed Bd.named
  have hnm := (name_of_methodNamed Bd.named Bd.method).1
  have X0 : Stand p l e ({ frames := 5, cells := 2, slots := 6, locals := 63 } : Room) s m #[(.ref pR1)] below meth c s₁ [] 0 0 := Stand.of_body Bd
  have e0 : s₁.heap = h0 := by rw [← hh, Bd.state]; rfl
  have N0 := Fr.nil n0
  obtain ⟨clq3, Arq3, Akq3, Asq3, Anq3, Ahq3, Agq3⟩ := id V_pR1
  obtain ⟨T4, h4, k4, X4, e4, E4, A4, O4, st4⟩ := newR X0 hx hZ hown (ow hw 34 rfl) (ow hw 35 rfl) e0 (g := (mkF m 2 #[.val (.ref pR1), .unset, .unset] [(.int 4)])) rfl (hb hby d6_2) rfl (by decide) (cap := 4) (by decide) (by decide) (by decide) (by decide)
  obtain ⟨bR4, g4⟩ : ∃ z, z = h0.size := ⟨_, rfl⟩
  rw [← g4] at A4 st4
  have K5 : Keep h0 h4 [] := (Keep.refl h0 []).ext E4
  have Z6 : n0 ≤ h4.size := (Nat.le_trans Z0 E4.1)
  have V4 : Arv Z h4 bR4 k4 (.object "java/lang/Object") (4 : Int32) [.null, .null, .null, .null] .null := (Arv.new A4 (by decide)).pad (pad_rep [] .null 4)
  have c8 : Arv Z h4 pR1 pK2 (.object "java/lang/Integer") (4 : Int32) [(.ref pR801), (.ref pR802), (.ref pR802), (.ref pR802)] .null := V_pR1.ext E4
  obtain ⟨clq7, Arq7, Akq7, Asq7, Anq7, Ahq7, Agq7⟩ := id c8
  obtain ⟨clq9, Arq9, Akq9, Asq9, Anq9, Ahq9, Agq9⟩ := id c8
  have hin10 : ¬ ((0 : Int32) < 0 ∨ clq9.slots.size ≤ ((0 : Int32)).toNatClampNeg) := inb_of Asq9 ⟨by decide, by decide⟩
  obtain ⟨_, _, ⟨T11, L11, k11, n11⟩, -, X11, ⟨Lc11, hQ11, l11, y11, z11⟩, st11⟩ := Jvm.LawKit.callS X4 hx (y := yN5) hown (mvT hZ (ow hw 36 rfl)) (mvT hZ (ow hw 37 rfl)) (mvT hZ (ow hw 38 rfl)) (mvT hZ (ow hw 39 rfl)) (by decide) (backOf (W := 2) (rnn l Z a0 hw [] pR801 h4 n0 Z6 ) hZ (ow hw 39 rfl) (ow hw 38 rfl) (by decide) (by decide)) (g := (mkF m 19 #[.val (.ref pR1), .val (.ref bR4), .val (.int 0)] [(.ref pR801), (.int 0), (.ref bR4)])) rfl (by rw [hml]; rfl) (argsL := [(.ref pR801)]) (rest := [(.int 0), (.ref bR4)]) (lenOf pd_2 rfl) rfl (Nat.le_refl _) (hb hby d6_19) (fun _ _ => ⟨rfl, e4, (by decide : 1 + 0 ≤ _), (by decide : 4 + 0 ≤ _)⟩)
  dsimp only [Pt.U, Pt.locs, Pt.cells, Pt.slots] at X11 l11 y11 z11 st11 hQ11
  subst l11 y11 z11
  obtain ⟨rfl, Nq11, e11⟩ := hQ11
  have N11 := Fr.app N0 Nq11
  have g12 : n0 ≤ bR4 := Nat.le_trans Z0 (Nat.le_of_eq g4.symm)
  obtain ⟨clq13, Arq13, Akq13, Asq13, Anq13, Ahq13, Agq13⟩ := id V4
  have hin14 : ¬ ((0 : Int32) < 0 ∨ clq13.slots.size ≤ ((0 : Int32)).toNatClampNeg) := inb_of Asq13 ⟨by decide, by decide⟩
  have c15 : Exa Z h4 pR801 "java/lang/Integer" := E_pR801.ext E4
  obtain ⟨T16, h16, X16, e16, W16, st16⟩ := stR X11 hx hZ e11 Arq13 (j := (0 : Int32)) hin14 rfl (Sto.ofV Arq13 Akq13 O4 (Ins.of_exa c15 (ow hw 40 rfl))) (g := (mkF m 22 #[.val (.ref pR1), .val (.ref bR4), .val (.int 0)] [(.ref pR801), (.int 0), (.ref bR4)])) rfl rfl (hb hby d6_22)
  have K17 : Keep h0 h16 [] := K5.wr W16 (Or.inr (Nat.le_of_eq g4.symm))
  have Z18 : n0 ≤ h16.size := (Nat.le_trans Z6 (Keep.of_wr W16).1)
  have N16 := Fr.snoc X16 N11 g12
  obtain ⟨Lh16, X16, N16⟩ := own_hide X16 N16
  have V16 : Arv Z h16 bR4 k4 (.object "java/lang/Object") (4 : Int32) [(.ref pR801), .null, .null, .null] .null := Arv.set Arq13 Akq13 Asq13 Anq13 Ahq13 Agq13 rfl W16 0 rfl (Nat.le_of_ble_eq_true rfl)
  have c20 : Arv Z h16 pR1 pK2 (.object "java/lang/Integer") (4 : Int32) [(.ref pR801), (.ref pR802), (.ref pR802), (.ref pR802)] .null := c8.other W16 (Nat.ne_of_lt (Nat.lt_of_lt_of_le V_pR1.lt (Nat.le_of_eq g4.symm)))
  obtain ⟨clq19, Arq19, Akq19, Asq19, Anq19, Ahq19, Agq19⟩ := id c20
  obtain ⟨clq21, Arq21, Akq21, Asq21, Anq21, Ahq21, Agq21⟩ := id c20
  have hin22 : ¬ ((1 : Int32) < 0 ∨ clq21.slots.size ≤ ((1 : Int32)).toNatClampNeg) := inb_of Asq21 ⟨by decide, by decide⟩
  obtain ⟨_, _, ⟨T23, L23, k23, n23⟩, -, X23, ⟨Lc23, hQ23, l23, y23, z23⟩, st23⟩ := Jvm.LawKit.callS X16 hx (y := yN5) hown (mvT hZ (ow hw 36 rfl)) (mvT hZ (ow hw 37 rfl)) (mvT hZ (ow hw 38 rfl)) (mvT hZ (ow hw 39 rfl)) (by decide) (backOf (W := 2) (rnn l Z a0 hw [] pR802 h16 n0 Z18 ) hZ (ow hw 39 rfl) (ow hw 38 rfl) (by decide) (by decide)) (g := (mkF m 19 #[.val (.ref pR1), .val (.ref bR4), .val (.int 1)] [(.ref pR802), (.int 1), (.ref bR4)])) rfl (by rw [hml]; rfl) (argsL := [(.ref pR802)]) (rest := [(.int 1), (.ref bR4)]) (lenOf pd_2 rfl) rfl (Nat.le_refl _) (hb hby d6_19) (fun _ _ => ⟨rfl, e16, (by decide : 1 + 0 ≤ _), (by decide : 4 + 0 ≤ _)⟩)
  dsimp only [Pt.U, Pt.locs, Pt.cells, Pt.slots] at X23 l23 y23 z23 st23 hQ23
  subst l23 y23 z23
  obtain ⟨rfl, Nq23, e23⟩ := hQ23
  have N23 := Fr.app N16 Nq23
  obtain ⟨clq24, Arq24, Akq24, Asq24, Anq24, Ahq24, Agq24⟩ := id V16
  have hin25 : ¬ ((1 : Int32) < 0 ∨ clq24.slots.size ≤ ((1 : Int32)).toNatClampNeg) := inb_of Asq24 ⟨by decide, by decide⟩
  have c26 : Exa Z h4 pR802 "java/lang/Integer" := E_pR802.ext E4
  have c27 : Exa Z h16 pR802 "java/lang/Integer" := c26.wr W16
  obtain ⟨T28, h28, X28, e28, W28, st28⟩ := stR X23 hx hZ e23 Arq24 (j := (1 : Int32)) hin25 rfl (Sto.ofV Arq24 Akq24 O4 (Ins.of_exa c27 (ow hw 40 rfl))) (g := (mkF m 22 #[.val (.ref pR1), .val (.ref bR4), .val (.int 1)] [(.ref pR802), (.int 1), (.ref bR4)])) rfl rfl (hb hby d6_22)
  have K29 : Keep h0 h28 [] := K17.wr W28 (Or.inr (Nat.le_of_eq g4.symm))
  have Z30 : n0 ≤ h28.size := (Nat.le_trans Z18 (Keep.of_wr W28).1)
  have N28 := Fr.snoc X28 N23 g12
  obtain ⟨Lh28, X28, N28⟩ := own_hide X28 N28
  have V28 : Arv Z h28 bR4 k4 (.object "java/lang/Object") (4 : Int32) [(.ref pR801), (.ref pR802), .null, .null] .null := Arv.set Arq24 Akq24 Asq24 Anq24 Ahq24 Agq24 rfl W28 1 rfl (Nat.le_of_ble_eq_true rfl)
  have c32 : Arv Z h28 pR1 pK2 (.object "java/lang/Integer") (4 : Int32) [(.ref pR801), (.ref pR802), (.ref pR802), (.ref pR802)] .null := c20.other W28 (Nat.ne_of_lt (Nat.lt_of_lt_of_le V_pR1.lt (Nat.le_of_eq g4.symm)))
  obtain ⟨clq31, Arq31, Akq31, Asq31, Anq31, Ahq31, Agq31⟩ := id c32
  obtain ⟨clq33, Arq33, Akq33, Asq33, Anq33, Ahq33, Agq33⟩ := id c32
  have hin34 : ¬ ((2 : Int32) < 0 ∨ clq33.slots.size ≤ ((2 : Int32)).toNatClampNeg) := inb_of Asq33 ⟨by decide, by decide⟩
  obtain ⟨_, _, ⟨T35, L35, k35, n35⟩, -, X35, ⟨Lc35, hQ35, l35, y35, z35⟩, st35⟩ := Jvm.LawKit.callS X28 hx (y := yN5) hown (mvT hZ (ow hw 36 rfl)) (mvT hZ (ow hw 37 rfl)) (mvT hZ (ow hw 38 rfl)) (mvT hZ (ow hw 39 rfl)) (by decide) (backOf (W := 2) (rnn l Z a0 hw [] pR802 h28 n0 Z30 ) hZ (ow hw 39 rfl) (ow hw 38 rfl) (by decide) (by decide)) (g := (mkF m 19 #[.val (.ref pR1), .val (.ref bR4), .val (.int 2)] [(.ref pR802), (.int 2), (.ref bR4)])) rfl (by rw [hml]; rfl) (argsL := [(.ref pR802)]) (rest := [(.int 2), (.ref bR4)]) (lenOf pd_2 rfl) rfl (Nat.le_refl _) (hb hby d6_19) (fun _ _ => ⟨rfl, e28, (by decide : 1 + 0 ≤ _), (by decide : 4 + 0 ≤ _)⟩)
  dsimp only [Pt.U, Pt.locs, Pt.cells, Pt.slots] at X35 l35 y35 z35 st35 hQ35
  subst l35 y35 z35
  obtain ⟨rfl, Nq35, e35⟩ := hQ35
  have N35 := Fr.app N28 Nq35
  obtain ⟨clq36, Arq36, Akq36, Asq36, Anq36, Ahq36, Agq36⟩ := id V28
  have hin37 : ¬ ((2 : Int32) < 0 ∨ clq36.slots.size ≤ ((2 : Int32)).toNatClampNeg) := inb_of Asq36 ⟨by decide, by decide⟩
  have c38 : Exa Z h28 pR802 "java/lang/Integer" := c27.wr W28
  obtain ⟨T39, h39, X39, e39, W39, st39⟩ := stR X35 hx hZ e35 Arq36 (j := (2 : Int32)) hin37 rfl (Sto.ofV Arq36 Akq36 O4 (Ins.of_exa c38 (ow hw 40 rfl))) (g := (mkF m 22 #[.val (.ref pR1), .val (.ref bR4), .val (.int 2)] [(.ref pR802), (.int 2), (.ref bR4)])) rfl rfl (hb hby d6_22)
  have K40 : Keep h0 h39 [] := K29.wr W39 (Or.inr (Nat.le_of_eq g4.symm))
  have Z41 : n0 ≤ h39.size := (Nat.le_trans Z30 (Keep.of_wr W39).1)
  have N39 := Fr.snoc X39 N35 g12
  obtain ⟨Lh39, X39, N39⟩ := own_hide X39 N39
  have V39 : Arv Z h39 bR4 k4 (.object "java/lang/Object") (4 : Int32) [(.ref pR801), (.ref pR802), (.ref pR802), .null] .null := Arv.set Arq36 Akq36 Asq36 Anq36 Ahq36 Agq36 rfl W39 2 rfl (Nat.le_of_ble_eq_true rfl)
  have c43 : Arv Z h39 pR1 pK2 (.object "java/lang/Integer") (4 : Int32) [(.ref pR801), (.ref pR802), (.ref pR802), (.ref pR802)] .null := c32.other W39 (Nat.ne_of_lt (Nat.lt_of_lt_of_le V_pR1.lt (Nat.le_of_eq g4.symm)))
  obtain ⟨clq42, Arq42, Akq42, Asq42, Anq42, Ahq42, Agq42⟩ := id c43
  obtain ⟨clq44, Arq44, Akq44, Asq44, Anq44, Ahq44, Agq44⟩ := id c43
  have hin45 : ¬ ((3 : Int32) < 0 ∨ clq44.slots.size ≤ ((3 : Int32)).toNatClampNeg) := inb_of Asq44 ⟨by decide, by decide⟩
  obtain ⟨_, _, ⟨T46, L46, k46, n46⟩, -, X46, ⟨Lc46, hQ46, l46, y46, z46⟩, st46⟩ := Jvm.LawKit.callS X39 hx (y := yN5) hown (mvT hZ (ow hw 36 rfl)) (mvT hZ (ow hw 37 rfl)) (mvT hZ (ow hw 38 rfl)) (mvT hZ (ow hw 39 rfl)) (by decide) (backOf (W := 2) (rnn l Z a0 hw [] pR802 h39 n0 Z41 ) hZ (ow hw 39 rfl) (ow hw 38 rfl) (by decide) (by decide)) (g := (mkF m 19 #[.val (.ref pR1), .val (.ref bR4), .val (.int 3)] [(.ref pR802), (.int 3), (.ref bR4)])) rfl (by rw [hml]; rfl) (argsL := [(.ref pR802)]) (rest := [(.int 3), (.ref bR4)]) (lenOf pd_2 rfl) rfl (Nat.le_refl _) (hb hby d6_19) (fun _ _ => ⟨rfl, e39, (by decide : 1 + 0 ≤ _), (by decide : 4 + 0 ≤ _)⟩)
  dsimp only [Pt.U, Pt.locs, Pt.cells, Pt.slots] at X46 l46 y46 z46 st46 hQ46
  subst l46 y46 z46
  obtain ⟨rfl, Nq46, e46⟩ := hQ46
  have N46 := Fr.app N39 Nq46
  obtain ⟨clq47, Arq47, Akq47, Asq47, Anq47, Ahq47, Agq47⟩ := id V39
  have hin48 : ¬ ((3 : Int32) < 0 ∨ clq47.slots.size ≤ ((3 : Int32)).toNatClampNeg) := inb_of Asq47 ⟨by decide, by decide⟩
  have c49 : Exa Z h39 pR802 "java/lang/Integer" := c38.wr W39
  obtain ⟨T50, h50, X50, e50, W50, st50⟩ := stR X46 hx hZ e46 Arq47 (j := (3 : Int32)) hin48 rfl (Sto.ofV Arq47 Akq47 O4 (Ins.of_exa c49 (ow hw 40 rfl))) (g := (mkF m 22 #[.val (.ref pR1), .val (.ref bR4), .val (.int 3)] [(.ref pR802), (.int 3), (.ref bR4)])) rfl rfl (hb hby d6_22)
  have K51 : Keep h0 h50 [] := K40.wr W50 (Or.inr (Nat.le_of_eq g4.symm))
  have Z52 : n0 ≤ h50.size := (Nat.le_trans Z41 (Keep.of_wr W50).1)
  have N50 := Fr.snoc X50 N46 g12
  obtain ⟨Lh50, X50, N50⟩ := own_hide X50 N50
  have V50 : Arv Z h50 bR4 k4 (.object "java/lang/Object") (4 : Int32) [(.ref pR801), (.ref pR802), (.ref pR802), (.ref pR802)] .null := Arv.set Arq47 Akq47 Asq47 Anq47 Ahq47 Agq47 rfl W50 3 rfl (Nat.le_of_ble_eq_true rfl)
  have c54 : Arv Z h50 pR1 pK2 (.object "java/lang/Integer") (4 : Int32) [(.ref pR801), (.ref pR802), (.ref pR802), (.ref pR802)] .null := c43.other W50 (Nat.ne_of_lt (Nat.lt_of_lt_of_le V_pR1.lt (Nat.le_of_eq g4.symm)))
  obtain ⟨clq53, Arq53, Akq53, Asq53, Anq53, Ahq53, Agq53⟩ := id c54
  obtain ⟨T55, h55, X55, e55, E55, A55, D55, U55, st55⟩ := newO X50 hx hZ hown (ow hw 41 rfl) (ow hw 42 rfl) (ow hw 43 rfl) e50 (g := (mkF m 29 #[.val (.ref pR1), .val (.ref bR4), .val (.int 4)] [])) rfl (hb hby d6_29) (by decide) (by decide)
  obtain ⟨bR55, g55⟩ : ∃ z, z = h50.size := ⟨_, rfl⟩
  rw [← g55] at A55 D55 U55 st55
  have K56 : Keep h0 h55 [] := K51.ext E55
  have Z57 : n0 ≤ h55.size := (Nat.le_trans Z52 E55.1)
  have F58 : Fld Z h55 bR55 "java/util/ImmutableCollections$ListN" "elements" "[Ljava/lang/Object;" .null := D55 (Or.inr (ow hw 70 rfl)) (ty := (.array (.object "java/lang/Object"))) (by decide)
  have F59 : Fld Z h55 bR55 "java/util/ImmutableCollections$ListN" "allowNulls" "Z" (.int 0) := D55 (Or.inr (ow hw 72 rfl)) (ty := .boolean) (by decide)
  have g60 : n0 ≤ bR55 := Nat.le_trans Z52 (Nat.le_of_eq g55.symm)
  obtain ⟨_, _, ⟨T61, L61, k61, n61⟩, -, X61, ⟨Lc61, hQ61, l61, y61, z61⟩, st61⟩ := X55.specialBackNest hx (y := yN9) rfl hown (own_mvM hZ (ow hw 44 rfl)) (mvT hZ (ow hw 45 rfl)) (mvT hZ (ow hw 47 rfl)) (by decide) (backOf (W := 1) (lnI l Z a0 hw [] bR55 bR4 h55 n0 Z57 A55 F58 g60 F59) hZ (ow hw 47 rfl) (ow hw 43 rfl) (by decide) (by decide)) (g := (mkF m 35 #[.val (.ref pR1), .val (.ref bR4), .val (.int 4)] [(.int 0), (.ref bR4), (.ref bR55), (.ref bR55)])) rfl (by rw [hml]; rfl) (Steps.refl _) (a := bR55) (argsL := [(.ref bR4), (.int 0)]) (rest := [(.ref bR55)]) (lenOf pd_9 rfl) rfl (Nat.le_refl _) (hb hby d6_35) (fun _ _ => ⟨rfl, e55, (by decide : 2 + 0 ≤ _), (by decide : 6 + 0 ≤ _)⟩)
  dsimp only [Pt.U, Pt.locs, Pt.cells, Pt.slots] at X61 l61 y61 z61 st61 hQ61
  subst l61 y61 z61
  obtain ⟨rfl, Nq61, Kq61, x61_0, x61_1, x61_2⟩ := hQ61
  have N61 := Fr.app N50 Nq61
  obtain ⟨Lh61, X61, N61⟩ := own_hide X61 N61
  have K62 : Keep h0 T61.heap [] := K56.trans Kq61 (allS (Or.inr (Nat.le_trans K51.1 (Nat.le_of_eq g55.symm))) all0)
  have Z63 : n0 ≤ T61.heap.size := (Nat.le_trans Z57 Kq61.1)
  have c64 : Arv Z h55 bR4 k4 (.object "java/lang/Object") (4 : Int32) [(.ref pR801), (.ref pR802), (.ref pR802), (.ref pR802)] .null := V50.ext E55
  have c65 : Arv Z T61.heap bR4 k4 (.object "java/lang/Object") (4 : Int32) [(.ref pR801), (.ref pR802), (.ref pR802), (.ref pR802)] .null := c64.keep Kq61 (ninS (Nat.ne_of_lt (Nat.lt_of_lt_of_le V50.lt (Nat.le_of_eq g55.symm))) nin0)
  obtain ⟨fs, hr, hrun, hended, hW, hsame⟩ := X61.leave (v := some (.ref bR55)) (fun h => by rw [Bd.returns] at h; cases h)
  refine ⟨_, _, castTop (ef_lfa4 m pR1) ?_, hrun, hended, _, _, rfl, ?_, ⟨_, rfl⟩, hW, hsame.mono (by decide) (by decide)⟩
  · show oS p e below s₁ m 0 #[.val (.ref pR1), .unset, .unset] [] _
    refine XS.aloadN X0.here hx rfl (hb hby d6_0) rfl rfl ?_
    refine X0.arraylength hx (by rw [e0]; exact Arq3.1) (State.isArrayOf_alike hZ.alike Arq3.2.1) (g := (mkF m 1 #[.val (.ref pR1), .unset, .unset] [(.ref pR1)])) rfl rfl (hb hby d6_1) _ ?_
    rw [len_of Asq3 Anq3]
    refine st4 _ ?_
    refine XS.astoreN X4.here hx rfl (hb hby d6_5) rfl rfl (l' := #[.val (.ref pR1), .val (.ref bR4), .unset]) rfl ?_
    refine XS.iconst X4.here hx rfl (hb hby d6_6) ?_
    refine XS.istoreN X4.here hx rfl (hb hby d6_7) rfl (l' := #[.val (.ref pR1), .val (.ref bR4), .val (.int 0)]) rfl ?_
    refine XS.iloadN X4.here hx rfl (hb hby d6_8) rfl ?_
    refine XS.aloadN X4.here hx rfl (hb hby d6_9) rfl rfl ?_
    show oS p e below T4 m 10 #[.val (.ref pR1), .val (.ref bR4), .val (.int 0)] [(.ref pR1), (.int 0)] _
    refine X4.arraylength hx (by rw [e4]; exact Arq7.1) (State.isArrayOf_alike hZ.alike Arq7.2.1) (g := (mkF m 10 #[.val (.ref pR1), .val (.ref bR4), .val (.int 0)] [(.ref pR1), (.int 0)])) rfl rfl (hb hby d6_10) _ ?_
    rw [len_of Asq7 Anq7]
    refine XS.icmpNo X4.here hx rfl (hb hby d6_11) rfl (tlt (by decide : (0 : Int32) < (4 : Int32))).2.1 ?_
    refine XS.aloadN X4.here hx rfl (hb hby d6_14) rfl rfl ?_
    refine XS.iloadN X4.here hx rfl (hb hby d6_15) rfl ?_
    refine XS.aloadN X4.here hx rfl (hb hby d6_16) rfl rfl ?_
    refine XS.iloadN X4.here hx rfl (hb hby d6_17) rfl ?_
    refine X4.aaload hx (j := (0 : Int32)) (v := (.ref pR801)) (by rw [e4]; exact Arq9.1) (State.isArrayOf_alike hZ.alike Arq9.2.1) rfl Arq9.2.2 hin10 (Has.at Ahq9 hin10 rfl) (g := (mkF m 18 #[.val (.ref pR1), .val (.ref bR4), .val (.int 0)] [(.int 0), (.ref pR1), (.int 0), (.ref bR4)])) rfl rfl (hb hby d6_18) _ ?_
    refine st11 _ ?_
    show oS p e below T11 m 22 #[.val (.ref pR1), .val (.ref bR4), .val (.int 0)] [(.ref pR801), (.int 0), (.ref bR4)] _
    refine st16 _ ?_
    refine XS.iinc X16.here hx rfl (hb hby d6_23) rfl (l' := #[.val (.ref pR1), .val (.ref bR4), .val (.int 1)]) rfl ?_
    refine XS.goto X16.here hx rfl (pc0 := 26) (pc' := 8) rfl (hb hby d6_26) (by decide) (by decide) ?_
    refine XS.iloadN X16.here hx rfl (hb hby d6_8) rfl ?_
    refine XS.aloadN X16.here hx rfl (hb hby d6_9) rfl rfl ?_
    refine X16.arraylength hx (by rw [e16]; exact Arq19.1) (State.isArrayOf_alike hZ.alike Arq19.2.1) (g := (mkF m 10 #[.val (.ref pR1), .val (.ref bR4), .val (.int 1)] [(.ref pR1), (.int 1)])) rfl rfl (hb hby d6_10) _ ?_
    rw [len_of Asq19 Anq19]
    refine XS.icmpNo X16.here hx rfl (hb hby d6_11) rfl (tlt (by decide : (1 : Int32) < (4 : Int32))).2.1 ?_
    refine XS.aloadN X16.here hx rfl (hb hby d6_14) rfl rfl ?_
    show oS p e below T16 m 15 #[.val (.ref pR1), .val (.ref bR4), .val (.int 1)] [(.ref bR4)] _
    refine XS.iloadN X16.here hx rfl (hb hby d6_15) rfl ?_
    refine XS.aloadN X16.here hx rfl (hb hby d6_16) rfl rfl ?_
    refine XS.iloadN X16.here hx rfl (hb hby d6_17) rfl ?_
    refine X16.aaload hx (j := (1 : Int32)) (v := (.ref pR802)) (by rw [e16]; exact Arq21.1) (State.isArrayOf_alike hZ.alike Arq21.2.1) rfl Arq21.2.2 hin22 (Has.at Ahq21 hin22 rfl) (g := (mkF m 18 #[.val (.ref pR1), .val (.ref bR4), .val (.int 1)] [(.int 1), (.ref pR1), (.int 1), (.ref bR4)])) rfl rfl (hb hby d6_18) _ ?_
    refine st23 _ ?_
    refine st28 _ ?_
    refine XS.iinc X28.here hx rfl (hb hby d6_23) rfl (l' := #[.val (.ref pR1), .val (.ref bR4), .val (.int 2)]) rfl ?_
    refine XS.goto X28.here hx rfl (pc0 := 26) (pc' := 8) rfl (hb hby d6_26) (by decide) (by decide) ?_
    show oS p e below T28 m 8 #[.val (.ref pR1), .val (.ref bR4), .val (.int 2)] [] _
    refine XS.iloadN X28.here hx rfl (hb hby d6_8) rfl ?_
    refine XS.aloadN X28.here hx rfl (hb hby d6_9) rfl rfl ?_
    refine X28.arraylength hx (by rw [e28]; exact Arq31.1) (State.isArrayOf_alike hZ.alike Arq31.2.1) (g := (mkF m 10 #[.val (.ref pR1), .val (.ref bR4), .val (.int 2)] [(.ref pR1), (.int 2)])) rfl rfl (hb hby d6_10) _ ?_
    rw [len_of Asq31 Anq31]
    refine XS.icmpNo X28.here hx rfl (hb hby d6_11) rfl (tlt (by decide : (2 : Int32) < (4 : Int32))).2.1 ?_
    refine XS.aloadN X28.here hx rfl (hb hby d6_14) rfl rfl ?_
    refine XS.iloadN X28.here hx rfl (hb hby d6_15) rfl ?_
    refine XS.aloadN X28.here hx rfl (hb hby d6_16) rfl rfl ?_
    refine XS.iloadN X28.here hx rfl (hb hby d6_17) rfl ?_
    show oS p e below T28 m 18 #[.val (.ref pR1), .val (.ref bR4), .val (.int 2)] [(.int 2), (.ref pR1), (.int 2), (.ref bR4)] _
    refine X28.aaload hx (j := (2 : Int32)) (v := (.ref pR802)) (by rw [e28]; exact Arq33.1) (State.isArrayOf_alike hZ.alike Arq33.2.1) rfl Arq33.2.2 hin34 (Has.at Ahq33 hin34 rfl) (g := (mkF m 18 #[.val (.ref pR1), .val (.ref bR4), .val (.int 2)] [(.int 2), (.ref pR1), (.int 2), (.ref bR4)])) rfl rfl (hb hby d6_18) _ ?_
    refine st35 _ ?_
    refine st39 _ ?_
    refine XS.iinc X39.here hx rfl (hb hby d6_23) rfl (l' := #[.val (.ref pR1), .val (.ref bR4), .val (.int 3)]) rfl ?_
    refine XS.goto X39.here hx rfl (pc0 := 26) (pc' := 8) rfl (hb hby d6_26) (by decide) (by decide) ?_
    refine XS.iloadN X39.here hx rfl (hb hby d6_8) rfl ?_
    refine XS.aloadN X39.here hx rfl (hb hby d6_9) rfl rfl ?_
    refine X39.arraylength hx (by rw [e39]; exact Arq42.1) (State.isArrayOf_alike hZ.alike Arq42.2.1) (g := (mkF m 10 #[.val (.ref pR1), .val (.ref bR4), .val (.int 3)] [(.ref pR1), (.int 3)])) rfl rfl (hb hby d6_10) _ ?_
    rw [len_of Asq42 Anq42]
    show oS p e below T39 m 11 #[.val (.ref pR1), .val (.ref bR4), .val (.int 3)] [(.int 4), (.int 3)] _
    refine XS.icmpNo X39.here hx rfl (hb hby d6_11) rfl (tlt (by decide : (3 : Int32) < (4 : Int32))).2.1 ?_
    refine XS.aloadN X39.here hx rfl (hb hby d6_14) rfl rfl ?_
    refine XS.iloadN X39.here hx rfl (hb hby d6_15) rfl ?_
    refine XS.aloadN X39.here hx rfl (hb hby d6_16) rfl rfl ?_
    refine XS.iloadN X39.here hx rfl (hb hby d6_17) rfl ?_
    refine X39.aaload hx (j := (3 : Int32)) (v := (.ref pR802)) (by rw [e39]; exact Arq44.1) (State.isArrayOf_alike hZ.alike Arq44.2.1) rfl Arq44.2.2 hin45 (Has.at Ahq44 hin45 rfl) (g := (mkF m 18 #[.val (.ref pR1), .val (.ref bR4), .val (.int 3)] [(.int 3), (.ref pR1), (.int 3), (.ref bR4)])) rfl rfl (hb hby d6_18) _ ?_
    refine st46 _ ?_
    refine st50 _ ?_
    show oS p e below T50 m 23 #[.val (.ref pR1), .val (.ref bR4), .val (.int 3)] [] _
    refine XS.iinc X50.here hx rfl (hb hby d6_23) rfl (l' := #[.val (.ref pR1), .val (.ref bR4), .val (.int 4)]) rfl ?_
    refine XS.goto X50.here hx rfl (pc0 := 26) (pc' := 8) rfl (hb hby d6_26) (by decide) (by decide) ?_
    refine XS.iloadN X50.here hx rfl (hb hby d6_8) rfl ?_
    refine XS.aloadN X50.here hx rfl (hb hby d6_9) rfl rfl ?_
    refine X50.arraylength hx (by rw [e50]; exact Arq53.1) (State.isArrayOf_alike hZ.alike Arq53.2.1) (g := (mkF m 10 #[.val (.ref pR1), .val (.ref bR4), .val (.int 4)] [(.ref pR1), (.int 4)])) rfl rfl (hb hby d6_10) _ ?_
    rw [len_of Asq53 Anq53]
    refine XS.icmpYes X50.here hx rfl (pc0 := 11) (pc' := 29) rfl (hb hby d6_11) rfl (flt (by decide : ¬ ((4 : Int32) < (4 : Int32)))).2.1 (by decide) (by decide) ?_
    refine st55 _ ?_
    refine XS.dup X55.here hx rfl (hb hby d6_32) rfl rfl ?_
    show oS p e below T55 m 33 #[.val (.ref pR1), .val (.ref bR4), .val (.int 4)] [(.ref bR55), (.ref bR55)] _
    refine XS.aloadN X55.here hx rfl (hb hby d6_33) rfl rfl ?_
    refine XS.iconst X55.here hx rfl (hb hby d6_34) ?_
    refine st61.trans ?_
    exact retOut X61 hx Bd.returns rfl (Or.inr (Or.inr (Or.inr (Or.inr ⟨rfl, rfl, rfl⟩)))) (hb hby d6_38) hr
  · show Qlfa4 Z pR1 pR801 pR802 pK2 h0 n0 _ T61.heap _
    exact ⟨bR4, bR55, k4, rfl, N61, K62, (Nat.le_of_eq g4.symm), (Nat.le_trans K51.1 (Nat.le_of_eq g55.symm)), c65, O4, x61_0, x61_1, x61_2⟩
theorem ef_of4 (m : MethodId) (pR1 : Addr) : entryFrame m #[(.ref pR1)] 2 = mkF m 0 #[.val (.ref pR1), .unset] [] := by first | (simp [entryFrame, mkF, argsToLocals, Value.category]; done) | rfl
def Qof4 (Z : State) (pR1 : Addr) (pR801 : Addr) (pR802 : Addr) (pK2 : ClassId) (h0 : Heap) (n0 : Nat) (v : Option Value) (h : Heap) (L : List Loc) : Prop := ∃ bR4_0 : Addr, ∃ bR4_1 : Addr, ∃ kK4_0 : ClassId, v = some (.ref bR4_1) ∧ Fr n0 L ∧ Keep h0 h [] ∧ h0.size ≤ bR4_0 ∧ h0.size ≤ bR4_1 ∧ Arv Z h bR4_0 kK4_0 (.object "java/lang/Object") (4 : Int32) [(.ref pR801), (.ref pR802), (.ref pR802), (.ref pR802)] .null ∧ Exa Z h bR4_1 "java/util/ImmutableCollections$ListN" ∧ Fld Z h bR4_1 "java/util/ImmutableCollections$ListN" "elements" "[Ljava/lang/Object;" (.ref bR4_0) ∧ Fld Z h bR4_1 "java/util/ImmutableCollections$ListN" "allowNulls" "Z" (.int 0)
set_option maxRecDepth 65536 in
set_option maxHeartbeats 40000000 in
theorem of4 (l : Launch) (Z : State) (a0 : Array Value) (hw : ∀ d ∈ tables_1, d.before a0 Z = true) (ws : List Jvm.Cond) (pR1 : Addr) (pR801 : Addr) (pR802 : Addr) (pK2 : ClassId) (h0 : Heap) (n0 : Nat) (Z0 : n0 ≤ h0.size) (V_pR1 : Arv Z h0 pR1 pK2 (.object "java/lang/Integer") (4 : Int32) [(.ref pR801), (.ref pR802), (.ref pR802), (.ref pR802)] .null) (E_pR801 : Exa Z h0 pR801 "java/lang/Integer") (E_pR802 : Exa Z h0 pR802 "java/lang/Integer") :
    oM l yN13 jdk_40_method_47_code 2 (some (.object "java/util/List")) ws ({ frames := 6, cells := 2, slots := 6, locals := 77 } : Room) #[(.ref pR1)] Z h0 (Qof4 Z pR1 pR801 pR802 pK2 h0 n0) := by
  refine MetFree.of_bodySF (plainFor_of_name pn_9) hisR ?_
  intro p e s m args below meth c s₁ Bd hml0 hP hK
  obtain ⟨rfl, hZ, hh⟩ := hP
  have hx := Bd.exec
  have hby := Bd.bytes
  have hml : c.maxLocals = 2 := hml0
  have hown : s.vm.findClass "java/util/List" = some m.cls := findClass_of_methodNamed Bd.named
  have hnm := (name_of_methodNamed Bd.named Bd.method).1
  have X0 : Stand p l e ({ frames := 6, cells := 2, slots := 6, locals := 77 } : Room) s m #[(.ref pR1)] below meth c s₁ [] 0 0 := Stand.of_body Bd
  have e0 : s₁.heap = h0 := by rw [← hh, Bd.state]; rfl
  have N0 := Fr.nil n0
  obtain ⟨clq3, Arq3, Akq3, Asq3, Anq3, Ahq3, Agq3⟩ := id V_pR1
  obtain ⟨_, _, ⟨T4, L4, k4, n4⟩, -, X4, ⟨Lc4, hQ4, l4, y4, z4⟩, st4⟩ := Jvm.LawKit.callS X0 hx (y := yN15) hown (mvT hZ (ow hw 30 rfl)) (mvT hZ (ow hw 31 rfl)) (mvT hZ (ow hw 32 rfl)) (mvT hZ (ow hw 33 rfl)) (by decide) (backOf (W := 0) (lfa4 l Z a0 hw [] pR1 pR801 pR802 pK2 h0 n0 Z0 V_pR1 E_pR801 E_pR802) hZ (ow hw 33 rfl) (ow hw 32 rfl) (by decide) (by decide)) (g := (mkF m 60 #[.val (.ref pR1), .unset] [(.ref pR1)])) rfl (by rw [hml]; rfl) (argsL := [(.ref pR1)]) (rest := []) (lenOf pd_7 rfl) rfl (Nat.le_refl _) (hb hby d5_60) (fun _ _ => ⟨rfl, e0, (by decide : 0 + 2 ≤ _), (by decide : 0 + 6 ≤ _)⟩)
  dsimp only [Pt.U, Pt.locs, Pt.cells, Pt.slots] at X4 l4 y4 z4 st4 hQ4
  subst l4 y4 z4
  obtain ⟨bR4_0, bR4_1, kK4_0, rfl, Nq4, Kq4, sz4_0, sz4_1, x4_0, x4_1, x4_2, x4_3, x4_4⟩ := hQ4
  have N4 := Fr.app N0 Nq4
  obtain ⟨Lh4, X4, N4⟩ := own_hide X4 N4
  have K5 : Keep h0 T4.heap [] := (Keep.refl h0 []).trans Kq4 all0
  have Z6 : n0 ≤ T4.heap.size := (Nat.le_trans Z0 Kq4.1)
  obtain ⟨fs, hr, hrun, hended, hW, hsame⟩ := X4.leave (v := some (.ref bR4_1)) (fun h => by rw [Bd.returns] at h; cases h)
  refine ⟨_, _, castTop (ef_of4 m pR1) ?_, hrun, hended, _, _, rfl, ?_, ⟨_, rfl⟩, hW, hsame.mono (by decide) (by decide)⟩
  · show oS p e below s₁ m 0 #[.val (.ref pR1), .unset] [] _
    refine XS.aloadN X0.here hx rfl (hb hby d5_0) rfl rfl ?_
    refine X0.arraylength hx (by rw [e0]; exact Arq3.1) (State.isArrayOf_alike hZ.alike Arq3.2.1) (g := (mkF m 1 #[.val (.ref pR1), .unset] [(.ref pR1)])) rfl rfl (hb hby d5_1) _ ?_
    rw [len_of Asq3 Anq3]
    refine XS.tswOut X0.here hx rfl (pc0 := 2) (pc' := 59) rfl (hb hby d5_2) rfl (by decide) (by decide) (by decide) ?_
    refine XS.aloadN X0.here hx rfl (hb hby d5_59) rfl rfl ?_
    refine st4 _ ?_
    exact retOut X4 hx Bd.returns rfl (Or.inr (Or.inr (Or.inr (Or.inr ⟨rfl, rfl, rfl⟩)))) (hb hby d5_63) hr
  · show Qof4 Z pR1 pR801 pR802 pK2 h0 n0 _ T4.heap _
    exact ⟨bR4_0, bR4_1, kK4_0, rfl, N4, K5, sz4_0, sz4_1, x4_0, x4_2, x4_3, x4_4⟩
theorem ef_eqs4 (m : MethodId) (pI1 : Int32) : entryFrame m #[(.int pI1), (.int 4)] 4 = mkF m 0 #[.val (.int pI1), .val (.int 4), .unset, .unset] [] := by first | (simp [entryFrame, mkF, argsToLocals, Value.category]; done) | rfl
def Qeqs4 (Z : State) (pI1 : Int32) (pR6 : Addr) (pC8 : Cell) (h0 : Heap) (n0 : Nat) (v : Option Value) (h : Heap) (L : List Loc) : Prop := ∃ bR41_0 : Addr, ∃ bR41_1 : Addr, ∃ bR10_0 : Addr, ∃ bR29_0 : Addr, ∃ kK41_0 : ClassId, v = some (.ref bR41_1) ∧ Fr n0 L ∧ Keep h0 h [] ∧ h0.size ≤ bR41_0 ∧ h0.size ≤ bR41_1 ∧ Exa Z h bR10_0 "java/lang/Integer" ∧ Fld Z h bR10_0 "java/lang/Integer" "value" "I" (.int (pI1 / (4 : Int32))) ∧ Exa Z h bR29_0 "java/lang/Integer" ∧ Fld Z h bR29_0 "java/lang/Integer" "value" "I" (.int ((pI1 / (4 : Int32)) + (pI1 % (4 : Int32)))) ∧ Arv Z h bR41_0 kK41_0 (.object "java/lang/Object") (4 : Int32) [(.ref bR29_0), (.ref bR10_0), (.ref bR10_0), (.ref bR10_0)] .null ∧ Exa Z h bR41_1 "java/util/ImmutableCollections$ListN" ∧ Fld Z h bR41_1 "java/util/ImmutableCollections$ListN" "elements" "[Ljava/lang/Object;" (.ref bR41_0) ∧ Fld Z h bR41_1 "java/util/ImmutableCollections$ListN" "allowNulls" "Z" (.int 0)
set_option maxRecDepth 65536 in
set_option maxHeartbeats 40000000 in
theorem eqs4 (l : Launch) (Z : State) (a0 : Array Value) (hw : ∀ d ∈ tables_1, d.before a0 Z = true) (ws : List Jvm.Cond) (pI1 : Int32) (pR6 : Addr) (pC8 : Cell) (h0 : Heap) (n0 : Nat) (Z0 : n0 ≤ h0.size) (S_Integer_IntegerCache_high : Sta Z h0 "java/lang/Integer$IntegerCache" "high" "I" (.int 127)) (S_Integer_IntegerCache_cache : Sta Z h0 "java/lang/Integer$IntegerCache" "cache" "[Ljava/lang/Integer;" (.ref pR6)) (B_pR6 : Bxs Z pR6 pC8 "java/lang/Integer" "I" (256 : Int32) (fun j => .int (j - 128))) (D0 : Old Z n0 h0) :
    oM l yN14 prog_51_method_10_code 4 (some (.object "java/util/List")) ws ({ frames := 7, cells := 5, slots := 12, locals := 90 } : Room) #[(.int pI1), (.int 4)] Z h0 (Qeqs4 Z pI1 pR6 pC8 h0 n0) := by
  refine MetFree.of_bodySF (plainFor_of_name pn_10) hisR ?_
  intro p e s m args below meth c s₁ Bd hml0 hP hK
  obtain ⟨rfl, hZ, hh⟩ := hP
  have hx := Bd.exec
  have hby := Bd.bytes
  have hml : c.maxLocals = 4 := hml0
  have hown : s.vm.findClass "com/example/watchful_junction/watchfuljunction/scenario/ProportionalSpec" = some m.cls := findClass_of_methodNamed Bd.named
  have hnm := (name_of_methodNamed Bd.named Bd.method).1
  have X0 : Stand p l e ({ frames := 7, cells := 5, slots := 12, locals := 90 } : Room) s m #[(.int pI1), (.int 4)] below meth c s₁ [] 0 0 := Stand.of_body Bd
  have e0 : s₁.heap = h0 := by rw [← hh, Bd.state]; rfl
  have N0 := Fr.nil n0
  obtain ⟨T2, h2, k2, X2, e2, E2, A2, O2, st2⟩ := newR X0 hx hZ hown (ow hw 5 rfl) (ow hw 6 rfl) e0 (g := (mkF m 1 #[.val (.int pI1), .val (.int 4), .unset, .unset] [(.int 4)])) rfl (hb hby d1_1) rfl (by decide) (cap := 4) (by decide) (by decide) (by decide) (by decide)
  obtain ⟨bR2, g2⟩ : ∃ z, z = h0.size := ⟨_, rfl⟩
  rw [← g2] at A2 st2
  have K3 : Keep h0 h2 [] := (Keep.refl h0 []).ext E2
  have Z4 : n0 ≤ h2.size := (Nat.le_trans Z0 E2.1)
  have V2 : Arv Z h2 bR2 k2 (.object "java/lang/Integer") (4 : Int32) [.null, .null, .null, .null] .null := (Arv.new A2 (by decide)).pad (pad_rep [] .null 4)
  have c5 : Sta Z h2 "java/lang/Integer$IntegerCache" "high" "I" (.int 127) := S_Integer_IntegerCache_high.ext E2
  have c7 : Sta Z h2 "java/lang/Integer$IntegerCache" "cache" "[Ljava/lang/Integer;" (.ref pR6) := S_Integer_IntegerCache_cache.ext E2
  have c9 : Old Z n0 h2 := D0.ext E2
  obtain ⟨_, _, ⟨T10, L10, k10, n10⟩, -, X10, ⟨Lc10, hQ10, l10, y10, z10⟩, st10⟩ := Jvm.LawKit.callS X2 hx (y := yN2) hown (mvT hZ (ow hw 7 rfl)) (mvT hZ (ow hw 8 rfl)) (mvT hZ (ow hw 9 rfl)) (mvT hZ (ow hw 10 rfl)) (by decide) (backOf (W := 1) (vo l Z a0 hw [] (pI1 / (4 : Int32)) pR6 pC8 h2 n0 Z4 c5 c7 B_pR6 c9) hZ (ow hw 10 rfl) (ow hw 9 rfl) (by decide) (by decide)) (g := (mkF m 9 #[.val (.int pI1), .val (.int 4), .val (.ref bR2), .unset] [(.int (pI1 / (4 : Int32))), (.ref bR2)])) rfl (by rw [hml]; rfl) (argsL := [(.int (pI1 / (4 : Int32)))]) (rest := [(.ref bR2)]) (lenOf pd_4 rfl) rfl (Nat.le_refl _) (hb hby d1_9) (fun _ _ => ⟨rfl, e2, (by decide : 1 + 1 ≤ _), (by decide : 4 + 1 ≤ _)⟩)
  dsimp only [Pt.U, Pt.locs, Pt.cells, Pt.slots] at X10 l10 y10 z10 st10 hQ10
  subst l10 y10 z10
  obtain ⟨bR10_0, rfl, Nq10, Kq10, x10_0, x10_1⟩ := hQ10
  have N10 := Fr.app N0 Nq10
  obtain ⟨Lh10, X10, N10⟩ := own_hide X10 N10
  have K11 : Keep h0 T10.heap [] := K3.trans Kq10 all0
  have Z12 : n0 ≤ T10.heap.size := (Nat.le_trans Z4 Kq10.1)
  have c13 : Arv Z T10.heap bR2 k2 (.object "java/lang/Integer") (4 : Int32) [.null, .null, .null, .null] .null := V2.keep Kq10 nin0
  have g14 : n0 ≤ bR2 := Nat.le_trans Z0 (Nat.le_of_eq g2.symm)
  obtain ⟨_, _, ⟨T15, L15, k15, n15⟩, -, X15, ⟨Lc15, hQ15, l15, y15, z15⟩, st15⟩ := Jvm.LawKit.callS X10 hx (y := yN12) hown (mvT hZ (ow hw 14 rfl)) (mvT hZ (ow hw 15 rfl)) (mvT hZ (ow hw 16 rfl)) (mvT hZ (ow hw 17 rfl)) (by decide) (backOf (W := 0) (fill4 l Z a0 hw [] bR2 bR10_0 k2 T10.heap n0 Z12 c13 O2 g14 x10_0) hZ (ow hw 17 rfl) (ow hw 16 rfl) (by decide) (by decide)) (g := (mkF m 12 #[.val (.int pI1), .val (.int 4), .val (.ref bR2), .unset] [(.ref bR10_0), (.ref bR2)])) rfl (by rw [hml]; rfl) (argsL := [(.ref bR2), (.ref bR10_0)]) (rest := []) (lenOf pd_5 rfl) rfl (Nat.le_refl _) (hb hby d1_12) (fun _ _ => ⟨rfl, rfl, (by decide : 2 + 0 ≤ _), (by decide : 5 + 0 ≤ _)⟩)
  dsimp only [Pt.U, Pt.locs, Pt.cells, Pt.slots] at X15 l15 y15 z15 st15 hQ15
  subst l15 y15 z15
  obtain ⟨rfl, Nq15, Kq15, x15_0, x15_1⟩ := hQ15
  have N15 := Fr.app N10 Nq15
  obtain ⟨Lh15, X15, N15⟩ := own_hide X15 N15
  have K16 : Keep h0 T15.heap [] := K11.trans Kq15 (allS (Or.inr (Nat.le_of_eq g2.symm)) all0)
  have Z17 : n0 ≤ T15.heap.size := (Nat.le_trans Z12 Kq15.1)
  obtain ⟨clq18, Arq18, Akq18, Asq18, Anq18, Ahq18, Agq18⟩ := id x15_0
  have hin19 : ¬ ((0 : Int32) < 0 ∨ clq18.slots.size ≤ ((0 : Int32)).toNatClampNeg) := inb_of Asq18 ⟨by decide, by decide⟩
  have c20 : Exa Z T15.heap bR10_0 "java/lang/Integer" := x10_0.keep Kq15
  have c21 : Fld Z T15.heap bR10_0 "java/lang/Integer" "value" "I" (.int (pI1 / (4 : Int32))) := x10_1.keep Kq15 (ninS (own_ne_EV c20 (ow hw 132 rfl) x15_0) nin0)
  obtain ⟨cq22, kq22, q22a, q22b, q22c⟩ := isOf hZ rfl c20
  obtain ⟨_, _, ⟨T22, L22, k22, n22⟩, -, X22, ⟨Lc22, hQ22, l22, y22, z22⟩, st22⟩ := X15.virtualBack hx (y := yN3) (z := yN3) hown (mvT hZ (ow hw 19 rfl)) (mvT hZ (ow hw 20 rfl)) (notFace_of_selects (args := #[]) (mvT hZ (ow hw 22 rfl))) (mvT hZ (ow hw 22 rfl)) (mvT hZ (ow hw 21 rfl)) (by decide) (backOf (W := 2) (intV l Z a0 hw [] bR10_0 (pI1 / (4 : Int32)) T15.heap n0 Z17 c21) hZ (ow hw 23 rfl) (ow hw 9 rfl) (by decide) (by decide)) q22a q22c (g := (mkF m 22 #[.val (.int pI1), .val (.int 4), .val (.ref bR2), .val (.ref bR2)] [(.ref bR10_0), (.int 0), (.ref bR2)])) rfl (by rw [hml]; rfl) (Steps.refl _) (argsL := []) (rest := [(.int 0), (.ref bR2)]) (lenOf pd_6 rfl) rfl (Nat.le_refl _) (hb hby d1_22) (fun _ _ => ⟨rfl, rfl, (by decide : 2 + 0 ≤ _), (by decide : 5 + 0 ≤ _)⟩)
  dsimp only [Pt.U, Pt.locs, Pt.cells, Pt.slots] at X22 l22 y22 z22 st22 hQ22
  subst l22 y22 z22
  obtain ⟨rfl, Nq22, e22⟩ := hQ22
  have N22 := Fr.app N15 Nq22
  have c23 : Sta Z T10.heap "java/lang/Integer$IntegerCache" "high" "I" (.int 127) := own_sta_keep c5 Kq10 all0
  have c24 : Sta Z T15.heap "java/lang/Integer$IntegerCache" "high" "I" (.int 127) := own_sta_keep c23 Kq15 (allS (own_plain_V c13) all0)
  have c25 : Sta Z T10.heap "java/lang/Integer$IntegerCache" "cache" "[Ljava/lang/Integer;" (.ref pR6) := own_sta_keep c7 Kq10 all0
  have c26 : Sta Z T15.heap "java/lang/Integer$IntegerCache" "cache" "[Ljava/lang/Integer;" (.ref pR6) := own_sta_keep c25 Kq15 (allS (own_plain_V c13) all0)
  have c27 : Old Z n0 T10.heap := c9.keep Kq10 all0
  have c28 : Old Z n0 T15.heap := c27.keep Kq15 (allS g14 all0)
  obtain ⟨_, _, ⟨T29, L29, k29, n29⟩, -, X29, ⟨Lc29, hQ29, l29, y29, z29⟩, st29⟩ := Jvm.LawKit.callS X22 hx (y := yN2) hown (mvT hZ (ow hw 7 rfl)) (mvT hZ (ow hw 8 rfl)) (mvT hZ (ow hw 9 rfl)) (mvT hZ (ow hw 10 rfl)) (by decide) (backOf (W := 2) (vo l Z a0 hw [] ((pI1 / (4 : Int32)) + (pI1 % (4 : Int32))) pR6 pC8 T15.heap n0 Z17 c24 c26 B_pR6 c28) hZ (ow hw 10 rfl) (ow hw 9 rfl) (by decide) (by decide)) (g := (mkF m 29 #[.val (.int pI1), .val (.int 4), .val (.ref bR2), .val (.ref bR2)] [(.int ((pI1 / (4 : Int32)) + (pI1 % (4 : Int32)))), (.int 0), (.ref bR2)])) rfl (by rw [hml]; rfl) (argsL := [(.int ((pI1 / (4 : Int32)) + (pI1 % (4 : Int32))))]) (rest := [(.int 0), (.ref bR2)]) (lenOf pd_4 rfl) rfl (Nat.le_refl _) (hb hby d1_29) (fun _ _ => ⟨rfl, e22, (by decide : 2 + 1 ≤ _), (by decide : 5 + 1 ≤ _)⟩)
  dsimp only [Pt.U, Pt.locs, Pt.cells, Pt.slots] at X29 l29 y29 z29 st29 hQ29
  subst l29 y29 z29
  obtain ⟨bR29_0, rfl, Nq29, Kq29, x29_0, x29_1⟩ := hQ29
  have N29 := Fr.app N22 Nq29
  obtain ⟨Lh29, X29, N29⟩ := own_hide X29 N29
  have K30 : Keep h0 T29.heap [] := K16.trans Kq29 all0
  have Z31 : n0 ≤ T29.heap.size := (Nat.le_trans Z17 Kq29.1)
  have c33 : Arv Z T29.heap bR2 k2 (.object "java/lang/Integer") (4 : Int32) [(.ref bR10_0), (.ref bR10_0), (.ref bR10_0), (.ref bR10_0)] .null := x15_0.keep Kq29 nin0
  obtain ⟨clq32, Arq32, Akq32, Asq32, Anq32, Ahq32, Agq32⟩ := id c33
  have hin34 : ¬ ((0 : Int32) < 0 ∨ clq32.slots.size ≤ ((0 : Int32)).toNatClampNeg) := inb_of Asq32 ⟨by decide, by decide⟩
  obtain ⟨T35, h35, X35, e35, W35, st35⟩ := stR X29 hx hZ rfl Arq32 (j := (0 : Int32)) hin34 rfl (Sto.ofV Arq32 Akq32 x15_1 (Ins.self x29_0)) (g := (mkF m 33 #[.val (.int pI1), .val (.int 4), .val (.ref bR2), .val (.ref bR2)] [(.ref bR29_0), (.int 0), (.ref bR2), (.ref bR29_0)])) rfl rfl (hb hby d1_33)
  have K36 : Keep h0 h35 [] := K30.wr W35 (Or.inr (Nat.le_of_eq g2.symm))
  have Z37 : n0 ≤ h35.size := (Nat.le_trans Z31 (Keep.of_wr W35).1)
  have N35 := Fr.snoc X35 N29 g14
  obtain ⟨Lh35, X35, N35⟩ := own_hide X35 N35
  have V35 : Arv Z h35 bR2 k2 (.object "java/lang/Integer") (4 : Int32) [(.ref bR29_0), (.ref bR10_0), (.ref bR10_0), (.ref bR10_0)] .null := Arv.set Arq32 Akq32 Asq32 Anq32 Ahq32 Agq32 rfl W35 0 rfl (Nat.le_of_ble_eq_true rfl)
  have c38 : Exa Z h35 bR29_0 "java/lang/Integer" := x29_0.wr W35
  have c39 : Exa Z T29.heap bR10_0 "java/lang/Integer" := c20.keep Kq29
  have c40 : Exa Z h35 bR10_0 "java/lang/Integer" := c39.wr W35
  obtain ⟨_, _, ⟨T41, L41, k41, n41⟩, -, X41, ⟨Lc41, hQ41, l41, y41, z41⟩, st41⟩ := Jvm.LawKit.callS X35 hx (y := yN13) hown (mvT hZ (ow hw 26 rfl)) (mvT hZ (ow hw 27 rfl)) (mvT hZ (ow hw 28 rfl)) (mvT hZ (ow hw 29 rfl)) (by decide) (backOf (W := 0) (of4 l Z a0 hw [] bR2 bR29_0 bR10_0 k2 h35 n0 Z37 V35 c38 c40) hZ (ow hw 29 rfl) (ow hw 28 rfl) (by decide) (by decide)) (g := (mkF m 36 #[.val (.int pI1), .val (.int 4), .val (.ref bR2), .val (.ref bR2)] [(.ref bR2)])) rfl (by rw [hml]; rfl) (argsL := [(.ref bR2)]) (rest := []) (lenOf pd_7 rfl) rfl (Nat.le_refl _) (hb hby d1_36) (fun _ _ => ⟨rfl, e35, (by decide : 3 + 2 ≤ _), (by decide : 6 + 6 ≤ _)⟩)
  dsimp only [Pt.U, Pt.locs, Pt.cells, Pt.slots] at X41 l41 y41 z41 st41 hQ41
  subst l41 y41 z41
  obtain ⟨bR41_0, bR41_1, kK41_0, rfl, Nq41, Kq41, sz41_0, sz41_1, x41_0, x41_1, x41_2, x41_3⟩ := hQ41
  have N41 := Fr.app N35 Nq41
  obtain ⟨Lh41, X41, N41⟩ := own_hide X41 N41
  have K42 : Keep h0 T41.heap [] := K36.trans Kq41 all0
  have Z43 : n0 ≤ T41.heap.size := (Nat.le_trans Z37 Kq41.1)
  have c44 : Exa Z T41.heap bR10_0 "java/lang/Integer" := c40.keep Kq41
  have c45 : Fld Z T29.heap bR10_0 "java/lang/Integer" "value" "I" (.int (pI1 / (4 : Int32))) := c21.keep Kq29 nin0
  have c46 : Fld Z h35 bR10_0 "java/lang/Integer" "value" "I" (.int (pI1 / (4 : Int32))) := c45.other W35 (Or.inl (own_ne_EV c20 (ow hw 132 rfl) x15_0))
  have c47 : Fld Z T41.heap bR10_0 "java/lang/Integer" "value" "I" (.int (pI1 / (4 : Int32))) := c46.keep Kq41 nin0
  have c48 : Exa Z T41.heap bR29_0 "java/lang/Integer" := c38.keep Kq41
  have c49 : Fld Z h35 bR29_0 "java/lang/Integer" "value" "I" (.int ((pI1 / (4 : Int32)) + (pI1 % (4 : Int32)))) := x29_1.other W35 (Or.inl (own_ne_EV c38 (ow hw 132 rfl) V35))
  have c50 : Fld Z T41.heap bR29_0 "java/lang/Integer" "value" "I" (.int ((pI1 / (4 : Int32)) + (pI1 % (4 : Int32)))) := c49.keep Kq41 nin0
  obtain ⟨fs, hr, hrun, hended, hW, hsame⟩ := X41.leave (v := some (.ref bR41_1)) (fun h => by rw [Bd.returns] at h; cases h)
  refine ⟨_, _, castTop (ef_eqs4 m pI1) ?_, hrun, hended, _, _, rfl, ?_, ⟨_, rfl⟩, hW, hsame.mono (by decide) (by decide)⟩
  · show oS p e below s₁ m 0 #[.val (.int pI1), .val (.int 4), .unset, .unset] [] _
    refine XS.iloadN X0.here hx rfl (hb hby d1_0) rfl ?_
    refine st2 _ ?_
    refine XS.astoreN X2.here hx rfl (hb hby d1_4) rfl rfl (l' := #[.val (.int pI1), .val (.int 4), .val (.ref bR2), .unset]) rfl ?_
    refine XS.aloadN X2.here hx rfl (hb hby d1_5) rfl rfl ?_
    refine XS.iloadN X2.here hx rfl (hb hby d1_6) rfl ?_
    refine XS.iloadN X2.here hx rfl (hb hby d1_7) rfl ?_
    refine XS.idiv X2.here hx rfl (hb hby d1_8) rfl (by decide) ?_
    refine st10 _ ?_
    show oS p e below T10 m 12 #[.val (.int pI1), .val (.int 4), .val (.ref bR2), .unset] [(.ref bR10_0), (.ref bR2)] _
    refine st15 _ ?_
    refine XS.aloadN X15.here hx rfl (hb hby d1_15) rfl rfl ?_
    refine XS.astoreN X15.here hx rfl (hb hby d1_16) rfl rfl (l' := #[.val (.int pI1), .val (.int 4), .val (.ref bR2), .val (.ref bR2)]) rfl ?_
    refine XS.aloadN X15.here hx rfl (hb hby d1_17) rfl rfl ?_
    refine XS.iconst X15.here hx rfl (hb hby d1_18) ?_
    refine XS.aloadN X15.here hx rfl (hb hby d1_19) rfl rfl ?_
    refine XS.iconst X15.here hx rfl (hb hby d1_20) ?_
    refine X15.aaload hx (j := (0 : Int32)) (v := (.ref bR10_0)) Arq18.1 (State.isArrayOf_alike hZ.alike Arq18.2.1) rfl Arq18.2.2 hin19 (Has.at Ahq18 hin19 rfl) (g := (mkF m 21 #[.val (.int pI1), .val (.int 4), .val (.ref bR2), .val (.ref bR2)] [(.int 0), (.ref bR2), (.int 0), (.ref bR2)])) rfl rfl (hb hby d1_21) _ ?_
    show oS p e below T15 m 22 #[.val (.int pI1), .val (.int 4), .val (.ref bR2), .val (.ref bR2)] [(.ref bR10_0), (.int 0), (.ref bR2)] _
    refine st22.trans ?_
    refine XS.iloadN X22.here hx rfl (hb hby d1_25) rfl ?_
    refine XS.iloadN X22.here hx rfl (hb hby d1_26) rfl ?_
    show Steps p.tables e below (T22.setTop (mkF m 27 #[.val (.int pI1), .val (.int 4), .val (.ref bR2), .val (.ref bR2)] [(.int 4), (.int pI1), (.int (pI1 / (4 : Int32))), (.int 0), (.ref bR2)])) _
    refine iremM (g := (mkF m 27 #[.val (.int pI1), .val (.int 4), .val (.ref bR2), .val (.ref bR2)] [(.int 4), (.int pI1), (.int (pI1 / (4 : Int32))), (.int 0), (.ref bR2)])) X22 hx rfl (hb hby d1_27) rfl (by decide) ?_
    refine XS.iadd X22.here hx rfl (hb hby d1_28) rfl ?_
    refine st29 _ ?_
    show Steps p.tables e below (T29.setTop (mkF m 32 #[.val (.int pI1), .val (.int 4), .val (.ref bR2), .val (.ref bR2)] [(.ref bR29_0), (.int 0), (.ref bR2)])) _
    jvm_step X29.here [X29.here.top, hx, (hb hby d1_32), Value.category]
    refine st35 _ ?_
    show oS p e below T35 m 34 #[.val (.int pI1), .val (.int 4), .val (.ref bR2), .val (.ref bR2)] [(.ref bR29_0)] _
    refine XS.pop X35.here hx rfl (hb hby d1_34) rfl rfl ?_
    refine XS.aloadN X35.here hx rfl (hb hby d1_35) rfl rfl ?_
    refine st41 _ ?_
    exact retOut X41 hx Bd.returns rfl (Or.inr (Or.inr (Or.inr (Or.inr ⟨rfl, rfl, rfl⟩)))) (hb hby d1_39) hr
  · show Qeqs4 Z pI1 pR6 pC8 h0 n0 _ T41.heap _
    exact ⟨bR41_0, bR41_1, bR10_0, bR29_0, kK41_0, rfl, N41, K42, (Nat.le_trans K36.1 sz41_0), (Nat.le_trans K36.1 sz41_1), c44, c47, c48, c50, x41_0, x41_1, x41_2, x41_3⟩
theorem ef_fill5 (m : MethodId) (pR1 : Addr) (pR2 : Addr) : entryFrame m #[(.ref pR1), (.ref pR2)] 4 = mkF m 0 #[.val (.ref pR1), .val (.ref pR2), .unset, .unset] [] := by first | (simp [entryFrame, mkF, argsToLocals, Value.category]; done) | rfl
def Qfill5 (Z : State) (pR1 : Addr) (pR2 : Addr) (pK3 : ClassId) (h0 : Heap) (n0 : Nat) (v : Option Value) (h : Heap) (L : List Loc) : Prop := v = none ∧ Fr n0 L ∧ Keep h0 h [pR1] ∧ Arv Z h pR1 pK3 (.object "java/lang/Integer") (5 : Int32) [(.ref pR2), (.ref pR2), (.ref pR2), (.ref pR2), (.ref pR2)] .null ∧ Ovr Z pK3 "java/lang/Integer"
set_option maxRecDepth 65536 in
set_option maxHeartbeats 40000000 in
theorem fill5 (l : Launch) (Z : State) (a0 : Array Value) (hw : ∀ d ∈ tables_1, d.before a0 Z = true) (ws : List Jvm.Cond) (pR1 : Addr) (pR2 : Addr) (pK3 : ClassId) (h0 : Heap) (n0 : Nat) (Z0 : n0 ≤ h0.size) (V_pR1 : Arv Z h0 pR1 pK3 (.object "java/lang/Integer") (5 : Int32) [.null, .null, .null, .null, .null] .null) (O_pK3 : Ovr Z pK3 "java/lang/Integer") (g_pR1 : n0 ≤ pR1) (E_pR2 : Exa Z h0 pR2 "java/lang/Integer") :
    oM l yN12 jdk_65_method_117_code 4 none ws ({ frames := 0, cells := 0, slots := 0, locals := 0 } : Room) #[(.ref pR1), (.ref pR2)] Z h0 (Qfill5 Z pR1 pR2 pK3 h0 n0) := by
  refine MetFree.of_bodySF (plainFor_of_name pn_8) hisR ?_
  intro p e s m args below meth c s₁ Bd hml0 hP hK
  obtain ⟨rfl, hZ, hh⟩ := hP
  have hx := Bd.exec
  have hby := Bd.bytes
  have hml : c.maxLocals = 4 := hml0
  have hown : s.vm.findClass "java/util/Arrays" = some m.cls := findClass_of_methodNamed Bd.named
  have hnm := (name_of_methodNamed Bd.named Bd.method).1
  have X0 : Stand p l e ({ frames := 0, cells := 0, slots := 0, locals := 0 } : Room) s m #[(.ref pR1), (.ref pR2)] below meth c s₁ [] 0 0 := Stand.of_body Bd
  have e0 : s₁.heap = h0 := by rw [← hh, Bd.state]; rfl
  have N0 := Fr.nil n0
  obtain ⟨clq4, Arq4, Akq4, Asq4, Anq4, Ahq4, Agq4⟩ := id V_pR1
  obtain ⟨clq5, Arq5, Akq5, Asq5, Anq5, Ahq5, Agq5⟩ := id V_pR1
  have hin6 : ¬ ((0 : Int32) < 0 ∨ clq5.slots.size ≤ ((0 : Int32)).toNatClampNeg) := inb_of Asq5 ⟨by decide, by decide⟩
  obtain ⟨T7, h7, X7, e7, W7, st7⟩ := stR X0 hx hZ e0 Arq5 (j := (0 : Int32)) hin6 rfl (Sto.ofV Arq5 Akq5 O_pK3 (Ins.self E_pR2)) (g := (mkF m 13 #[.val (.ref pR1), .val (.ref pR2), .val (.int 0), .val (.int 5)] [(.ref pR2), (.int 0), (.ref pR1)])) rfl rfl (hb hby d3_13)
  have K8 : Keep h0 h7 [pR1] := (Keep.refl h0 [pR1]).wr W7 (Or.inl (List.mem_of_getElem? (i := 0) rfl))
  have Z9 : n0 ≤ h7.size := (Nat.le_trans Z0 (Keep.of_wr W7).1)
  have N7 := Fr.snoc X7 N0 g_pR1
  obtain ⟨Lh7, X7, N7⟩ := own_hide X7 N7
  have V7 : Arv Z h7 pR1 pK3 (.object "java/lang/Integer") (5 : Int32) [(.ref pR2), .null, .null, .null, .null] .null := Arv.set Arq5 Akq5 Asq5 Anq5 Ahq5 Agq5 rfl W7 0 rfl (Nat.le_of_ble_eq_true rfl)
  obtain ⟨clq10, Arq10, Akq10, Asq10, Anq10, Ahq10, Agq10⟩ := id V7
  have hin11 : ¬ ((1 : Int32) < 0 ∨ clq10.slots.size ≤ ((1 : Int32)).toNatClampNeg) := inb_of Asq10 ⟨by decide, by decide⟩
  have c12 : Exa Z h7 pR2 "java/lang/Integer" := E_pR2.wr W7
  obtain ⟨T13, h13, X13, e13, W13, st13⟩ := stR X7 hx hZ e7 Arq10 (j := (1 : Int32)) hin11 rfl (Sto.ofV Arq10 Akq10 O_pK3 (Ins.self c12)) (g := (mkF m 13 #[.val (.ref pR1), .val (.ref pR2), .val (.int 1), .val (.int 5)] [(.ref pR2), (.int 1), (.ref pR1)])) rfl rfl (hb hby d3_13)
  have K14 : Keep h0 h13 [pR1] := K8.wr W13 (Or.inl (List.mem_of_getElem? (i := 0) rfl))
  have Z15 : n0 ≤ h13.size := (Nat.le_trans Z9 (Keep.of_wr W13).1)
  have N13 := Fr.snoc X13 N7 g_pR1
  obtain ⟨Lh13, X13, N13⟩ := own_hide X13 N13
  have V13 : Arv Z h13 pR1 pK3 (.object "java/lang/Integer") (5 : Int32) [(.ref pR2), (.ref pR2), .null, .null, .null] .null := Arv.set Arq10 Akq10 Asq10 Anq10 Ahq10 Agq10 rfl W13 1 rfl (Nat.le_of_ble_eq_true rfl)
  obtain ⟨clq16, Arq16, Akq16, Asq16, Anq16, Ahq16, Agq16⟩ := id V13
  have hin17 : ¬ ((2 : Int32) < 0 ∨ clq16.slots.size ≤ ((2 : Int32)).toNatClampNeg) := inb_of Asq16 ⟨by decide, by decide⟩
  have c18 : Exa Z h13 pR2 "java/lang/Integer" := c12.wr W13
  obtain ⟨T19, h19, X19, e19, W19, st19⟩ := stR X13 hx hZ e13 Arq16 (j := (2 : Int32)) hin17 rfl (Sto.ofV Arq16 Akq16 O_pK3 (Ins.self c18)) (g := (mkF m 13 #[.val (.ref pR1), .val (.ref pR2), .val (.int 2), .val (.int 5)] [(.ref pR2), (.int 2), (.ref pR1)])) rfl rfl (hb hby d3_13)
  have K20 : Keep h0 h19 [pR1] := K14.wr W19 (Or.inl (List.mem_of_getElem? (i := 0) rfl))
  have Z21 : n0 ≤ h19.size := (Nat.le_trans Z15 (Keep.of_wr W19).1)
  have N19 := Fr.snoc X19 N13 g_pR1
  obtain ⟨Lh19, X19, N19⟩ := own_hide X19 N19
  have V19 : Arv Z h19 pR1 pK3 (.object "java/lang/Integer") (5 : Int32) [(.ref pR2), (.ref pR2), (.ref pR2), .null, .null] .null := Arv.set Arq16 Akq16 Asq16 Anq16 Ahq16 Agq16 rfl W19 2 rfl (Nat.le_of_ble_eq_true rfl)
  obtain ⟨clq22, Arq22, Akq22, Asq22, Anq22, Ahq22, Agq22⟩ := id V19
  have hin23 : ¬ ((3 : Int32) < 0 ∨ clq22.slots.size ≤ ((3 : Int32)).toNatClampNeg) := inb_of Asq22 ⟨by decide, by decide⟩
  have c24 : Exa Z h19 pR2 "java/lang/Integer" := c18.wr W19
  obtain ⟨T25, h25, X25, e25, W25, st25⟩ := stR X19 hx hZ e19 Arq22 (j := (3 : Int32)) hin23 rfl (Sto.ofV Arq22 Akq22 O_pK3 (Ins.self c24)) (g := (mkF m 13 #[.val (.ref pR1), .val (.ref pR2), .val (.int 3), .val (.int 5)] [(.ref pR2), (.int 3), (.ref pR1)])) rfl rfl (hb hby d3_13)
  have K26 : Keep h0 h25 [pR1] := K20.wr W25 (Or.inl (List.mem_of_getElem? (i := 0) rfl))
  have Z27 : n0 ≤ h25.size := (Nat.le_trans Z21 (Keep.of_wr W25).1)
  have N25 := Fr.snoc X25 N19 g_pR1
  obtain ⟨Lh25, X25, N25⟩ := own_hide X25 N25
  have V25 : Arv Z h25 pR1 pK3 (.object "java/lang/Integer") (5 : Int32) [(.ref pR2), (.ref pR2), (.ref pR2), (.ref pR2), .null] .null := Arv.set Arq22 Akq22 Asq22 Anq22 Ahq22 Agq22 rfl W25 3 rfl (Nat.le_of_ble_eq_true rfl)
  obtain ⟨clq28, Arq28, Akq28, Asq28, Anq28, Ahq28, Agq28⟩ := id V25
  have hin29 : ¬ ((4 : Int32) < 0 ∨ clq28.slots.size ≤ ((4 : Int32)).toNatClampNeg) := inb_of Asq28 ⟨by decide, by decide⟩
  have c30 : Exa Z h25 pR2 "java/lang/Integer" := c24.wr W25
  obtain ⟨T31, h31, X31, e31, W31, st31⟩ := stR X25 hx hZ e25 Arq28 (j := (4 : Int32)) hin29 rfl (Sto.ofV Arq28 Akq28 O_pK3 (Ins.self c30)) (g := (mkF m 13 #[.val (.ref pR1), .val (.ref pR2), .val (.int 4), .val (.int 5)] [(.ref pR2), (.int 4), (.ref pR1)])) rfl rfl (hb hby d3_13)
  have K32 : Keep h0 h31 [pR1] := K26.wr W31 (Or.inl (List.mem_of_getElem? (i := 0) rfl))
  have Z33 : n0 ≤ h31.size := (Nat.le_trans Z27 (Keep.of_wr W31).1)
  have N31 := Fr.snoc X31 N25 g_pR1
  obtain ⟨Lh31, X31, N31⟩ := own_hide X31 N31
  have V31 : Arv Z h31 pR1 pK3 (.object "java/lang/Integer") (5 : Int32) [(.ref pR2), (.ref pR2), (.ref pR2), (.ref pR2), (.ref pR2)] .null := Arv.set Arq28 Akq28 Asq28 Anq28 Ahq28 Agq28 rfl W31 4 rfl (Nat.le_of_ble_eq_true rfl)
  obtain ⟨fs, hr, hrun, hended, hW, hsame⟩ := X31.leave (v := none) (fun _ => rfl)
  refine ⟨_, _, castTop (ef_fill5 m pR1 pR2) ?_, hrun, hended, _, _, rfl, ?_, ⟨_, rfl⟩, hW, hsame.mono (by decide) (by decide)⟩
  · show oS p e below s₁ m 0 #[.val (.ref pR1), .val (.ref pR2), .unset, .unset] [] _
    refine XS.iconst X0.here hx rfl (hb hby d3_0) ?_
    refine XS.istoreN X0.here hx rfl (hb hby d3_1) rfl (l' := #[.val (.ref pR1), .val (.ref pR2), .val (.int 0), .unset]) rfl ?_
    refine XS.aloadN X0.here hx rfl (hb hby d3_2) rfl rfl ?_
    refine X0.arraylength hx (by rw [e0]; exact Arq4.1) (State.isArrayOf_alike hZ.alike Arq4.2.1) (g := (mkF m 3 #[.val (.ref pR1), .val (.ref pR2), .val (.int 0), .unset] [(.ref pR1)])) rfl rfl (hb hby d3_3) _ ?_
    rw [len_of Asq4 Anq4]
    refine XS.istoreN X0.here hx rfl (hb hby d3_4) rfl (l' := #[.val (.ref pR1), .val (.ref pR2), .val (.int 0), .val (.int 5)]) rfl ?_
    refine XS.iloadN X0.here hx rfl (hb hby d3_5) rfl ?_
    refine XS.iloadN X0.here hx rfl (hb hby d3_6) rfl ?_
    refine XS.icmpNo X0.here hx rfl (hb hby d3_7) rfl (tlt (by decide : (0 : Int32) < (5 : Int32))).2.1 ?_
    show oS p e below s₁ m 10 #[.val (.ref pR1), .val (.ref pR2), .val (.int 0), .val (.int 5)] [] _
    refine XS.aloadN X0.here hx rfl (hb hby d3_10) rfl rfl ?_
    refine XS.iloadN X0.here hx rfl (hb hby d3_11) rfl ?_
    refine XS.aloadN X0.here hx rfl (hb hby d3_12) rfl rfl ?_
    refine st7 _ ?_
    refine XS.iinc X7.here hx rfl (hb hby d3_14) rfl (l' := #[.val (.ref pR1), .val (.ref pR2), .val (.int 1), .val (.int 5)]) rfl ?_
    refine XS.goto X7.here hx rfl (pc0 := 17) (pc' := 5) rfl (hb hby d3_17) (by decide) (by decide) ?_
    refine XS.iloadN X7.here hx rfl (hb hby d3_5) rfl ?_
    refine XS.iloadN X7.here hx rfl (hb hby d3_6) rfl ?_
    show oS p e below T7 m 7 #[.val (.ref pR1), .val (.ref pR2), .val (.int 1), .val (.int 5)] [(.int 5), (.int 1)] _
    refine XS.icmpNo X7.here hx rfl (hb hby d3_7) rfl (tlt (by decide : (1 : Int32) < (5 : Int32))).2.1 ?_
    refine XS.aloadN X7.here hx rfl (hb hby d3_10) rfl rfl ?_
    refine XS.iloadN X7.here hx rfl (hb hby d3_11) rfl ?_
    refine XS.aloadN X7.here hx rfl (hb hby d3_12) rfl rfl ?_
    refine st13 _ ?_
    refine XS.iinc X13.here hx rfl (hb hby d3_14) rfl (l' := #[.val (.ref pR1), .val (.ref pR2), .val (.int 2), .val (.int 5)]) rfl ?_
    refine XS.goto X13.here hx rfl (pc0 := 17) (pc' := 5) rfl (hb hby d3_17) (by decide) (by decide) ?_
    refine XS.iloadN X13.here hx rfl (hb hby d3_5) rfl ?_
    show oS p e below T13 m 6 #[.val (.ref pR1), .val (.ref pR2), .val (.int 2), .val (.int 5)] [(.int 2)] _
    refine XS.iloadN X13.here hx rfl (hb hby d3_6) rfl ?_
    refine XS.icmpNo X13.here hx rfl (hb hby d3_7) rfl (tlt (by decide : (2 : Int32) < (5 : Int32))).2.1 ?_
    refine XS.aloadN X13.here hx rfl (hb hby d3_10) rfl rfl ?_
    refine XS.iloadN X13.here hx rfl (hb hby d3_11) rfl ?_
    refine XS.aloadN X13.here hx rfl (hb hby d3_12) rfl rfl ?_
    refine st19 _ ?_
    refine XS.iinc X19.here hx rfl (hb hby d3_14) rfl (l' := #[.val (.ref pR1), .val (.ref pR2), .val (.int 3), .val (.int 5)]) rfl ?_
    refine XS.goto X19.here hx rfl (pc0 := 17) (pc' := 5) rfl (hb hby d3_17) (by decide) (by decide) ?_
    show oS p e below T19 m 5 #[.val (.ref pR1), .val (.ref pR2), .val (.int 3), .val (.int 5)] [] _
    refine XS.iloadN X19.here hx rfl (hb hby d3_5) rfl ?_
    refine XS.iloadN X19.here hx rfl (hb hby d3_6) rfl ?_
    refine XS.icmpNo X19.here hx rfl (hb hby d3_7) rfl (tlt (by decide : (3 : Int32) < (5 : Int32))).2.1 ?_
    refine XS.aloadN X19.here hx rfl (hb hby d3_10) rfl rfl ?_
    refine XS.iloadN X19.here hx rfl (hb hby d3_11) rfl ?_
    refine XS.aloadN X19.here hx rfl (hb hby d3_12) rfl rfl ?_
    refine st25 _ ?_
    refine XS.iinc X25.here hx rfl (hb hby d3_14) rfl (l' := #[.val (.ref pR1), .val (.ref pR2), .val (.int 4), .val (.int 5)]) rfl ?_
    show oS p e below T25 m 17 #[.val (.ref pR1), .val (.ref pR2), .val (.int 4), .val (.int 5)] [] _
    refine XS.goto X25.here hx rfl (pc0 := 17) (pc' := 5) rfl (hb hby d3_17) (by decide) (by decide) ?_
    refine XS.iloadN X25.here hx rfl (hb hby d3_5) rfl ?_
    refine XS.iloadN X25.here hx rfl (hb hby d3_6) rfl ?_
    refine XS.icmpNo X25.here hx rfl (hb hby d3_7) rfl (tlt (by decide : (4 : Int32) < (5 : Int32))).2.1 ?_
    refine XS.aloadN X25.here hx rfl (hb hby d3_10) rfl rfl ?_
    refine XS.iloadN X25.here hx rfl (hb hby d3_11) rfl ?_
    refine XS.aloadN X25.here hx rfl (hb hby d3_12) rfl rfl ?_
    refine st31 _ ?_
    show oS p e below T31 m 14 #[.val (.ref pR1), .val (.ref pR2), .val (.int 4), .val (.int 5)] [] _
    refine XS.iinc X31.here hx rfl (hb hby d3_14) rfl (l' := #[.val (.ref pR1), .val (.ref pR2), .val (.int 5), .val (.int 5)]) rfl ?_
    refine XS.goto X31.here hx rfl (pc0 := 17) (pc' := 5) rfl (hb hby d3_17) (by decide) (by decide) ?_
    refine XS.iloadN X31.here hx rfl (hb hby d3_5) rfl ?_
    refine XS.iloadN X31.here hx rfl (hb hby d3_6) rfl ?_
    refine XS.icmpYes X31.here hx rfl (pc0 := 7) (pc' := 20) rfl (hb hby d3_7) rfl (flt (by decide : ¬ ((5 : Int32) < (5 : Int32)))).2.1 (by decide) (by decide) ?_
    exact X31.returnOut hx Bd.returns (hb hby d3_20) hr
  · show Qfill5 Z pR1 pR2 pK3 h0 n0 _ T31.heap _
    rw [e31]
    exact ⟨rfl, N31, K32, V31, O_pK3⟩
theorem ef_lfa5 (m : MethodId) (pR1 : Addr) : entryFrame m #[(.ref pR1)] 3 = mkF m 0 #[.val (.ref pR1), .unset, .unset] [] := by first | (simp [entryFrame, mkF, argsToLocals, Value.category]; done) | rfl
def Qlfa5 (Z : State) (pR1 : Addr) (pR801 : Addr) (pR802 : Addr) (pK2 : ClassId) (h0 : Heap) (n0 : Nat) (v : Option Value) (h : Heap) (L : List Loc) : Prop := ∃ bR4 : Addr, ∃ bR66 : Addr, ∃ k4 : ClassId, v = some (.ref bR66) ∧ Fr n0 L ∧ Keep h0 h [] ∧ h0.size ≤ bR4 ∧ h0.size ≤ bR66 ∧ Arv Z h bR4 k4 (.object "java/lang/Object") (5 : Int32) [(.ref pR801), (.ref pR802), (.ref pR802), (.ref pR802), (.ref pR802)] .null ∧ Ovr Z k4 "java/lang/Object" ∧ Exa Z h bR66 "java/util/ImmutableCollections$ListN" ∧ Fld Z h bR66 "java/util/ImmutableCollections$ListN" "elements" "[Ljava/lang/Object;" (.ref bR4) ∧ Fld Z h bR66 "java/util/ImmutableCollections$ListN" "allowNulls" "Z" (.int 0)
set_option maxRecDepth 65536 in
set_option maxHeartbeats 40000000 in
theorem lfa5 (l : Launch) (Z : State) (a0 : Array Value) (hw : ∀ d ∈ tables_1, d.before a0 Z = true) (ws : List Jvm.Cond) (pR1 : Addr) (pR801 : Addr) (pR802 : Addr) (pK2 : ClassId) (h0 : Heap) (n0 : Nat) (Z0 : n0 ≤ h0.size) (V_pR1 : Arv Z h0 pR1 pK2 (.object "java/lang/Integer") (5 : Int32) [(.ref pR801), (.ref pR802), (.ref pR802), (.ref pR802), (.ref pR802)] .null) (E_pR801 : Exa Z h0 pR801 "java/lang/Integer") (E_pR802 : Exa Z h0 pR802 "java/lang/Integer") :
    oM l yN15 jdk_56_method_4_code 3 (some (.object "java/util/List")) ws ({ frames := 5, cells := 2, slots := 7, locals := 63 } : Room) #[(.ref pR1)] Z h0 (Qlfa5 Z pR1 pR801 pR802 pK2 h0 n0) := by
  refine MetFree.of_bodySF (plainFor_of_name pn_11) hisR ?_
  intro p e s m args below meth c s₁ Bd hml0 hP hK
  obtain ⟨rfl, hZ, hh⟩ := hP
  have hx := Bd.exec
  have hby := Bd.bytes
  have hml : c.maxLocals = 3 := hml0
  have hown : s.vm.findClass "java/util/ImmutableCollections" = some m.cls := findClass_of_methodNamed Bd.named
  have hnm := (name_of_methodNamed Bd.named Bd.method).1
  have X0 : Stand p l e ({ frames := 5, cells := 2, slots := 7, locals := 63 } : Room) s m #[(.ref pR1)] below meth c s₁ [] 0 0 := Stand.of_body Bd
  have e0 : s₁.heap = h0 := by rw [← hh, Bd.state]; rfl
  have N0 := Fr.nil n0
  obtain ⟨clq3, Arq3, Akq3, Asq3, Anq3, Ahq3, Agq3⟩ := id V_pR1
  obtain ⟨T4, h4, k4, X4, e4, E4, A4, O4, st4⟩ := newR X0 hx hZ hown (ow hw 34 rfl) (ow hw 35 rfl) e0 (g := (mkF m 2 #[.val (.ref pR1), .unset, .unset] [(.int 5)])) rfl (hb hby d6_2) rfl (by decide) (cap := 5) (by decide) (by decide) (by decide) (by decide)
  obtain ⟨bR4, g4⟩ : ∃ z, z = h0.size := ⟨_, rfl⟩
  rw [← g4] at A4 st4
  have K5 : Keep h0 h4 [] := (Keep.refl h0 []).ext E4
  have Z6 : n0 ≤ h4.size := (Nat.le_trans Z0 E4.1)
  have V4 : Arv Z h4 bR4 k4 (.object "java/lang/Object") (5 : Int32) [.null, .null, .null, .null, .null] .null := (Arv.new A4 (by decide)).pad (pad_rep [] .null 5)
  have c8 : Arv Z h4 pR1 pK2 (.object "java/lang/Integer") (5 : Int32) [(.ref pR801), (.ref pR802), (.ref pR802), (.ref pR802), (.ref pR802)] .null := V_pR1.ext E4
  obtain ⟨clq7, Arq7, Akq7, Asq7, Anq7, Ahq7, Agq7⟩ := id c8
  obtain ⟨clq9, Arq9, Akq9, Asq9, Anq9, Ahq9, Agq9⟩ := id c8
  have hin10 : ¬ ((0 : Int32) < 0 ∨ clq9.slots.size ≤ ((0 : Int32)).toNatClampNeg) := inb_of Asq9 ⟨by decide, by decide⟩
  obtain ⟨_, _, ⟨T11, L11, k11, n11⟩, -, X11, ⟨Lc11, hQ11, l11, y11, z11⟩, st11⟩ := Jvm.LawKit.callS X4 hx (y := yN5) hown (mvT hZ (ow hw 36 rfl)) (mvT hZ (ow hw 37 rfl)) (mvT hZ (ow hw 38 rfl)) (mvT hZ (ow hw 39 rfl)) (by decide) (backOf (W := 2) (rnn l Z a0 hw [] pR801 h4 n0 Z6 ) hZ (ow hw 39 rfl) (ow hw 38 rfl) (by decide) (by decide)) (g := (mkF m 19 #[.val (.ref pR1), .val (.ref bR4), .val (.int 0)] [(.ref pR801), (.int 0), (.ref bR4)])) rfl (by rw [hml]; rfl) (argsL := [(.ref pR801)]) (rest := [(.int 0), (.ref bR4)]) (lenOf pd_2 rfl) rfl (Nat.le_refl _) (hb hby d6_19) (fun _ _ => ⟨rfl, e4, (by decide : 1 + 0 ≤ _), (by decide : 5 + 0 ≤ _)⟩)
  dsimp only [Pt.U, Pt.locs, Pt.cells, Pt.slots] at X11 l11 y11 z11 st11 hQ11
  subst l11 y11 z11
  obtain ⟨rfl, Nq11, e11⟩ := hQ11
  have N11 := Fr.app N0 Nq11
  have g12 : n0 ≤ bR4 := Nat.le_trans Z0 (Nat.le_of_eq g4.symm)
  obtain ⟨clq13, Arq13, Akq13, Asq13, Anq13, Ahq13, Agq13⟩ := id V4
  have hin14 : ¬ ((0 : Int32) < 0 ∨ clq13.slots.size ≤ ((0 : Int32)).toNatClampNeg) := inb_of Asq13 ⟨by decide, by decide⟩
  have c15 : Exa Z h4 pR801 "java/lang/Integer" := E_pR801.ext E4
  obtain ⟨T16, h16, X16, e16, W16, st16⟩ := stR X11 hx hZ e11 Arq13 (j := (0 : Int32)) hin14 rfl (Sto.ofV Arq13 Akq13 O4 (Ins.of_exa c15 (ow hw 40 rfl))) (g := (mkF m 22 #[.val (.ref pR1), .val (.ref bR4), .val (.int 0)] [(.ref pR801), (.int 0), (.ref bR4)])) rfl rfl (hb hby d6_22)
  have K17 : Keep h0 h16 [] := K5.wr W16 (Or.inr (Nat.le_of_eq g4.symm))
  have Z18 : n0 ≤ h16.size := (Nat.le_trans Z6 (Keep.of_wr W16).1)
  have N16 := Fr.snoc X16 N11 g12
  obtain ⟨Lh16, X16, N16⟩ := own_hide X16 N16
  have V16 : Arv Z h16 bR4 k4 (.object "java/lang/Object") (5 : Int32) [(.ref pR801), .null, .null, .null, .null] .null := Arv.set Arq13 Akq13 Asq13 Anq13 Ahq13 Agq13 rfl W16 0 rfl (Nat.le_of_ble_eq_true rfl)
  have c20 : Arv Z h16 pR1 pK2 (.object "java/lang/Integer") (5 : Int32) [(.ref pR801), (.ref pR802), (.ref pR802), (.ref pR802), (.ref pR802)] .null := c8.other W16 (Nat.ne_of_lt (Nat.lt_of_lt_of_le V_pR1.lt (Nat.le_of_eq g4.symm)))
  obtain ⟨clq19, Arq19, Akq19, Asq19, Anq19, Ahq19, Agq19⟩ := id c20
  obtain ⟨clq21, Arq21, Akq21, Asq21, Anq21, Ahq21, Agq21⟩ := id c20
  have hin22 : ¬ ((1 : Int32) < 0 ∨ clq21.slots.size ≤ ((1 : Int32)).toNatClampNeg) := inb_of Asq21 ⟨by decide, by decide⟩
  obtain ⟨_, _, ⟨T23, L23, k23, n23⟩, -, X23, ⟨Lc23, hQ23, l23, y23, z23⟩, st23⟩ := Jvm.LawKit.callS X16 hx (y := yN5) hown (mvT hZ (ow hw 36 rfl)) (mvT hZ (ow hw 37 rfl)) (mvT hZ (ow hw 38 rfl)) (mvT hZ (ow hw 39 rfl)) (by decide) (backOf (W := 2) (rnn l Z a0 hw [] pR802 h16 n0 Z18 ) hZ (ow hw 39 rfl) (ow hw 38 rfl) (by decide) (by decide)) (g := (mkF m 19 #[.val (.ref pR1), .val (.ref bR4), .val (.int 1)] [(.ref pR802), (.int 1), (.ref bR4)])) rfl (by rw [hml]; rfl) (argsL := [(.ref pR802)]) (rest := [(.int 1), (.ref bR4)]) (lenOf pd_2 rfl) rfl (Nat.le_refl _) (hb hby d6_19) (fun _ _ => ⟨rfl, e16, (by decide : 1 + 0 ≤ _), (by decide : 5 + 0 ≤ _)⟩)
  dsimp only [Pt.U, Pt.locs, Pt.cells, Pt.slots] at X23 l23 y23 z23 st23 hQ23
  subst l23 y23 z23
  obtain ⟨rfl, Nq23, e23⟩ := hQ23
  have N23 := Fr.app N16 Nq23
  obtain ⟨clq24, Arq24, Akq24, Asq24, Anq24, Ahq24, Agq24⟩ := id V16
  have hin25 : ¬ ((1 : Int32) < 0 ∨ clq24.slots.size ≤ ((1 : Int32)).toNatClampNeg) := inb_of Asq24 ⟨by decide, by decide⟩
  have c26 : Exa Z h4 pR802 "java/lang/Integer" := E_pR802.ext E4
  have c27 : Exa Z h16 pR802 "java/lang/Integer" := c26.wr W16
  obtain ⟨T28, h28, X28, e28, W28, st28⟩ := stR X23 hx hZ e23 Arq24 (j := (1 : Int32)) hin25 rfl (Sto.ofV Arq24 Akq24 O4 (Ins.of_exa c27 (ow hw 40 rfl))) (g := (mkF m 22 #[.val (.ref pR1), .val (.ref bR4), .val (.int 1)] [(.ref pR802), (.int 1), (.ref bR4)])) rfl rfl (hb hby d6_22)
  have K29 : Keep h0 h28 [] := K17.wr W28 (Or.inr (Nat.le_of_eq g4.symm))
  have Z30 : n0 ≤ h28.size := (Nat.le_trans Z18 (Keep.of_wr W28).1)
  have N28 := Fr.snoc X28 N23 g12
  obtain ⟨Lh28, X28, N28⟩ := own_hide X28 N28
  have V28 : Arv Z h28 bR4 k4 (.object "java/lang/Object") (5 : Int32) [(.ref pR801), (.ref pR802), .null, .null, .null] .null := Arv.set Arq24 Akq24 Asq24 Anq24 Ahq24 Agq24 rfl W28 1 rfl (Nat.le_of_ble_eq_true rfl)
  have c32 : Arv Z h28 pR1 pK2 (.object "java/lang/Integer") (5 : Int32) [(.ref pR801), (.ref pR802), (.ref pR802), (.ref pR802), (.ref pR802)] .null := c20.other W28 (Nat.ne_of_lt (Nat.lt_of_lt_of_le V_pR1.lt (Nat.le_of_eq g4.symm)))
  obtain ⟨clq31, Arq31, Akq31, Asq31, Anq31, Ahq31, Agq31⟩ := id c32
  obtain ⟨clq33, Arq33, Akq33, Asq33, Anq33, Ahq33, Agq33⟩ := id c32
  have hin34 : ¬ ((2 : Int32) < 0 ∨ clq33.slots.size ≤ ((2 : Int32)).toNatClampNeg) := inb_of Asq33 ⟨by decide, by decide⟩
  obtain ⟨_, _, ⟨T35, L35, k35, n35⟩, -, X35, ⟨Lc35, hQ35, l35, y35, z35⟩, st35⟩ := Jvm.LawKit.callS X28 hx (y := yN5) hown (mvT hZ (ow hw 36 rfl)) (mvT hZ (ow hw 37 rfl)) (mvT hZ (ow hw 38 rfl)) (mvT hZ (ow hw 39 rfl)) (by decide) (backOf (W := 2) (rnn l Z a0 hw [] pR802 h28 n0 Z30 ) hZ (ow hw 39 rfl) (ow hw 38 rfl) (by decide) (by decide)) (g := (mkF m 19 #[.val (.ref pR1), .val (.ref bR4), .val (.int 2)] [(.ref pR802), (.int 2), (.ref bR4)])) rfl (by rw [hml]; rfl) (argsL := [(.ref pR802)]) (rest := [(.int 2), (.ref bR4)]) (lenOf pd_2 rfl) rfl (Nat.le_refl _) (hb hby d6_19) (fun _ _ => ⟨rfl, e28, (by decide : 1 + 0 ≤ _), (by decide : 5 + 0 ≤ _)⟩)
  dsimp only [Pt.U, Pt.locs, Pt.cells, Pt.slots] at X35 l35 y35 z35 st35 hQ35
  subst l35 y35 z35
  obtain ⟨rfl, Nq35, e35⟩ := hQ35
  have N35 := Fr.app N28 Nq35
  obtain ⟨clq36, Arq36, Akq36, Asq36, Anq36, Ahq36, Agq36⟩ := id V28
  have hin37 : ¬ ((2 : Int32) < 0 ∨ clq36.slots.size ≤ ((2 : Int32)).toNatClampNeg) := inb_of Asq36 ⟨by decide, by decide⟩
  have c38 : Exa Z h28 pR802 "java/lang/Integer" := c27.wr W28
  obtain ⟨T39, h39, X39, e39, W39, st39⟩ := stR X35 hx hZ e35 Arq36 (j := (2 : Int32)) hin37 rfl (Sto.ofV Arq36 Akq36 O4 (Ins.of_exa c38 (ow hw 40 rfl))) (g := (mkF m 22 #[.val (.ref pR1), .val (.ref bR4), .val (.int 2)] [(.ref pR802), (.int 2), (.ref bR4)])) rfl rfl (hb hby d6_22)
  have K40 : Keep h0 h39 [] := K29.wr W39 (Or.inr (Nat.le_of_eq g4.symm))
  have Z41 : n0 ≤ h39.size := (Nat.le_trans Z30 (Keep.of_wr W39).1)
  have N39 := Fr.snoc X39 N35 g12
  obtain ⟨Lh39, X39, N39⟩ := own_hide X39 N39
  have V39 : Arv Z h39 bR4 k4 (.object "java/lang/Object") (5 : Int32) [(.ref pR801), (.ref pR802), (.ref pR802), .null, .null] .null := Arv.set Arq36 Akq36 Asq36 Anq36 Ahq36 Agq36 rfl W39 2 rfl (Nat.le_of_ble_eq_true rfl)
  have c43 : Arv Z h39 pR1 pK2 (.object "java/lang/Integer") (5 : Int32) [(.ref pR801), (.ref pR802), (.ref pR802), (.ref pR802), (.ref pR802)] .null := c32.other W39 (Nat.ne_of_lt (Nat.lt_of_lt_of_le V_pR1.lt (Nat.le_of_eq g4.symm)))
  obtain ⟨clq42, Arq42, Akq42, Asq42, Anq42, Ahq42, Agq42⟩ := id c43
  obtain ⟨clq44, Arq44, Akq44, Asq44, Anq44, Ahq44, Agq44⟩ := id c43
  have hin45 : ¬ ((3 : Int32) < 0 ∨ clq44.slots.size ≤ ((3 : Int32)).toNatClampNeg) := inb_of Asq44 ⟨by decide, by decide⟩
  obtain ⟨_, _, ⟨T46, L46, k46, n46⟩, -, X46, ⟨Lc46, hQ46, l46, y46, z46⟩, st46⟩ := Jvm.LawKit.callS X39 hx (y := yN5) hown (mvT hZ (ow hw 36 rfl)) (mvT hZ (ow hw 37 rfl)) (mvT hZ (ow hw 38 rfl)) (mvT hZ (ow hw 39 rfl)) (by decide) (backOf (W := 2) (rnn l Z a0 hw [] pR802 h39 n0 Z41 ) hZ (ow hw 39 rfl) (ow hw 38 rfl) (by decide) (by decide)) (g := (mkF m 19 #[.val (.ref pR1), .val (.ref bR4), .val (.int 3)] [(.ref pR802), (.int 3), (.ref bR4)])) rfl (by rw [hml]; rfl) (argsL := [(.ref pR802)]) (rest := [(.int 3), (.ref bR4)]) (lenOf pd_2 rfl) rfl (Nat.le_refl _) (hb hby d6_19) (fun _ _ => ⟨rfl, e39, (by decide : 1 + 0 ≤ _), (by decide : 5 + 0 ≤ _)⟩)
  dsimp only [Pt.U, Pt.locs, Pt.cells, Pt.slots] at X46 l46 y46 z46 st46 hQ46
  subst l46 y46 z46
  obtain ⟨rfl, Nq46, e46⟩ := hQ46
  have N46 := Fr.app N39 Nq46
  obtain ⟨clq47, Arq47, Akq47, Asq47, Anq47, Ahq47, Agq47⟩ := id V39
  have hin48 : ¬ ((3 : Int32) < 0 ∨ clq47.slots.size ≤ ((3 : Int32)).toNatClampNeg) := inb_of Asq47 ⟨by decide, by decide⟩
  have c49 : Exa Z h39 pR802 "java/lang/Integer" := c38.wr W39
  obtain ⟨T50, h50, X50, e50, W50, st50⟩ := stR X46 hx hZ e46 Arq47 (j := (3 : Int32)) hin48 rfl (Sto.ofV Arq47 Akq47 O4 (Ins.of_exa c49 (ow hw 40 rfl))) (g := (mkF m 22 #[.val (.ref pR1), .val (.ref bR4), .val (.int 3)] [(.ref pR802), (.int 3), (.ref bR4)])) rfl rfl (hb hby d6_22)
  have K51 : Keep h0 h50 [] := K40.wr W50 (Or.inr (Nat.le_of_eq g4.symm))
  have Z52 : n0 ≤ h50.size := (Nat.le_trans Z41 (Keep.of_wr W50).1)
  have N50 := Fr.snoc X50 N46 g12
  obtain ⟨Lh50, X50, N50⟩ := own_hide X50 N50
  have V50 : Arv Z h50 bR4 k4 (.object "java/lang/Object") (5 : Int32) [(.ref pR801), (.ref pR802), (.ref pR802), (.ref pR802), .null] .null := Arv.set Arq47 Akq47 Asq47 Anq47 Ahq47 Agq47 rfl W50 3 rfl (Nat.le_of_ble_eq_true rfl)
  have c54 : Arv Z h50 pR1 pK2 (.object "java/lang/Integer") (5 : Int32) [(.ref pR801), (.ref pR802), (.ref pR802), (.ref pR802), (.ref pR802)] .null := c43.other W50 (Nat.ne_of_lt (Nat.lt_of_lt_of_le V_pR1.lt (Nat.le_of_eq g4.symm)))
  obtain ⟨clq53, Arq53, Akq53, Asq53, Anq53, Ahq53, Agq53⟩ := id c54
  obtain ⟨clq55, Arq55, Akq55, Asq55, Anq55, Ahq55, Agq55⟩ := id c54
  have hin56 : ¬ ((4 : Int32) < 0 ∨ clq55.slots.size ≤ ((4 : Int32)).toNatClampNeg) := inb_of Asq55 ⟨by decide, by decide⟩
  obtain ⟨_, _, ⟨T57, L57, k57, n57⟩, -, X57, ⟨Lc57, hQ57, l57, y57, z57⟩, st57⟩ := Jvm.LawKit.callS X50 hx (y := yN5) hown (mvT hZ (ow hw 36 rfl)) (mvT hZ (ow hw 37 rfl)) (mvT hZ (ow hw 38 rfl)) (mvT hZ (ow hw 39 rfl)) (by decide) (backOf (W := 2) (rnn l Z a0 hw [] pR802 h50 n0 Z52 ) hZ (ow hw 39 rfl) (ow hw 38 rfl) (by decide) (by decide)) (g := (mkF m 19 #[.val (.ref pR1), .val (.ref bR4), .val (.int 4)] [(.ref pR802), (.int 4), (.ref bR4)])) rfl (by rw [hml]; rfl) (argsL := [(.ref pR802)]) (rest := [(.int 4), (.ref bR4)]) (lenOf pd_2 rfl) rfl (Nat.le_refl _) (hb hby d6_19) (fun _ _ => ⟨rfl, e50, (by decide : 1 + 0 ≤ _), (by decide : 5 + 0 ≤ _)⟩)
  dsimp only [Pt.U, Pt.locs, Pt.cells, Pt.slots] at X57 l57 y57 z57 st57 hQ57
  subst l57 y57 z57
  obtain ⟨rfl, Nq57, e57⟩ := hQ57
  have N57 := Fr.app N50 Nq57
  obtain ⟨clq58, Arq58, Akq58, Asq58, Anq58, Ahq58, Agq58⟩ := id V50
  have hin59 : ¬ ((4 : Int32) < 0 ∨ clq58.slots.size ≤ ((4 : Int32)).toNatClampNeg) := inb_of Asq58 ⟨by decide, by decide⟩
  have c60 : Exa Z h50 pR802 "java/lang/Integer" := c49.wr W50
  obtain ⟨T61, h61, X61, e61, W61, st61⟩ := stR X57 hx hZ e57 Arq58 (j := (4 : Int32)) hin59 rfl (Sto.ofV Arq58 Akq58 O4 (Ins.of_exa c60 (ow hw 40 rfl))) (g := (mkF m 22 #[.val (.ref pR1), .val (.ref bR4), .val (.int 4)] [(.ref pR802), (.int 4), (.ref bR4)])) rfl rfl (hb hby d6_22)
  have K62 : Keep h0 h61 [] := K51.wr W61 (Or.inr (Nat.le_of_eq g4.symm))
  have Z63 : n0 ≤ h61.size := (Nat.le_trans Z52 (Keep.of_wr W61).1)
  have N61 := Fr.snoc X61 N57 g12
  obtain ⟨Lh61, X61, N61⟩ := own_hide X61 N61
  have V61 : Arv Z h61 bR4 k4 (.object "java/lang/Object") (5 : Int32) [(.ref pR801), (.ref pR802), (.ref pR802), (.ref pR802), (.ref pR802)] .null := Arv.set Arq58 Akq58 Asq58 Anq58 Ahq58 Agq58 rfl W61 4 rfl (Nat.le_of_ble_eq_true rfl)
  have c65 : Arv Z h61 pR1 pK2 (.object "java/lang/Integer") (5 : Int32) [(.ref pR801), (.ref pR802), (.ref pR802), (.ref pR802), (.ref pR802)] .null := c54.other W61 (Nat.ne_of_lt (Nat.lt_of_lt_of_le V_pR1.lt (Nat.le_of_eq g4.symm)))
  obtain ⟨clq64, Arq64, Akq64, Asq64, Anq64, Ahq64, Agq64⟩ := id c65
  obtain ⟨T66, h66, X66, e66, E66, A66, D66, U66, st66⟩ := newO X61 hx hZ hown (ow hw 41 rfl) (ow hw 42 rfl) (ow hw 43 rfl) e61 (g := (mkF m 29 #[.val (.ref pR1), .val (.ref bR4), .val (.int 5)] [])) rfl (hb hby d6_29) (by decide) (by decide)
  obtain ⟨bR66, g66⟩ : ∃ z, z = h61.size := ⟨_, rfl⟩
  rw [← g66] at A66 D66 U66 st66
  have K67 : Keep h0 h66 [] := K62.ext E66
  have Z68 : n0 ≤ h66.size := (Nat.le_trans Z63 E66.1)
  have F69 : Fld Z h66 bR66 "java/util/ImmutableCollections$ListN" "elements" "[Ljava/lang/Object;" .null := D66 (Or.inr (ow hw 70 rfl)) (ty := (.array (.object "java/lang/Object"))) (by decide)
  have F70 : Fld Z h66 bR66 "java/util/ImmutableCollections$ListN" "allowNulls" "Z" (.int 0) := D66 (Or.inr (ow hw 72 rfl)) (ty := .boolean) (by decide)
  have g71 : n0 ≤ bR66 := Nat.le_trans Z63 (Nat.le_of_eq g66.symm)
  obtain ⟨_, _, ⟨T72, L72, k72, n72⟩, -, X72, ⟨Lc72, hQ72, l72, y72, z72⟩, st72⟩ := X66.specialBackNest hx (y := yN9) rfl hown (own_mvM hZ (ow hw 44 rfl)) (mvT hZ (ow hw 45 rfl)) (mvT hZ (ow hw 47 rfl)) (by decide) (backOf (W := 1) (lnI l Z a0 hw [] bR66 bR4 h66 n0 Z68 A66 F69 g71 F70) hZ (ow hw 47 rfl) (ow hw 43 rfl) (by decide) (by decide)) (g := (mkF m 35 #[.val (.ref pR1), .val (.ref bR4), .val (.int 5)] [(.int 0), (.ref bR4), (.ref bR66), (.ref bR66)])) rfl (by rw [hml]; rfl) (Steps.refl _) (a := bR66) (argsL := [(.ref bR4), (.int 0)]) (rest := [(.ref bR66)]) (lenOf pd_9 rfl) rfl (Nat.le_refl _) (hb hby d6_35) (fun _ _ => ⟨rfl, e66, (by decide : 2 + 0 ≤ _), (by decide : 7 + 0 ≤ _)⟩)
  dsimp only [Pt.U, Pt.locs, Pt.cells, Pt.slots] at X72 l72 y72 z72 st72 hQ72
  subst l72 y72 z72
  obtain ⟨rfl, Nq72, Kq72, x72_0, x72_1, x72_2⟩ := hQ72
  have N72 := Fr.app N61 Nq72
  obtain ⟨Lh72, X72, N72⟩ := own_hide X72 N72
  have K73 : Keep h0 T72.heap [] := K67.trans Kq72 (allS (Or.inr (Nat.le_trans K62.1 (Nat.le_of_eq g66.symm))) all0)
  have Z74 : n0 ≤ T72.heap.size := (Nat.le_trans Z68 Kq72.1)
  have c75 : Arv Z h66 bR4 k4 (.object "java/lang/Object") (5 : Int32) [(.ref pR801), (.ref pR802), (.ref pR802), (.ref pR802), (.ref pR802)] .null := V61.ext E66
  have c76 : Arv Z T72.heap bR4 k4 (.object "java/lang/Object") (5 : Int32) [(.ref pR801), (.ref pR802), (.ref pR802), (.ref pR802), (.ref pR802)] .null := c75.keep Kq72 (ninS (Nat.ne_of_lt (Nat.lt_of_lt_of_le V61.lt (Nat.le_of_eq g66.symm))) nin0)
  obtain ⟨fs, hr, hrun, hended, hW, hsame⟩ := X72.leave (v := some (.ref bR66)) (fun h => by rw [Bd.returns] at h; cases h)
  refine ⟨_, _, castTop (ef_lfa5 m pR1) ?_, hrun, hended, _, _, rfl, ?_, ⟨_, rfl⟩, hW, hsame.mono (by decide) (by decide)⟩
  · show oS p e below s₁ m 0 #[.val (.ref pR1), .unset, .unset] [] _
    refine XS.aloadN X0.here hx rfl (hb hby d6_0) rfl rfl ?_
    refine X0.arraylength hx (by rw [e0]; exact Arq3.1) (State.isArrayOf_alike hZ.alike Arq3.2.1) (g := (mkF m 1 #[.val (.ref pR1), .unset, .unset] [(.ref pR1)])) rfl rfl (hb hby d6_1) _ ?_
    rw [len_of Asq3 Anq3]
    refine st4 _ ?_
    refine XS.astoreN X4.here hx rfl (hb hby d6_5) rfl rfl (l' := #[.val (.ref pR1), .val (.ref bR4), .unset]) rfl ?_
    refine XS.iconst X4.here hx rfl (hb hby d6_6) ?_
    refine XS.istoreN X4.here hx rfl (hb hby d6_7) rfl (l' := #[.val (.ref pR1), .val (.ref bR4), .val (.int 0)]) rfl ?_
    refine XS.iloadN X4.here hx rfl (hb hby d6_8) rfl ?_
    refine XS.aloadN X4.here hx rfl (hb hby d6_9) rfl rfl ?_
    show oS p e below T4 m 10 #[.val (.ref pR1), .val (.ref bR4), .val (.int 0)] [(.ref pR1), (.int 0)] _
    refine X4.arraylength hx (by rw [e4]; exact Arq7.1) (State.isArrayOf_alike hZ.alike Arq7.2.1) (g := (mkF m 10 #[.val (.ref pR1), .val (.ref bR4), .val (.int 0)] [(.ref pR1), (.int 0)])) rfl rfl (hb hby d6_10) _ ?_
    rw [len_of Asq7 Anq7]
    refine XS.icmpNo X4.here hx rfl (hb hby d6_11) rfl (tlt (by decide : (0 : Int32) < (5 : Int32))).2.1 ?_
    refine XS.aloadN X4.here hx rfl (hb hby d6_14) rfl rfl ?_
    refine XS.iloadN X4.here hx rfl (hb hby d6_15) rfl ?_
    refine XS.aloadN X4.here hx rfl (hb hby d6_16) rfl rfl ?_
    refine XS.iloadN X4.here hx rfl (hb hby d6_17) rfl ?_
    refine X4.aaload hx (j := (0 : Int32)) (v := (.ref pR801)) (by rw [e4]; exact Arq9.1) (State.isArrayOf_alike hZ.alike Arq9.2.1) rfl Arq9.2.2 hin10 (Has.at Ahq9 hin10 rfl) (g := (mkF m 18 #[.val (.ref pR1), .val (.ref bR4), .val (.int 0)] [(.int 0), (.ref pR1), (.int 0), (.ref bR4)])) rfl rfl (hb hby d6_18) _ ?_
    refine st11 _ ?_
    show oS p e below T11 m 22 #[.val (.ref pR1), .val (.ref bR4), .val (.int 0)] [(.ref pR801), (.int 0), (.ref bR4)] _
    refine st16 _ ?_
    refine XS.iinc X16.here hx rfl (hb hby d6_23) rfl (l' := #[.val (.ref pR1), .val (.ref bR4), .val (.int 1)]) rfl ?_
    refine XS.goto X16.here hx rfl (pc0 := 26) (pc' := 8) rfl (hb hby d6_26) (by decide) (by decide) ?_
    refine XS.iloadN X16.here hx rfl (hb hby d6_8) rfl ?_
    refine XS.aloadN X16.here hx rfl (hb hby d6_9) rfl rfl ?_
    refine X16.arraylength hx (by rw [e16]; exact Arq19.1) (State.isArrayOf_alike hZ.alike Arq19.2.1) (g := (mkF m 10 #[.val (.ref pR1), .val (.ref bR4), .val (.int 1)] [(.ref pR1), (.int 1)])) rfl rfl (hb hby d6_10) _ ?_
    rw [len_of Asq19 Anq19]
    refine XS.icmpNo X16.here hx rfl (hb hby d6_11) rfl (tlt (by decide : (1 : Int32) < (5 : Int32))).2.1 ?_
    refine XS.aloadN X16.here hx rfl (hb hby d6_14) rfl rfl ?_
    show oS p e below T16 m 15 #[.val (.ref pR1), .val (.ref bR4), .val (.int 1)] [(.ref bR4)] _
    refine XS.iloadN X16.here hx rfl (hb hby d6_15) rfl ?_
    refine XS.aloadN X16.here hx rfl (hb hby d6_16) rfl rfl ?_
    refine XS.iloadN X16.here hx rfl (hb hby d6_17) rfl ?_
    refine X16.aaload hx (j := (1 : Int32)) (v := (.ref pR802)) (by rw [e16]; exact Arq21.1) (State.isArrayOf_alike hZ.alike Arq21.2.1) rfl Arq21.2.2 hin22 (Has.at Ahq21 hin22 rfl) (g := (mkF m 18 #[.val (.ref pR1), .val (.ref bR4), .val (.int 1)] [(.int 1), (.ref pR1), (.int 1), (.ref bR4)])) rfl rfl (hb hby d6_18) _ ?_
    refine st23 _ ?_
    refine st28 _ ?_
    refine XS.iinc X28.here hx rfl (hb hby d6_23) rfl (l' := #[.val (.ref pR1), .val (.ref bR4), .val (.int 2)]) rfl ?_
    refine XS.goto X28.here hx rfl (pc0 := 26) (pc' := 8) rfl (hb hby d6_26) (by decide) (by decide) ?_
    show oS p e below T28 m 8 #[.val (.ref pR1), .val (.ref bR4), .val (.int 2)] [] _
    refine XS.iloadN X28.here hx rfl (hb hby d6_8) rfl ?_
    refine XS.aloadN X28.here hx rfl (hb hby d6_9) rfl rfl ?_
    refine X28.arraylength hx (by rw [e28]; exact Arq31.1) (State.isArrayOf_alike hZ.alike Arq31.2.1) (g := (mkF m 10 #[.val (.ref pR1), .val (.ref bR4), .val (.int 2)] [(.ref pR1), (.int 2)])) rfl rfl (hb hby d6_10) _ ?_
    rw [len_of Asq31 Anq31]
    refine XS.icmpNo X28.here hx rfl (hb hby d6_11) rfl (tlt (by decide : (2 : Int32) < (5 : Int32))).2.1 ?_
    refine XS.aloadN X28.here hx rfl (hb hby d6_14) rfl rfl ?_
    refine XS.iloadN X28.here hx rfl (hb hby d6_15) rfl ?_
    refine XS.aloadN X28.here hx rfl (hb hby d6_16) rfl rfl ?_
    refine XS.iloadN X28.here hx rfl (hb hby d6_17) rfl ?_
    show oS p e below T28 m 18 #[.val (.ref pR1), .val (.ref bR4), .val (.int 2)] [(.int 2), (.ref pR1), (.int 2), (.ref bR4)] _
    refine X28.aaload hx (j := (2 : Int32)) (v := (.ref pR802)) (by rw [e28]; exact Arq33.1) (State.isArrayOf_alike hZ.alike Arq33.2.1) rfl Arq33.2.2 hin34 (Has.at Ahq33 hin34 rfl) (g := (mkF m 18 #[.val (.ref pR1), .val (.ref bR4), .val (.int 2)] [(.int 2), (.ref pR1), (.int 2), (.ref bR4)])) rfl rfl (hb hby d6_18) _ ?_
    refine st35 _ ?_
    refine st39 _ ?_
    refine XS.iinc X39.here hx rfl (hb hby d6_23) rfl (l' := #[.val (.ref pR1), .val (.ref bR4), .val (.int 3)]) rfl ?_
    refine XS.goto X39.here hx rfl (pc0 := 26) (pc' := 8) rfl (hb hby d6_26) (by decide) (by decide) ?_
    refine XS.iloadN X39.here hx rfl (hb hby d6_8) rfl ?_
    refine XS.aloadN X39.here hx rfl (hb hby d6_9) rfl rfl ?_
    refine X39.arraylength hx (by rw [e39]; exact Arq42.1) (State.isArrayOf_alike hZ.alike Arq42.2.1) (g := (mkF m 10 #[.val (.ref pR1), .val (.ref bR4), .val (.int 3)] [(.ref pR1), (.int 3)])) rfl rfl (hb hby d6_10) _ ?_
    rw [len_of Asq42 Anq42]
    show oS p e below T39 m 11 #[.val (.ref pR1), .val (.ref bR4), .val (.int 3)] [(.int 5), (.int 3)] _
    refine XS.icmpNo X39.here hx rfl (hb hby d6_11) rfl (tlt (by decide : (3 : Int32) < (5 : Int32))).2.1 ?_
    refine XS.aloadN X39.here hx rfl (hb hby d6_14) rfl rfl ?_
    refine XS.iloadN X39.here hx rfl (hb hby d6_15) rfl ?_
    refine XS.aloadN X39.here hx rfl (hb hby d6_16) rfl rfl ?_
    refine XS.iloadN X39.here hx rfl (hb hby d6_17) rfl ?_
    refine X39.aaload hx (j := (3 : Int32)) (v := (.ref pR802)) (by rw [e39]; exact Arq44.1) (State.isArrayOf_alike hZ.alike Arq44.2.1) rfl Arq44.2.2 hin45 (Has.at Ahq44 hin45 rfl) (g := (mkF m 18 #[.val (.ref pR1), .val (.ref bR4), .val (.int 3)] [(.int 3), (.ref pR1), (.int 3), (.ref bR4)])) rfl rfl (hb hby d6_18) _ ?_
    refine st46 _ ?_
    refine st50 _ ?_
    show oS p e below T50 m 23 #[.val (.ref pR1), .val (.ref bR4), .val (.int 3)] [] _
    refine XS.iinc X50.here hx rfl (hb hby d6_23) rfl (l' := #[.val (.ref pR1), .val (.ref bR4), .val (.int 4)]) rfl ?_
    refine XS.goto X50.here hx rfl (pc0 := 26) (pc' := 8) rfl (hb hby d6_26) (by decide) (by decide) ?_
    refine XS.iloadN X50.here hx rfl (hb hby d6_8) rfl ?_
    refine XS.aloadN X50.here hx rfl (hb hby d6_9) rfl rfl ?_
    refine X50.arraylength hx (by rw [e50]; exact Arq53.1) (State.isArrayOf_alike hZ.alike Arq53.2.1) (g := (mkF m 10 #[.val (.ref pR1), .val (.ref bR4), .val (.int 4)] [(.ref pR1), (.int 4)])) rfl rfl (hb hby d6_10) _ ?_
    rw [len_of Asq53 Anq53]
    refine XS.icmpNo X50.here hx rfl (hb hby d6_11) rfl (tlt (by decide : (4 : Int32) < (5 : Int32))).2.1 ?_
    refine XS.aloadN X50.here hx rfl (hb hby d6_14) rfl rfl ?_
    refine XS.iloadN X50.here hx rfl (hb hby d6_15) rfl ?_
    show oS p e below T50 m 16 #[.val (.ref pR1), .val (.ref bR4), .val (.int 4)] [(.int 4), (.ref bR4)] _
    refine XS.aloadN X50.here hx rfl (hb hby d6_16) rfl rfl ?_
    refine XS.iloadN X50.here hx rfl (hb hby d6_17) rfl ?_
    refine X50.aaload hx (j := (4 : Int32)) (v := (.ref pR802)) (by rw [e50]; exact Arq55.1) (State.isArrayOf_alike hZ.alike Arq55.2.1) rfl Arq55.2.2 hin56 (Has.at Ahq55 hin56 rfl) (g := (mkF m 18 #[.val (.ref pR1), .val (.ref bR4), .val (.int 4)] [(.int 4), (.ref pR1), (.int 4), (.ref bR4)])) rfl rfl (hb hby d6_18) _ ?_
    refine st57 _ ?_
    refine st61 _ ?_
    refine XS.iinc X61.here hx rfl (hb hby d6_23) rfl (l' := #[.val (.ref pR1), .val (.ref bR4), .val (.int 5)]) rfl ?_
    refine XS.goto X61.here hx rfl (pc0 := 26) (pc' := 8) rfl (hb hby d6_26) (by decide) (by decide) ?_
    refine XS.iloadN X61.here hx rfl (hb hby d6_8) rfl ?_
    show oS p e below T61 m 9 #[.val (.ref pR1), .val (.ref bR4), .val (.int 5)] [(.int 5)] _
    refine XS.aloadN X61.here hx rfl (hb hby d6_9) rfl rfl ?_
    refine X61.arraylength hx (by rw [e61]; exact Arq64.1) (State.isArrayOf_alike hZ.alike Arq64.2.1) (g := (mkF m 10 #[.val (.ref pR1), .val (.ref bR4), .val (.int 5)] [(.ref pR1), (.int 5)])) rfl rfl (hb hby d6_10) _ ?_
    rw [len_of Asq64 Anq64]
    refine XS.icmpYes X61.here hx rfl (pc0 := 11) (pc' := 29) rfl (hb hby d6_11) rfl (flt (by decide : ¬ ((5 : Int32) < (5 : Int32)))).2.1 (by decide) (by decide) ?_
    refine st66 _ ?_
    refine XS.dup X66.here hx rfl (hb hby d6_32) rfl rfl ?_
    refine XS.aloadN X66.here hx rfl (hb hby d6_33) rfl rfl ?_
    refine XS.iconst X66.here hx rfl (hb hby d6_34) ?_
    refine st72.trans ?_
    show oS p e below T72 m 38 #[.val (.ref pR1), .val (.ref bR4), .val (.int 5)] [(.ref bR66)] _
    exact retOut X72 hx Bd.returns rfl (Or.inr (Or.inr (Or.inr (Or.inr ⟨rfl, rfl, rfl⟩)))) (hb hby d6_38) hr
  · show Qlfa5 Z pR1 pR801 pR802 pK2 h0 n0 _ T72.heap _
    exact ⟨bR4, bR66, k4, rfl, N72, K73, (Nat.le_of_eq g4.symm), (Nat.le_trans K62.1 (Nat.le_of_eq g66.symm)), c76, O4, x72_0, x72_1, x72_2⟩
theorem ef_of5 (m : MethodId) (pR1 : Addr) : entryFrame m #[(.ref pR1)] 2 = mkF m 0 #[.val (.ref pR1), .unset] [] := by first | (simp [entryFrame, mkF, argsToLocals, Value.category]; done) | rfl
def Qof5 (Z : State) (pR1 : Addr) (pR801 : Addr) (pR802 : Addr) (pK2 : ClassId) (h0 : Heap) (n0 : Nat) (v : Option Value) (h : Heap) (L : List Loc) : Prop := ∃ bR4_0 : Addr, ∃ bR4_1 : Addr, ∃ kK4_0 : ClassId, v = some (.ref bR4_1) ∧ Fr n0 L ∧ Keep h0 h [] ∧ h0.size ≤ bR4_0 ∧ h0.size ≤ bR4_1 ∧ Arv Z h bR4_0 kK4_0 (.object "java/lang/Object") (5 : Int32) [(.ref pR801), (.ref pR802), (.ref pR802), (.ref pR802), (.ref pR802)] .null ∧ Exa Z h bR4_1 "java/util/ImmutableCollections$ListN" ∧ Fld Z h bR4_1 "java/util/ImmutableCollections$ListN" "elements" "[Ljava/lang/Object;" (.ref bR4_0) ∧ Fld Z h bR4_1 "java/util/ImmutableCollections$ListN" "allowNulls" "Z" (.int 0)
set_option maxRecDepth 65536 in
set_option maxHeartbeats 40000000 in
theorem of5 (l : Launch) (Z : State) (a0 : Array Value) (hw : ∀ d ∈ tables_1, d.before a0 Z = true) (ws : List Jvm.Cond) (pR1 : Addr) (pR801 : Addr) (pR802 : Addr) (pK2 : ClassId) (h0 : Heap) (n0 : Nat) (Z0 : n0 ≤ h0.size) (V_pR1 : Arv Z h0 pR1 pK2 (.object "java/lang/Integer") (5 : Int32) [(.ref pR801), (.ref pR802), (.ref pR802), (.ref pR802), (.ref pR802)] .null) (E_pR801 : Exa Z h0 pR801 "java/lang/Integer") (E_pR802 : Exa Z h0 pR802 "java/lang/Integer") :
    oM l yN13 jdk_40_method_47_code 2 (some (.object "java/util/List")) ws ({ frames := 6, cells := 2, slots := 7, locals := 77 } : Room) #[(.ref pR1)] Z h0 (Qof5 Z pR1 pR801 pR802 pK2 h0 n0) := by
  refine MetFree.of_bodySF (plainFor_of_name pn_9) hisR ?_
  intro p e s m args below meth c s₁ Bd hml0 hP hK
  obtain ⟨rfl, hZ, hh⟩ := hP
  have hx := Bd.exec
  have hby := Bd.bytes
  have hml : c.maxLocals = 2 := hml0
  have hown : s.vm.findClass "java/util/List" = some m.cls := findClass_of_methodNamed Bd.named
  have hnm := (name_of_methodNamed Bd.named Bd.method).1
  have X0 : Stand p l e ({ frames := 6, cells := 2, slots := 7, locals := 77 } : Room) s m #[(.ref pR1)] below meth c s₁ [] 0 0 := Stand.of_body Bd
  have e0 : s₁.heap = h0 := by rw [← hh, Bd.state]; rfl
  have N0 := Fr.nil n0
  obtain ⟨clq3, Arq3, Akq3, Asq3, Anq3, Ahq3, Agq3⟩ := id V_pR1
  obtain ⟨_, _, ⟨T4, L4, k4, n4⟩, -, X4, ⟨Lc4, hQ4, l4, y4, z4⟩, st4⟩ := Jvm.LawKit.callS X0 hx (y := yN15) hown (mvT hZ (ow hw 30 rfl)) (mvT hZ (ow hw 31 rfl)) (mvT hZ (ow hw 32 rfl)) (mvT hZ (ow hw 33 rfl)) (by decide) (backOf (W := 0) (lfa5 l Z a0 hw [] pR1 pR801 pR802 pK2 h0 n0 Z0 V_pR1 E_pR801 E_pR802) hZ (ow hw 33 rfl) (ow hw 32 rfl) (by decide) (by decide)) (g := (mkF m 60 #[.val (.ref pR1), .unset] [(.ref pR1)])) rfl (by rw [hml]; rfl) (argsL := [(.ref pR1)]) (rest := []) (lenOf pd_7 rfl) rfl (Nat.le_refl _) (hb hby d5_60) (fun _ _ => ⟨rfl, e0, (by decide : 0 + 2 ≤ _), (by decide : 0 + 7 ≤ _)⟩)
  dsimp only [Pt.U, Pt.locs, Pt.cells, Pt.slots] at X4 l4 y4 z4 st4 hQ4
  subst l4 y4 z4
  obtain ⟨bR4_0, bR4_1, kK4_0, rfl, Nq4, Kq4, sz4_0, sz4_1, x4_0, x4_1, x4_2, x4_3, x4_4⟩ := hQ4
  have N4 := Fr.app N0 Nq4
  obtain ⟨Lh4, X4, N4⟩ := own_hide X4 N4
  have K5 : Keep h0 T4.heap [] := (Keep.refl h0 []).trans Kq4 all0
  have Z6 : n0 ≤ T4.heap.size := (Nat.le_trans Z0 Kq4.1)
  obtain ⟨fs, hr, hrun, hended, hW, hsame⟩ := X4.leave (v := some (.ref bR4_1)) (fun h => by rw [Bd.returns] at h; cases h)
  refine ⟨_, _, castTop (ef_of5 m pR1) ?_, hrun, hended, _, _, rfl, ?_, ⟨_, rfl⟩, hW, hsame.mono (by decide) (by decide)⟩
  · show oS p e below s₁ m 0 #[.val (.ref pR1), .unset] [] _
    refine XS.aloadN X0.here hx rfl (hb hby d5_0) rfl rfl ?_
    refine X0.arraylength hx (by rw [e0]; exact Arq3.1) (State.isArrayOf_alike hZ.alike Arq3.2.1) (g := (mkF m 1 #[.val (.ref pR1), .unset] [(.ref pR1)])) rfl rfl (hb hby d5_1) _ ?_
    rw [len_of Asq3 Anq3]
    refine XS.tswOut X0.here hx rfl (pc0 := 2) (pc' := 59) rfl (hb hby d5_2) rfl (by decide) (by decide) (by decide) ?_
    refine XS.aloadN X0.here hx rfl (hb hby d5_59) rfl rfl ?_
    refine st4 _ ?_
    exact retOut X4 hx Bd.returns rfl (Or.inr (Or.inr (Or.inr (Or.inr ⟨rfl, rfl, rfl⟩)))) (hb hby d5_63) hr
  · show Qof5 Z pR1 pR801 pR802 pK2 h0 n0 _ T4.heap _
    exact ⟨bR4_0, bR4_1, kK4_0, rfl, N4, K5, sz4_0, sz4_1, x4_0, x4_2, x4_3, x4_4⟩
theorem ef_eqs5 (m : MethodId) (pI1 : Int32) : entryFrame m #[(.int pI1), (.int 5)] 4 = mkF m 0 #[.val (.int pI1), .val (.int 5), .unset, .unset] [] := by first | (simp [entryFrame, mkF, argsToLocals, Value.category]; done) | rfl
def Qeqs5 (Z : State) (pI1 : Int32) (pR6 : Addr) (pC8 : Cell) (h0 : Heap) (n0 : Nat) (v : Option Value) (h : Heap) (L : List Loc) : Prop := ∃ bR41_0 : Addr, ∃ bR41_1 : Addr, ∃ bR10_0 : Addr, ∃ bR29_0 : Addr, ∃ kK41_0 : ClassId, v = some (.ref bR41_1) ∧ Fr n0 L ∧ Keep h0 h [] ∧ h0.size ≤ bR41_0 ∧ h0.size ≤ bR41_1 ∧ Exa Z h bR10_0 "java/lang/Integer" ∧ Fld Z h bR10_0 "java/lang/Integer" "value" "I" (.int (pI1 / (5 : Int32))) ∧ Exa Z h bR29_0 "java/lang/Integer" ∧ Fld Z h bR29_0 "java/lang/Integer" "value" "I" (.int ((pI1 / (5 : Int32)) + (pI1 % (5 : Int32)))) ∧ Arv Z h bR41_0 kK41_0 (.object "java/lang/Object") (5 : Int32) [(.ref bR29_0), (.ref bR10_0), (.ref bR10_0), (.ref bR10_0), (.ref bR10_0)] .null ∧ Exa Z h bR41_1 "java/util/ImmutableCollections$ListN" ∧ Fld Z h bR41_1 "java/util/ImmutableCollections$ListN" "elements" "[Ljava/lang/Object;" (.ref bR41_0) ∧ Fld Z h bR41_1 "java/util/ImmutableCollections$ListN" "allowNulls" "Z" (.int 0)
set_option maxRecDepth 65536 in
set_option maxHeartbeats 40000000 in
theorem eqs5 (l : Launch) (Z : State) (a0 : Array Value) (hw : ∀ d ∈ tables_1, d.before a0 Z = true) (ws : List Jvm.Cond) (pI1 : Int32) (pR6 : Addr) (pC8 : Cell) (h0 : Heap) (n0 : Nat) (Z0 : n0 ≤ h0.size) (S_Integer_IntegerCache_high : Sta Z h0 "java/lang/Integer$IntegerCache" "high" "I" (.int 127)) (S_Integer_IntegerCache_cache : Sta Z h0 "java/lang/Integer$IntegerCache" "cache" "[Ljava/lang/Integer;" (.ref pR6)) (B_pR6 : Bxs Z pR6 pC8 "java/lang/Integer" "I" (256 : Int32) (fun j => .int (j - 128))) (D0 : Old Z n0 h0) :
    oM l yN14 prog_51_method_10_code 4 (some (.object "java/util/List")) ws ({ frames := 7, cells := 5, slots := 14, locals := 90 } : Room) #[(.int pI1), (.int 5)] Z h0 (Qeqs5 Z pI1 pR6 pC8 h0 n0) := by
  refine MetFree.of_bodySF (plainFor_of_name pn_10) hisR ?_
  intro p e s m args below meth c s₁ Bd hml0 hP hK
  obtain ⟨rfl, hZ, hh⟩ := hP
  have hx := Bd.exec
  have hby := Bd.bytes
  have hml : c.maxLocals = 4 := hml0
  have hown : s.vm.findClass "com/example/watchful_junction/watchfuljunction/scenario/ProportionalSpec" = some m.cls := findClass_of_methodNamed Bd.named
  have hnm := (name_of_methodNamed Bd.named Bd.method).1
  have X0 : Stand p l e ({ frames := 7, cells := 5, slots := 14, locals := 90 } : Room) s m #[(.int pI1), (.int 5)] below meth c s₁ [] 0 0 := Stand.of_body Bd
  have e0 : s₁.heap = h0 := by rw [← hh, Bd.state]; rfl
  have N0 := Fr.nil n0
  obtain ⟨T2, h2, k2, X2, e2, E2, A2, O2, st2⟩ := newR X0 hx hZ hown (ow hw 5 rfl) (ow hw 6 rfl) e0 (g := (mkF m 1 #[.val (.int pI1), .val (.int 5), .unset, .unset] [(.int 5)])) rfl (hb hby d1_1) rfl (by decide) (cap := 5) (by decide) (by decide) (by decide) (by decide)
  obtain ⟨bR2, g2⟩ : ∃ z, z = h0.size := ⟨_, rfl⟩
  rw [← g2] at A2 st2
  have K3 : Keep h0 h2 [] := (Keep.refl h0 []).ext E2
  have Z4 : n0 ≤ h2.size := (Nat.le_trans Z0 E2.1)
  have V2 : Arv Z h2 bR2 k2 (.object "java/lang/Integer") (5 : Int32) [.null, .null, .null, .null, .null] .null := (Arv.new A2 (by decide)).pad (pad_rep [] .null 5)
  have c5 : Sta Z h2 "java/lang/Integer$IntegerCache" "high" "I" (.int 127) := S_Integer_IntegerCache_high.ext E2
  have c7 : Sta Z h2 "java/lang/Integer$IntegerCache" "cache" "[Ljava/lang/Integer;" (.ref pR6) := S_Integer_IntegerCache_cache.ext E2
  have c9 : Old Z n0 h2 := D0.ext E2
  obtain ⟨_, _, ⟨T10, L10, k10, n10⟩, -, X10, ⟨Lc10, hQ10, l10, y10, z10⟩, st10⟩ := Jvm.LawKit.callS X2 hx (y := yN2) hown (mvT hZ (ow hw 7 rfl)) (mvT hZ (ow hw 8 rfl)) (mvT hZ (ow hw 9 rfl)) (mvT hZ (ow hw 10 rfl)) (by decide) (backOf (W := 1) (vo l Z a0 hw [] (pI1 / (5 : Int32)) pR6 pC8 h2 n0 Z4 c5 c7 B_pR6 c9) hZ (ow hw 10 rfl) (ow hw 9 rfl) (by decide) (by decide)) (g := (mkF m 9 #[.val (.int pI1), .val (.int 5), .val (.ref bR2), .unset] [(.int (pI1 / (5 : Int32))), (.ref bR2)])) rfl (by rw [hml]; rfl) (argsL := [(.int (pI1 / (5 : Int32)))]) (rest := [(.ref bR2)]) (lenOf pd_4 rfl) rfl (Nat.le_refl _) (hb hby d1_9) (fun _ _ => ⟨rfl, e2, (by decide : 1 + 1 ≤ _), (by decide : 5 + 1 ≤ _)⟩)
  dsimp only [Pt.U, Pt.locs, Pt.cells, Pt.slots] at X10 l10 y10 z10 st10 hQ10
  subst l10 y10 z10
  obtain ⟨bR10_0, rfl, Nq10, Kq10, x10_0, x10_1⟩ := hQ10
  have N10 := Fr.app N0 Nq10
  obtain ⟨Lh10, X10, N10⟩ := own_hide X10 N10
  have K11 : Keep h0 T10.heap [] := K3.trans Kq10 all0
  have Z12 : n0 ≤ T10.heap.size := (Nat.le_trans Z4 Kq10.1)
  have c13 : Arv Z T10.heap bR2 k2 (.object "java/lang/Integer") (5 : Int32) [.null, .null, .null, .null, .null] .null := V2.keep Kq10 nin0
  have g14 : n0 ≤ bR2 := Nat.le_trans Z0 (Nat.le_of_eq g2.symm)
  obtain ⟨_, _, ⟨T15, L15, k15, n15⟩, -, X15, ⟨Lc15, hQ15, l15, y15, z15⟩, st15⟩ := Jvm.LawKit.callS X10 hx (y := yN12) hown (mvT hZ (ow hw 14 rfl)) (mvT hZ (ow hw 15 rfl)) (mvT hZ (ow hw 16 rfl)) (mvT hZ (ow hw 17 rfl)) (by decide) (backOf (W := 0) (fill5 l Z a0 hw [] bR2 bR10_0 k2 T10.heap n0 Z12 c13 O2 g14 x10_0) hZ (ow hw 17 rfl) (ow hw 16 rfl) (by decide) (by decide)) (g := (mkF m 12 #[.val (.int pI1), .val (.int 5), .val (.ref bR2), .unset] [(.ref bR10_0), (.ref bR2)])) rfl (by rw [hml]; rfl) (argsL := [(.ref bR2), (.ref bR10_0)]) (rest := []) (lenOf pd_5 rfl) rfl (Nat.le_refl _) (hb hby d1_12) (fun _ _ => ⟨rfl, rfl, (by decide : 2 + 0 ≤ _), (by decide : 6 + 0 ≤ _)⟩)
  dsimp only [Pt.U, Pt.locs, Pt.cells, Pt.slots] at X15 l15 y15 z15 st15 hQ15
  subst l15 y15 z15
  obtain ⟨rfl, Nq15, Kq15, x15_0, x15_1⟩ := hQ15
  have N15 := Fr.app N10 Nq15
  obtain ⟨Lh15, X15, N15⟩ := own_hide X15 N15
  have K16 : Keep h0 T15.heap [] := K11.trans Kq15 (allS (Or.inr (Nat.le_of_eq g2.symm)) all0)
  have Z17 : n0 ≤ T15.heap.size := (Nat.le_trans Z12 Kq15.1)
  obtain ⟨clq18, Arq18, Akq18, Asq18, Anq18, Ahq18, Agq18⟩ := id x15_0
  have hin19 : ¬ ((0 : Int32) < 0 ∨ clq18.slots.size ≤ ((0 : Int32)).toNatClampNeg) := inb_of Asq18 ⟨by decide, by decide⟩
  have c20 : Exa Z T15.heap bR10_0 "java/lang/Integer" := x10_0.keep Kq15
  have c21 : Fld Z T15.heap bR10_0 "java/lang/Integer" "value" "I" (.int (pI1 / (5 : Int32))) := x10_1.keep Kq15 (ninS (own_ne_EV c20 (ow hw 132 rfl) x15_0) nin0)
  obtain ⟨cq22, kq22, q22a, q22b, q22c⟩ := isOf hZ rfl c20
  obtain ⟨_, _, ⟨T22, L22, k22, n22⟩, -, X22, ⟨Lc22, hQ22, l22, y22, z22⟩, st22⟩ := X15.virtualBack hx (y := yN3) (z := yN3) hown (mvT hZ (ow hw 19 rfl)) (mvT hZ (ow hw 20 rfl)) (notFace_of_selects (args := #[]) (mvT hZ (ow hw 22 rfl))) (mvT hZ (ow hw 22 rfl)) (mvT hZ (ow hw 21 rfl)) (by decide) (backOf (W := 2) (intV l Z a0 hw [] bR10_0 (pI1 / (5 : Int32)) T15.heap n0 Z17 c21) hZ (ow hw 23 rfl) (ow hw 9 rfl) (by decide) (by decide)) q22a q22c (g := (mkF m 22 #[.val (.int pI1), .val (.int 5), .val (.ref bR2), .val (.ref bR2)] [(.ref bR10_0), (.int 0), (.ref bR2)])) rfl (by rw [hml]; rfl) (Steps.refl _) (argsL := []) (rest := [(.int 0), (.ref bR2)]) (lenOf pd_6 rfl) rfl (Nat.le_refl _) (hb hby d1_22) (fun _ _ => ⟨rfl, rfl, (by decide : 2 + 0 ≤ _), (by decide : 6 + 0 ≤ _)⟩)
  dsimp only [Pt.U, Pt.locs, Pt.cells, Pt.slots] at X22 l22 y22 z22 st22 hQ22
  subst l22 y22 z22
  obtain ⟨rfl, Nq22, e22⟩ := hQ22
  have N22 := Fr.app N15 Nq22
  have c23 : Sta Z T10.heap "java/lang/Integer$IntegerCache" "high" "I" (.int 127) := own_sta_keep c5 Kq10 all0
  have c24 : Sta Z T15.heap "java/lang/Integer$IntegerCache" "high" "I" (.int 127) := own_sta_keep c23 Kq15 (allS (own_plain_V c13) all0)
  have c25 : Sta Z T10.heap "java/lang/Integer$IntegerCache" "cache" "[Ljava/lang/Integer;" (.ref pR6) := own_sta_keep c7 Kq10 all0
  have c26 : Sta Z T15.heap "java/lang/Integer$IntegerCache" "cache" "[Ljava/lang/Integer;" (.ref pR6) := own_sta_keep c25 Kq15 (allS (own_plain_V c13) all0)
  have c27 : Old Z n0 T10.heap := c9.keep Kq10 all0
  have c28 : Old Z n0 T15.heap := c27.keep Kq15 (allS g14 all0)
  obtain ⟨_, _, ⟨T29, L29, k29, n29⟩, -, X29, ⟨Lc29, hQ29, l29, y29, z29⟩, st29⟩ := Jvm.LawKit.callS X22 hx (y := yN2) hown (mvT hZ (ow hw 7 rfl)) (mvT hZ (ow hw 8 rfl)) (mvT hZ (ow hw 9 rfl)) (mvT hZ (ow hw 10 rfl)) (by decide) (backOf (W := 2) (vo l Z a0 hw [] ((pI1 / (5 : Int32)) + (pI1 % (5 : Int32))) pR6 pC8 T15.heap n0 Z17 c24 c26 B_pR6 c28) hZ (ow hw 10 rfl) (ow hw 9 rfl) (by decide) (by decide)) (g := (mkF m 29 #[.val (.int pI1), .val (.int 5), .val (.ref bR2), .val (.ref bR2)] [(.int ((pI1 / (5 : Int32)) + (pI1 % (5 : Int32)))), (.int 0), (.ref bR2)])) rfl (by rw [hml]; rfl) (argsL := [(.int ((pI1 / (5 : Int32)) + (pI1 % (5 : Int32))))]) (rest := [(.int 0), (.ref bR2)]) (lenOf pd_4 rfl) rfl (Nat.le_refl _) (hb hby d1_29) (fun _ _ => ⟨rfl, e22, (by decide : 2 + 1 ≤ _), (by decide : 6 + 1 ≤ _)⟩)
  dsimp only [Pt.U, Pt.locs, Pt.cells, Pt.slots] at X29 l29 y29 z29 st29 hQ29
  subst l29 y29 z29
  obtain ⟨bR29_0, rfl, Nq29, Kq29, x29_0, x29_1⟩ := hQ29
  have N29 := Fr.app N22 Nq29
  obtain ⟨Lh29, X29, N29⟩ := own_hide X29 N29
  have K30 : Keep h0 T29.heap [] := K16.trans Kq29 all0
  have Z31 : n0 ≤ T29.heap.size := (Nat.le_trans Z17 Kq29.1)
  have c33 : Arv Z T29.heap bR2 k2 (.object "java/lang/Integer") (5 : Int32) [(.ref bR10_0), (.ref bR10_0), (.ref bR10_0), (.ref bR10_0), (.ref bR10_0)] .null := x15_0.keep Kq29 nin0
  obtain ⟨clq32, Arq32, Akq32, Asq32, Anq32, Ahq32, Agq32⟩ := id c33
  have hin34 : ¬ ((0 : Int32) < 0 ∨ clq32.slots.size ≤ ((0 : Int32)).toNatClampNeg) := inb_of Asq32 ⟨by decide, by decide⟩
  obtain ⟨T35, h35, X35, e35, W35, st35⟩ := stR X29 hx hZ rfl Arq32 (j := (0 : Int32)) hin34 rfl (Sto.ofV Arq32 Akq32 x15_1 (Ins.self x29_0)) (g := (mkF m 33 #[.val (.int pI1), .val (.int 5), .val (.ref bR2), .val (.ref bR2)] [(.ref bR29_0), (.int 0), (.ref bR2), (.ref bR29_0)])) rfl rfl (hb hby d1_33)
  have K36 : Keep h0 h35 [] := K30.wr W35 (Or.inr (Nat.le_of_eq g2.symm))
  have Z37 : n0 ≤ h35.size := (Nat.le_trans Z31 (Keep.of_wr W35).1)
  have N35 := Fr.snoc X35 N29 g14
  obtain ⟨Lh35, X35, N35⟩ := own_hide X35 N35
  have V35 : Arv Z h35 bR2 k2 (.object "java/lang/Integer") (5 : Int32) [(.ref bR29_0), (.ref bR10_0), (.ref bR10_0), (.ref bR10_0), (.ref bR10_0)] .null := Arv.set Arq32 Akq32 Asq32 Anq32 Ahq32 Agq32 rfl W35 0 rfl (Nat.le_of_ble_eq_true rfl)
  have c38 : Exa Z h35 bR29_0 "java/lang/Integer" := x29_0.wr W35
  have c39 : Exa Z T29.heap bR10_0 "java/lang/Integer" := c20.keep Kq29
  have c40 : Exa Z h35 bR10_0 "java/lang/Integer" := c39.wr W35
  obtain ⟨_, _, ⟨T41, L41, k41, n41⟩, -, X41, ⟨Lc41, hQ41, l41, y41, z41⟩, st41⟩ := Jvm.LawKit.callS X35 hx (y := yN13) hown (mvT hZ (ow hw 26 rfl)) (mvT hZ (ow hw 27 rfl)) (mvT hZ (ow hw 28 rfl)) (mvT hZ (ow hw 29 rfl)) (by decide) (backOf (W := 0) (of5 l Z a0 hw [] bR2 bR29_0 bR10_0 k2 h35 n0 Z37 V35 c38 c40) hZ (ow hw 29 rfl) (ow hw 28 rfl) (by decide) (by decide)) (g := (mkF m 36 #[.val (.int pI1), .val (.int 5), .val (.ref bR2), .val (.ref bR2)] [(.ref bR2)])) rfl (by rw [hml]; rfl) (argsL := [(.ref bR2)]) (rest := []) (lenOf pd_7 rfl) rfl (Nat.le_refl _) (hb hby d1_36) (fun _ _ => ⟨rfl, e35, (by decide : 3 + 2 ≤ _), (by decide : 7 + 7 ≤ _)⟩)
  dsimp only [Pt.U, Pt.locs, Pt.cells, Pt.slots] at X41 l41 y41 z41 st41 hQ41
  subst l41 y41 z41
  obtain ⟨bR41_0, bR41_1, kK41_0, rfl, Nq41, Kq41, sz41_0, sz41_1, x41_0, x41_1, x41_2, x41_3⟩ := hQ41
  have N41 := Fr.app N35 Nq41
  obtain ⟨Lh41, X41, N41⟩ := own_hide X41 N41
  have K42 : Keep h0 T41.heap [] := K36.trans Kq41 all0
  have Z43 : n0 ≤ T41.heap.size := (Nat.le_trans Z37 Kq41.1)
  have c44 : Exa Z T41.heap bR10_0 "java/lang/Integer" := c40.keep Kq41
  have c45 : Fld Z T29.heap bR10_0 "java/lang/Integer" "value" "I" (.int (pI1 / (5 : Int32))) := c21.keep Kq29 nin0
  have c46 : Fld Z h35 bR10_0 "java/lang/Integer" "value" "I" (.int (pI1 / (5 : Int32))) := c45.other W35 (Or.inl (own_ne_EV c20 (ow hw 132 rfl) x15_0))
  have c47 : Fld Z T41.heap bR10_0 "java/lang/Integer" "value" "I" (.int (pI1 / (5 : Int32))) := c46.keep Kq41 nin0
  have c48 : Exa Z T41.heap bR29_0 "java/lang/Integer" := c38.keep Kq41
  have c49 : Fld Z h35 bR29_0 "java/lang/Integer" "value" "I" (.int ((pI1 / (5 : Int32)) + (pI1 % (5 : Int32)))) := x29_1.other W35 (Or.inl (own_ne_EV c38 (ow hw 132 rfl) V35))
  have c50 : Fld Z T41.heap bR29_0 "java/lang/Integer" "value" "I" (.int ((pI1 / (5 : Int32)) + (pI1 % (5 : Int32)))) := c49.keep Kq41 nin0
  obtain ⟨fs, hr, hrun, hended, hW, hsame⟩ := X41.leave (v := some (.ref bR41_1)) (fun h => by rw [Bd.returns] at h; cases h)
  refine ⟨_, _, castTop (ef_eqs5 m pI1) ?_, hrun, hended, _, _, rfl, ?_, ⟨_, rfl⟩, hW, hsame.mono (by decide) (by decide)⟩
  · show oS p e below s₁ m 0 #[.val (.int pI1), .val (.int 5), .unset, .unset] [] _
    refine XS.iloadN X0.here hx rfl (hb hby d1_0) rfl ?_
    refine st2 _ ?_
    refine XS.astoreN X2.here hx rfl (hb hby d1_4) rfl rfl (l' := #[.val (.int pI1), .val (.int 5), .val (.ref bR2), .unset]) rfl ?_
    refine XS.aloadN X2.here hx rfl (hb hby d1_5) rfl rfl ?_
    refine XS.iloadN X2.here hx rfl (hb hby d1_6) rfl ?_
    refine XS.iloadN X2.here hx rfl (hb hby d1_7) rfl ?_
    refine XS.idiv X2.here hx rfl (hb hby d1_8) rfl (by decide) ?_
    refine st10 _ ?_
    show oS p e below T10 m 12 #[.val (.int pI1), .val (.int 5), .val (.ref bR2), .unset] [(.ref bR10_0), (.ref bR2)] _
    refine st15 _ ?_
    refine XS.aloadN X15.here hx rfl (hb hby d1_15) rfl rfl ?_
    refine XS.astoreN X15.here hx rfl (hb hby d1_16) rfl rfl (l' := #[.val (.int pI1), .val (.int 5), .val (.ref bR2), .val (.ref bR2)]) rfl ?_
    refine XS.aloadN X15.here hx rfl (hb hby d1_17) rfl rfl ?_
    refine XS.iconst X15.here hx rfl (hb hby d1_18) ?_
    refine XS.aloadN X15.here hx rfl (hb hby d1_19) rfl rfl ?_
    refine XS.iconst X15.here hx rfl (hb hby d1_20) ?_
    refine X15.aaload hx (j := (0 : Int32)) (v := (.ref bR10_0)) Arq18.1 (State.isArrayOf_alike hZ.alike Arq18.2.1) rfl Arq18.2.2 hin19 (Has.at Ahq18 hin19 rfl) (g := (mkF m 21 #[.val (.int pI1), .val (.int 5), .val (.ref bR2), .val (.ref bR2)] [(.int 0), (.ref bR2), (.int 0), (.ref bR2)])) rfl rfl (hb hby d1_21) _ ?_
    show oS p e below T15 m 22 #[.val (.int pI1), .val (.int 5), .val (.ref bR2), .val (.ref bR2)] [(.ref bR10_0), (.int 0), (.ref bR2)] _
    refine st22.trans ?_
    refine XS.iloadN X22.here hx rfl (hb hby d1_25) rfl ?_
    refine XS.iloadN X22.here hx rfl (hb hby d1_26) rfl ?_
    show Steps p.tables e below (T22.setTop (mkF m 27 #[.val (.int pI1), .val (.int 5), .val (.ref bR2), .val (.ref bR2)] [(.int 5), (.int pI1), (.int (pI1 / (5 : Int32))), (.int 0), (.ref bR2)])) _
    refine iremM (g := (mkF m 27 #[.val (.int pI1), .val (.int 5), .val (.ref bR2), .val (.ref bR2)] [(.int 5), (.int pI1), (.int (pI1 / (5 : Int32))), (.int 0), (.ref bR2)])) X22 hx rfl (hb hby d1_27) rfl (by decide) ?_
    refine XS.iadd X22.here hx rfl (hb hby d1_28) rfl ?_
    refine st29 _ ?_
    show Steps p.tables e below (T29.setTop (mkF m 32 #[.val (.int pI1), .val (.int 5), .val (.ref bR2), .val (.ref bR2)] [(.ref bR29_0), (.int 0), (.ref bR2)])) _
    jvm_step X29.here [X29.here.top, hx, (hb hby d1_32), Value.category]
    refine st35 _ ?_
    show oS p e below T35 m 34 #[.val (.int pI1), .val (.int 5), .val (.ref bR2), .val (.ref bR2)] [(.ref bR29_0)] _
    refine XS.pop X35.here hx rfl (hb hby d1_34) rfl rfl ?_
    refine XS.aloadN X35.here hx rfl (hb hby d1_35) rfl rfl ?_
    refine st41 _ ?_
    exact retOut X41 hx Bd.returns rfl (Or.inr (Or.inr (Or.inr (Or.inr ⟨rfl, rfl, rfl⟩)))) (hb hby d1_39) hr
  · show Qeqs5 Z pI1 pR6 pC8 h0 n0 _ T41.heap _
    exact ⟨bR41_0, bR41_1, bR10_0, bR29_0, kK41_0, rfl, N41, K42, (Nat.le_trans K36.1 sz41_0), (Nat.le_trans K36.1 sz41_1), c44, c47, c48, c50, x41_0, x41_1, x41_2, x41_3⟩
theorem ef_fill6 (m : MethodId) (pR1 : Addr) (pR2 : Addr) : entryFrame m #[(.ref pR1), (.ref pR2)] 4 = mkF m 0 #[.val (.ref pR1), .val (.ref pR2), .unset, .unset] [] := by first | (simp [entryFrame, mkF, argsToLocals, Value.category]; done) | rfl
def Qfill6 (Z : State) (pR1 : Addr) (pR2 : Addr) (pK3 : ClassId) (h0 : Heap) (n0 : Nat) (v : Option Value) (h : Heap) (L : List Loc) : Prop := v = none ∧ Fr n0 L ∧ Keep h0 h [pR1] ∧ Arv Z h pR1 pK3 (.object "java/lang/Integer") (6 : Int32) [(.ref pR2), (.ref pR2), (.ref pR2), (.ref pR2), (.ref pR2), (.ref pR2)] .null ∧ Ovr Z pK3 "java/lang/Integer"
set_option maxRecDepth 65536 in
set_option maxHeartbeats 40000000 in
theorem fill6 (l : Launch) (Z : State) (a0 : Array Value) (hw : ∀ d ∈ tables_1, d.before a0 Z = true) (ws : List Jvm.Cond) (pR1 : Addr) (pR2 : Addr) (pK3 : ClassId) (h0 : Heap) (n0 : Nat) (Z0 : n0 ≤ h0.size) (V_pR1 : Arv Z h0 pR1 pK3 (.object "java/lang/Integer") (6 : Int32) [.null, .null, .null, .null, .null, .null] .null) (O_pK3 : Ovr Z pK3 "java/lang/Integer") (g_pR1 : n0 ≤ pR1) (E_pR2 : Exa Z h0 pR2 "java/lang/Integer") :
    oM l yN12 jdk_65_method_117_code 4 none ws ({ frames := 0, cells := 0, slots := 0, locals := 0 } : Room) #[(.ref pR1), (.ref pR2)] Z h0 (Qfill6 Z pR1 pR2 pK3 h0 n0) := by
  refine MetFree.of_bodySF (plainFor_of_name pn_8) hisR ?_
  intro p e s m args below meth c s₁ Bd hml0 hP hK
  obtain ⟨rfl, hZ, hh⟩ := hP
  have hx := Bd.exec
  have hby := Bd.bytes
  have hml : c.maxLocals = 4 := hml0
  have hown : s.vm.findClass "java/util/Arrays" = some m.cls := findClass_of_methodNamed Bd.named
  have hnm := (name_of_methodNamed Bd.named Bd.method).1
  have X0 : Stand p l e ({ frames := 0, cells := 0, slots := 0, locals := 0 } : Room) s m #[(.ref pR1), (.ref pR2)] below meth c s₁ [] 0 0 := Stand.of_body Bd
  have e0 : s₁.heap = h0 := by rw [← hh, Bd.state]; rfl
  have N0 := Fr.nil n0
  obtain ⟨clq4, Arq4, Akq4, Asq4, Anq4, Ahq4, Agq4⟩ := id V_pR1
  obtain ⟨clq5, Arq5, Akq5, Asq5, Anq5, Ahq5, Agq5⟩ := id V_pR1
  have hin6 : ¬ ((0 : Int32) < 0 ∨ clq5.slots.size ≤ ((0 : Int32)).toNatClampNeg) := inb_of Asq5 ⟨by decide, by decide⟩
  obtain ⟨T7, h7, X7, e7, W7, st7⟩ := stR X0 hx hZ e0 Arq5 (j := (0 : Int32)) hin6 rfl (Sto.ofV Arq5 Akq5 O_pK3 (Ins.self E_pR2)) (g := (mkF m 13 #[.val (.ref pR1), .val (.ref pR2), .val (.int 0), .val (.int 6)] [(.ref pR2), (.int 0), (.ref pR1)])) rfl rfl (hb hby d3_13)
  have K8 : Keep h0 h7 [pR1] := (Keep.refl h0 [pR1]).wr W7 (Or.inl (List.mem_of_getElem? (i := 0) rfl))
  have Z9 : n0 ≤ h7.size := (Nat.le_trans Z0 (Keep.of_wr W7).1)
  have N7 := Fr.snoc X7 N0 g_pR1
  obtain ⟨Lh7, X7, N7⟩ := own_hide X7 N7
  have V7 : Arv Z h7 pR1 pK3 (.object "java/lang/Integer") (6 : Int32) [(.ref pR2), .null, .null, .null, .null, .null] .null := Arv.set Arq5 Akq5 Asq5 Anq5 Ahq5 Agq5 rfl W7 0 rfl (Nat.le_of_ble_eq_true rfl)
  obtain ⟨clq10, Arq10, Akq10, Asq10, Anq10, Ahq10, Agq10⟩ := id V7
  have hin11 : ¬ ((1 : Int32) < 0 ∨ clq10.slots.size ≤ ((1 : Int32)).toNatClampNeg) := inb_of Asq10 ⟨by decide, by decide⟩
  have c12 : Exa Z h7 pR2 "java/lang/Integer" := E_pR2.wr W7
  obtain ⟨T13, h13, X13, e13, W13, st13⟩ := stR X7 hx hZ e7 Arq10 (j := (1 : Int32)) hin11 rfl (Sto.ofV Arq10 Akq10 O_pK3 (Ins.self c12)) (g := (mkF m 13 #[.val (.ref pR1), .val (.ref pR2), .val (.int 1), .val (.int 6)] [(.ref pR2), (.int 1), (.ref pR1)])) rfl rfl (hb hby d3_13)
  have K14 : Keep h0 h13 [pR1] := K8.wr W13 (Or.inl (List.mem_of_getElem? (i := 0) rfl))
  have Z15 : n0 ≤ h13.size := (Nat.le_trans Z9 (Keep.of_wr W13).1)
  have N13 := Fr.snoc X13 N7 g_pR1
  obtain ⟨Lh13, X13, N13⟩ := own_hide X13 N13
  have V13 : Arv Z h13 pR1 pK3 (.object "java/lang/Integer") (6 : Int32) [(.ref pR2), (.ref pR2), .null, .null, .null, .null] .null := Arv.set Arq10 Akq10 Asq10 Anq10 Ahq10 Agq10 rfl W13 1 rfl (Nat.le_of_ble_eq_true rfl)
  obtain ⟨clq16, Arq16, Akq16, Asq16, Anq16, Ahq16, Agq16⟩ := id V13
  have hin17 : ¬ ((2 : Int32) < 0 ∨ clq16.slots.size ≤ ((2 : Int32)).toNatClampNeg) := inb_of Asq16 ⟨by decide, by decide⟩
  have c18 : Exa Z h13 pR2 "java/lang/Integer" := c12.wr W13
  obtain ⟨T19, h19, X19, e19, W19, st19⟩ := stR X13 hx hZ e13 Arq16 (j := (2 : Int32)) hin17 rfl (Sto.ofV Arq16 Akq16 O_pK3 (Ins.self c18)) (g := (mkF m 13 #[.val (.ref pR1), .val (.ref pR2), .val (.int 2), .val (.int 6)] [(.ref pR2), (.int 2), (.ref pR1)])) rfl rfl (hb hby d3_13)
  have K20 : Keep h0 h19 [pR1] := K14.wr W19 (Or.inl (List.mem_of_getElem? (i := 0) rfl))
  have Z21 : n0 ≤ h19.size := (Nat.le_trans Z15 (Keep.of_wr W19).1)
  have N19 := Fr.snoc X19 N13 g_pR1
  obtain ⟨Lh19, X19, N19⟩ := own_hide X19 N19
  have V19 : Arv Z h19 pR1 pK3 (.object "java/lang/Integer") (6 : Int32) [(.ref pR2), (.ref pR2), (.ref pR2), .null, .null, .null] .null := Arv.set Arq16 Akq16 Asq16 Anq16 Ahq16 Agq16 rfl W19 2 rfl (Nat.le_of_ble_eq_true rfl)
  obtain ⟨clq22, Arq22, Akq22, Asq22, Anq22, Ahq22, Agq22⟩ := id V19
  have hin23 : ¬ ((3 : Int32) < 0 ∨ clq22.slots.size ≤ ((3 : Int32)).toNatClampNeg) := inb_of Asq22 ⟨by decide, by decide⟩
  have c24 : Exa Z h19 pR2 "java/lang/Integer" := c18.wr W19
  obtain ⟨T25, h25, X25, e25, W25, st25⟩ := stR X19 hx hZ e19 Arq22 (j := (3 : Int32)) hin23 rfl (Sto.ofV Arq22 Akq22 O_pK3 (Ins.self c24)) (g := (mkF m 13 #[.val (.ref pR1), .val (.ref pR2), .val (.int 3), .val (.int 6)] [(.ref pR2), (.int 3), (.ref pR1)])) rfl rfl (hb hby d3_13)
  have K26 : Keep h0 h25 [pR1] := K20.wr W25 (Or.inl (List.mem_of_getElem? (i := 0) rfl))
  have Z27 : n0 ≤ h25.size := (Nat.le_trans Z21 (Keep.of_wr W25).1)
  have N25 := Fr.snoc X25 N19 g_pR1
  obtain ⟨Lh25, X25, N25⟩ := own_hide X25 N25
  have V25 : Arv Z h25 pR1 pK3 (.object "java/lang/Integer") (6 : Int32) [(.ref pR2), (.ref pR2), (.ref pR2), (.ref pR2), .null, .null] .null := Arv.set Arq22 Akq22 Asq22 Anq22 Ahq22 Agq22 rfl W25 3 rfl (Nat.le_of_ble_eq_true rfl)
  obtain ⟨clq28, Arq28, Akq28, Asq28, Anq28, Ahq28, Agq28⟩ := id V25
  have hin29 : ¬ ((4 : Int32) < 0 ∨ clq28.slots.size ≤ ((4 : Int32)).toNatClampNeg) := inb_of Asq28 ⟨by decide, by decide⟩
  have c30 : Exa Z h25 pR2 "java/lang/Integer" := c24.wr W25
  obtain ⟨T31, h31, X31, e31, W31, st31⟩ := stR X25 hx hZ e25 Arq28 (j := (4 : Int32)) hin29 rfl (Sto.ofV Arq28 Akq28 O_pK3 (Ins.self c30)) (g := (mkF m 13 #[.val (.ref pR1), .val (.ref pR2), .val (.int 4), .val (.int 6)] [(.ref pR2), (.int 4), (.ref pR1)])) rfl rfl (hb hby d3_13)
  have K32 : Keep h0 h31 [pR1] := K26.wr W31 (Or.inl (List.mem_of_getElem? (i := 0) rfl))
  have Z33 : n0 ≤ h31.size := (Nat.le_trans Z27 (Keep.of_wr W31).1)
  have N31 := Fr.snoc X31 N25 g_pR1
  obtain ⟨Lh31, X31, N31⟩ := own_hide X31 N31
  have V31 : Arv Z h31 pR1 pK3 (.object "java/lang/Integer") (6 : Int32) [(.ref pR2), (.ref pR2), (.ref pR2), (.ref pR2), (.ref pR2), .null] .null := Arv.set Arq28 Akq28 Asq28 Anq28 Ahq28 Agq28 rfl W31 4 rfl (Nat.le_of_ble_eq_true rfl)
  obtain ⟨clq34, Arq34, Akq34, Asq34, Anq34, Ahq34, Agq34⟩ := id V31
  have hin35 : ¬ ((5 : Int32) < 0 ∨ clq34.slots.size ≤ ((5 : Int32)).toNatClampNeg) := inb_of Asq34 ⟨by decide, by decide⟩
  have c36 : Exa Z h31 pR2 "java/lang/Integer" := c30.wr W31
  obtain ⟨T37, h37, X37, e37, W37, st37⟩ := stR X31 hx hZ e31 Arq34 (j := (5 : Int32)) hin35 rfl (Sto.ofV Arq34 Akq34 O_pK3 (Ins.self c36)) (g := (mkF m 13 #[.val (.ref pR1), .val (.ref pR2), .val (.int 5), .val (.int 6)] [(.ref pR2), (.int 5), (.ref pR1)])) rfl rfl (hb hby d3_13)
  have K38 : Keep h0 h37 [pR1] := K32.wr W37 (Or.inl (List.mem_of_getElem? (i := 0) rfl))
  have Z39 : n0 ≤ h37.size := (Nat.le_trans Z33 (Keep.of_wr W37).1)
  have N37 := Fr.snoc X37 N31 g_pR1
  obtain ⟨Lh37, X37, N37⟩ := own_hide X37 N37
  have V37 : Arv Z h37 pR1 pK3 (.object "java/lang/Integer") (6 : Int32) [(.ref pR2), (.ref pR2), (.ref pR2), (.ref pR2), (.ref pR2), (.ref pR2)] .null := Arv.set Arq34 Akq34 Asq34 Anq34 Ahq34 Agq34 rfl W37 5 rfl (Nat.le_of_ble_eq_true rfl)
  obtain ⟨fs, hr, hrun, hended, hW, hsame⟩ := X37.leave (v := none) (fun _ => rfl)
  refine ⟨_, _, castTop (ef_fill6 m pR1 pR2) ?_, hrun, hended, _, _, rfl, ?_, ⟨_, rfl⟩, hW, hsame.mono (by decide) (by decide)⟩
  · show oS p e below s₁ m 0 #[.val (.ref pR1), .val (.ref pR2), .unset, .unset] [] _
    refine XS.iconst X0.here hx rfl (hb hby d3_0) ?_
    refine XS.istoreN X0.here hx rfl (hb hby d3_1) rfl (l' := #[.val (.ref pR1), .val (.ref pR2), .val (.int 0), .unset]) rfl ?_
    refine XS.aloadN X0.here hx rfl (hb hby d3_2) rfl rfl ?_
    refine X0.arraylength hx (by rw [e0]; exact Arq4.1) (State.isArrayOf_alike hZ.alike Arq4.2.1) (g := (mkF m 3 #[.val (.ref pR1), .val (.ref pR2), .val (.int 0), .unset] [(.ref pR1)])) rfl rfl (hb hby d3_3) _ ?_
    rw [len_of Asq4 Anq4]
    refine XS.istoreN X0.here hx rfl (hb hby d3_4) rfl (l' := #[.val (.ref pR1), .val (.ref pR2), .val (.int 0), .val (.int 6)]) rfl ?_
    refine XS.iloadN X0.here hx rfl (hb hby d3_5) rfl ?_
    refine XS.iloadN X0.here hx rfl (hb hby d3_6) rfl ?_
    refine XS.icmpNo X0.here hx rfl (hb hby d3_7) rfl (tlt (by decide : (0 : Int32) < (6 : Int32))).2.1 ?_
    show oS p e below s₁ m 10 #[.val (.ref pR1), .val (.ref pR2), .val (.int 0), .val (.int 6)] [] _
    refine XS.aloadN X0.here hx rfl (hb hby d3_10) rfl rfl ?_
    refine XS.iloadN X0.here hx rfl (hb hby d3_11) rfl ?_
    refine XS.aloadN X0.here hx rfl (hb hby d3_12) rfl rfl ?_
    refine st7 _ ?_
    refine XS.iinc X7.here hx rfl (hb hby d3_14) rfl (l' := #[.val (.ref pR1), .val (.ref pR2), .val (.int 1), .val (.int 6)]) rfl ?_
    refine XS.goto X7.here hx rfl (pc0 := 17) (pc' := 5) rfl (hb hby d3_17) (by decide) (by decide) ?_
    refine XS.iloadN X7.here hx rfl (hb hby d3_5) rfl ?_
    refine XS.iloadN X7.here hx rfl (hb hby d3_6) rfl ?_
    show oS p e below T7 m 7 #[.val (.ref pR1), .val (.ref pR2), .val (.int 1), .val (.int 6)] [(.int 6), (.int 1)] _
    refine XS.icmpNo X7.here hx rfl (hb hby d3_7) rfl (tlt (by decide : (1 : Int32) < (6 : Int32))).2.1 ?_
    refine XS.aloadN X7.here hx rfl (hb hby d3_10) rfl rfl ?_
    refine XS.iloadN X7.here hx rfl (hb hby d3_11) rfl ?_
    refine XS.aloadN X7.here hx rfl (hb hby d3_12) rfl rfl ?_
    refine st13 _ ?_
    refine XS.iinc X13.here hx rfl (hb hby d3_14) rfl (l' := #[.val (.ref pR1), .val (.ref pR2), .val (.int 2), .val (.int 6)]) rfl ?_
    refine XS.goto X13.here hx rfl (pc0 := 17) (pc' := 5) rfl (hb hby d3_17) (by decide) (by decide) ?_
    refine XS.iloadN X13.here hx rfl (hb hby d3_5) rfl ?_
    show oS p e below T13 m 6 #[.val (.ref pR1), .val (.ref pR2), .val (.int 2), .val (.int 6)] [(.int 2)] _
    refine XS.iloadN X13.here hx rfl (hb hby d3_6) rfl ?_
    refine XS.icmpNo X13.here hx rfl (hb hby d3_7) rfl (tlt (by decide : (2 : Int32) < (6 : Int32))).2.1 ?_
    refine XS.aloadN X13.here hx rfl (hb hby d3_10) rfl rfl ?_
    refine XS.iloadN X13.here hx rfl (hb hby d3_11) rfl ?_
    refine XS.aloadN X13.here hx rfl (hb hby d3_12) rfl rfl ?_
    refine st19 _ ?_
    refine XS.iinc X19.here hx rfl (hb hby d3_14) rfl (l' := #[.val (.ref pR1), .val (.ref pR2), .val (.int 3), .val (.int 6)]) rfl ?_
    refine XS.goto X19.here hx rfl (pc0 := 17) (pc' := 5) rfl (hb hby d3_17) (by decide) (by decide) ?_
    show oS p e below T19 m 5 #[.val (.ref pR1), .val (.ref pR2), .val (.int 3), .val (.int 6)] [] _
    refine XS.iloadN X19.here hx rfl (hb hby d3_5) rfl ?_
    refine XS.iloadN X19.here hx rfl (hb hby d3_6) rfl ?_
    refine XS.icmpNo X19.here hx rfl (hb hby d3_7) rfl (tlt (by decide : (3 : Int32) < (6 : Int32))).2.1 ?_
    refine XS.aloadN X19.here hx rfl (hb hby d3_10) rfl rfl ?_
    refine XS.iloadN X19.here hx rfl (hb hby d3_11) rfl ?_
    refine XS.aloadN X19.here hx rfl (hb hby d3_12) rfl rfl ?_
    refine st25 _ ?_
    refine XS.iinc X25.here hx rfl (hb hby d3_14) rfl (l' := #[.val (.ref pR1), .val (.ref pR2), .val (.int 4), .val (.int 6)]) rfl ?_
    show oS p e below T25 m 17 #[.val (.ref pR1), .val (.ref pR2), .val (.int 4), .val (.int 6)] [] _
    refine XS.goto X25.here hx rfl (pc0 := 17) (pc' := 5) rfl (hb hby d3_17) (by decide) (by decide) ?_
    refine XS.iloadN X25.here hx rfl (hb hby d3_5) rfl ?_
    refine XS.iloadN X25.here hx rfl (hb hby d3_6) rfl ?_
    refine XS.icmpNo X25.here hx rfl (hb hby d3_7) rfl (tlt (by decide : (4 : Int32) < (6 : Int32))).2.1 ?_
    refine XS.aloadN X25.here hx rfl (hb hby d3_10) rfl rfl ?_
    refine XS.iloadN X25.here hx rfl (hb hby d3_11) rfl ?_
    refine XS.aloadN X25.here hx rfl (hb hby d3_12) rfl rfl ?_
    refine st31 _ ?_
    show oS p e below T31 m 14 #[.val (.ref pR1), .val (.ref pR2), .val (.int 4), .val (.int 6)] [] _
    refine XS.iinc X31.here hx rfl (hb hby d3_14) rfl (l' := #[.val (.ref pR1), .val (.ref pR2), .val (.int 5), .val (.int 6)]) rfl ?_
    refine XS.goto X31.here hx rfl (pc0 := 17) (pc' := 5) rfl (hb hby d3_17) (by decide) (by decide) ?_
    refine XS.iloadN X31.here hx rfl (hb hby d3_5) rfl ?_
    refine XS.iloadN X31.here hx rfl (hb hby d3_6) rfl ?_
    refine XS.icmpNo X31.here hx rfl (hb hby d3_7) rfl (tlt (by decide : (5 : Int32) < (6 : Int32))).2.1 ?_
    refine XS.aloadN X31.here hx rfl (hb hby d3_10) rfl rfl ?_
    refine XS.iloadN X31.here hx rfl (hb hby d3_11) rfl ?_
    refine XS.aloadN X31.here hx rfl (hb hby d3_12) rfl rfl ?_
    show oS p e below T31 m 13 #[.val (.ref pR1), .val (.ref pR2), .val (.int 5), .val (.int 6)] [(.ref pR2), (.int 5), (.ref pR1)] _
    refine st37 _ ?_
    refine XS.iinc X37.here hx rfl (hb hby d3_14) rfl (l' := #[.val (.ref pR1), .val (.ref pR2), .val (.int 6), .val (.int 6)]) rfl ?_
    refine XS.goto X37.here hx rfl (pc0 := 17) (pc' := 5) rfl (hb hby d3_17) (by decide) (by decide) ?_
    refine XS.iloadN X37.here hx rfl (hb hby d3_5) rfl ?_
    refine XS.iloadN X37.here hx rfl (hb hby d3_6) rfl ?_
    refine XS.icmpYes X37.here hx rfl (pc0 := 7) (pc' := 20) rfl (hb hby d3_7) rfl (flt (by decide : ¬ ((6 : Int32) < (6 : Int32)))).2.1 (by decide) (by decide) ?_
    exact X37.returnOut hx Bd.returns (hb hby d3_20) hr
  · show Qfill6 Z pR1 pR2 pK3 h0 n0 _ T37.heap _
    rw [e37]
    exact ⟨rfl, N37, K38, V37, O_pK3⟩
theorem ef_lfa6 (m : MethodId) (pR1 : Addr) : entryFrame m #[(.ref pR1)] 3 = mkF m 0 #[.val (.ref pR1), .unset, .unset] [] := by first | (simp [entryFrame, mkF, argsToLocals, Value.category]; done) | rfl
def Qlfa6 (Z : State) (pR1 : Addr) (pR801 : Addr) (pR802 : Addr) (pK2 : ClassId) (h0 : Heap) (n0 : Nat) (v : Option Value) (h : Heap) (L : List Loc) : Prop := ∃ bR4 : Addr, ∃ bR77 : Addr, ∃ k4 : ClassId, v = some (.ref bR77) ∧ Fr n0 L ∧ Keep h0 h [] ∧ h0.size ≤ bR4 ∧ h0.size ≤ bR77 ∧ Arv Z h bR4 k4 (.object "java/lang/Object") (6 : Int32) [(.ref pR801), (.ref pR802), (.ref pR802), (.ref pR802), (.ref pR802), (.ref pR802)] .null ∧ Ovr Z k4 "java/lang/Object" ∧ Exa Z h bR77 "java/util/ImmutableCollections$ListN" ∧ Fld Z h bR77 "java/util/ImmutableCollections$ListN" "elements" "[Ljava/lang/Object;" (.ref bR4) ∧ Fld Z h bR77 "java/util/ImmutableCollections$ListN" "allowNulls" "Z" (.int 0)
set_option maxRecDepth 65536 in
set_option maxHeartbeats 40000000 in
theorem lfa6 (l : Launch) (Z : State) (a0 : Array Value) (hw : ∀ d ∈ tables_1, d.before a0 Z = true) (ws : List Jvm.Cond) (pR1 : Addr) (pR801 : Addr) (pR802 : Addr) (pK2 : ClassId) (h0 : Heap) (n0 : Nat) (Z0 : n0 ≤ h0.size) (V_pR1 : Arv Z h0 pR1 pK2 (.object "java/lang/Integer") (6 : Int32) [(.ref pR801), (.ref pR802), (.ref pR802), (.ref pR802), (.ref pR802), (.ref pR802)] .null) (E_pR801 : Exa Z h0 pR801 "java/lang/Integer") (E_pR802 : Exa Z h0 pR802 "java/lang/Integer") :
    oM l yN15 jdk_56_method_4_code 3 (some (.object "java/util/List")) ws ({ frames := 5, cells := 2, slots := 8, locals := 63 } : Room) #[(.ref pR1)] Z h0 (Qlfa6 Z pR1 pR801 pR802 pK2 h0 n0) := by
  refine MetFree.of_bodySF (plainFor_of_name pn_11) hisR ?_
  intro p e s m args below meth c s₁ Bd hml0 hP hK
  obtain ⟨rfl, hZ, hh⟩ := hP
  have hx := Bd.exec
  have hby := Bd.bytes
  have hml : c.maxLocals = 3 := hml0
  have hown : s.vm.findClass "java/util/ImmutableCollections" = some m.cls := findClass_of_methodNamed Bd.named
  have hnm := (name_of_methodNamed Bd.named Bd.method).1
  have X0 : Stand p l e ({ frames := 5, cells := 2, slots := 8, locals := 63 } : Room) s m #[(.ref pR1)] below meth c s₁ [] 0 0 := Stand.of_body Bd
  have e0 : s₁.heap = h0 := by rw [← hh, Bd.state]; rfl
  have N0 := Fr.nil n0
  obtain ⟨clq3, Arq3, Akq3, Asq3, Anq3, Ahq3, Agq3⟩ := id V_pR1
  obtain ⟨T4, h4, k4, X4, e4, E4, A4, O4, st4⟩ := newR X0 hx hZ hown (ow hw 34 rfl) (ow hw 35 rfl) e0 (g := (mkF m 2 #[.val (.ref pR1), .unset, .unset] [(.int 6)])) rfl (hb hby d6_2) rfl (by decide) (cap := 6) (by decide) (by decide) (by decide) (by decide)
  obtain ⟨bR4, g4⟩ : ∃ z, z = h0.size := ⟨_, rfl⟩
  rw [← g4] at A4 st4
  have K5 : Keep h0 h4 [] := (Keep.refl h0 []).ext E4
  have Z6 : n0 ≤ h4.size := (Nat.le_trans Z0 E4.1)
  have V4 : Arv Z h4 bR4 k4 (.object "java/lang/Object") (6 : Int32) [.null, .null, .null, .null, .null, .null] .null := (Arv.new A4 (by decide)).pad (pad_rep [] .null 6)
  have c8 : Arv Z h4 pR1 pK2 (.object "java/lang/Integer") (6 : Int32) [(.ref pR801), (.ref pR802), (.ref pR802), (.ref pR802), (.ref pR802), (.ref pR802)] .null := V_pR1.ext E4
  obtain ⟨clq7, Arq7, Akq7, Asq7, Anq7, Ahq7, Agq7⟩ := id c8
  obtain ⟨clq9, Arq9, Akq9, Asq9, Anq9, Ahq9, Agq9⟩ := id c8
  have hin10 : ¬ ((0 : Int32) < 0 ∨ clq9.slots.size ≤ ((0 : Int32)).toNatClampNeg) := inb_of Asq9 ⟨by decide, by decide⟩
  obtain ⟨_, _, ⟨T11, L11, k11, n11⟩, -, X11, ⟨Lc11, hQ11, l11, y11, z11⟩, st11⟩ := Jvm.LawKit.callS X4 hx (y := yN5) hown (mvT hZ (ow hw 36 rfl)) (mvT hZ (ow hw 37 rfl)) (mvT hZ (ow hw 38 rfl)) (mvT hZ (ow hw 39 rfl)) (by decide) (backOf (W := 2) (rnn l Z a0 hw [] pR801 h4 n0 Z6 ) hZ (ow hw 39 rfl) (ow hw 38 rfl) (by decide) (by decide)) (g := (mkF m 19 #[.val (.ref pR1), .val (.ref bR4), .val (.int 0)] [(.ref pR801), (.int 0), (.ref bR4)])) rfl (by rw [hml]; rfl) (argsL := [(.ref pR801)]) (rest := [(.int 0), (.ref bR4)]) (lenOf pd_2 rfl) rfl (Nat.le_refl _) (hb hby d6_19) (fun _ _ => ⟨rfl, e4, (by decide : 1 + 0 ≤ _), (by decide : 6 + 0 ≤ _)⟩)
  dsimp only [Pt.U, Pt.locs, Pt.cells, Pt.slots] at X11 l11 y11 z11 st11 hQ11
  subst l11 y11 z11
  obtain ⟨rfl, Nq11, e11⟩ := hQ11
  have N11 := Fr.app N0 Nq11
  have g12 : n0 ≤ bR4 := Nat.le_trans Z0 (Nat.le_of_eq g4.symm)
  obtain ⟨clq13, Arq13, Akq13, Asq13, Anq13, Ahq13, Agq13⟩ := id V4
  have hin14 : ¬ ((0 : Int32) < 0 ∨ clq13.slots.size ≤ ((0 : Int32)).toNatClampNeg) := inb_of Asq13 ⟨by decide, by decide⟩
  have c15 : Exa Z h4 pR801 "java/lang/Integer" := E_pR801.ext E4
  obtain ⟨T16, h16, X16, e16, W16, st16⟩ := stR X11 hx hZ e11 Arq13 (j := (0 : Int32)) hin14 rfl (Sto.ofV Arq13 Akq13 O4 (Ins.of_exa c15 (ow hw 40 rfl))) (g := (mkF m 22 #[.val (.ref pR1), .val (.ref bR4), .val (.int 0)] [(.ref pR801), (.int 0), (.ref bR4)])) rfl rfl (hb hby d6_22)
  have K17 : Keep h0 h16 [] := K5.wr W16 (Or.inr (Nat.le_of_eq g4.symm))
  have Z18 : n0 ≤ h16.size := (Nat.le_trans Z6 (Keep.of_wr W16).1)
  have N16 := Fr.snoc X16 N11 g12
  obtain ⟨Lh16, X16, N16⟩ := own_hide X16 N16
  have V16 : Arv Z h16 bR4 k4 (.object "java/lang/Object") (6 : Int32) [(.ref pR801), .null, .null, .null, .null, .null] .null := Arv.set Arq13 Akq13 Asq13 Anq13 Ahq13 Agq13 rfl W16 0 rfl (Nat.le_of_ble_eq_true rfl)
  have c20 : Arv Z h16 pR1 pK2 (.object "java/lang/Integer") (6 : Int32) [(.ref pR801), (.ref pR802), (.ref pR802), (.ref pR802), (.ref pR802), (.ref pR802)] .null := c8.other W16 (Nat.ne_of_lt (Nat.lt_of_lt_of_le V_pR1.lt (Nat.le_of_eq g4.symm)))
  obtain ⟨clq19, Arq19, Akq19, Asq19, Anq19, Ahq19, Agq19⟩ := id c20
  obtain ⟨clq21, Arq21, Akq21, Asq21, Anq21, Ahq21, Agq21⟩ := id c20
  have hin22 : ¬ ((1 : Int32) < 0 ∨ clq21.slots.size ≤ ((1 : Int32)).toNatClampNeg) := inb_of Asq21 ⟨by decide, by decide⟩
  obtain ⟨_, _, ⟨T23, L23, k23, n23⟩, -, X23, ⟨Lc23, hQ23, l23, y23, z23⟩, st23⟩ := Jvm.LawKit.callS X16 hx (y := yN5) hown (mvT hZ (ow hw 36 rfl)) (mvT hZ (ow hw 37 rfl)) (mvT hZ (ow hw 38 rfl)) (mvT hZ (ow hw 39 rfl)) (by decide) (backOf (W := 2) (rnn l Z a0 hw [] pR802 h16 n0 Z18 ) hZ (ow hw 39 rfl) (ow hw 38 rfl) (by decide) (by decide)) (g := (mkF m 19 #[.val (.ref pR1), .val (.ref bR4), .val (.int 1)] [(.ref pR802), (.int 1), (.ref bR4)])) rfl (by rw [hml]; rfl) (argsL := [(.ref pR802)]) (rest := [(.int 1), (.ref bR4)]) (lenOf pd_2 rfl) rfl (Nat.le_refl _) (hb hby d6_19) (fun _ _ => ⟨rfl, e16, (by decide : 1 + 0 ≤ _), (by decide : 6 + 0 ≤ _)⟩)
  dsimp only [Pt.U, Pt.locs, Pt.cells, Pt.slots] at X23 l23 y23 z23 st23 hQ23
  subst l23 y23 z23
  obtain ⟨rfl, Nq23, e23⟩ := hQ23
  have N23 := Fr.app N16 Nq23
  obtain ⟨clq24, Arq24, Akq24, Asq24, Anq24, Ahq24, Agq24⟩ := id V16
  have hin25 : ¬ ((1 : Int32) < 0 ∨ clq24.slots.size ≤ ((1 : Int32)).toNatClampNeg) := inb_of Asq24 ⟨by decide, by decide⟩
  have c26 : Exa Z h4 pR802 "java/lang/Integer" := E_pR802.ext E4
  have c27 : Exa Z h16 pR802 "java/lang/Integer" := c26.wr W16
  obtain ⟨T28, h28, X28, e28, W28, st28⟩ := stR X23 hx hZ e23 Arq24 (j := (1 : Int32)) hin25 rfl (Sto.ofV Arq24 Akq24 O4 (Ins.of_exa c27 (ow hw 40 rfl))) (g := (mkF m 22 #[.val (.ref pR1), .val (.ref bR4), .val (.int 1)] [(.ref pR802), (.int 1), (.ref bR4)])) rfl rfl (hb hby d6_22)
  have K29 : Keep h0 h28 [] := K17.wr W28 (Or.inr (Nat.le_of_eq g4.symm))
  have Z30 : n0 ≤ h28.size := (Nat.le_trans Z18 (Keep.of_wr W28).1)
  have N28 := Fr.snoc X28 N23 g12
  obtain ⟨Lh28, X28, N28⟩ := own_hide X28 N28
  have V28 : Arv Z h28 bR4 k4 (.object "java/lang/Object") (6 : Int32) [(.ref pR801), (.ref pR802), .null, .null, .null, .null] .null := Arv.set Arq24 Akq24 Asq24 Anq24 Ahq24 Agq24 rfl W28 1 rfl (Nat.le_of_ble_eq_true rfl)
  have c32 : Arv Z h28 pR1 pK2 (.object "java/lang/Integer") (6 : Int32) [(.ref pR801), (.ref pR802), (.ref pR802), (.ref pR802), (.ref pR802), (.ref pR802)] .null := c20.other W28 (Nat.ne_of_lt (Nat.lt_of_lt_of_le V_pR1.lt (Nat.le_of_eq g4.symm)))
  obtain ⟨clq31, Arq31, Akq31, Asq31, Anq31, Ahq31, Agq31⟩ := id c32
  obtain ⟨clq33, Arq33, Akq33, Asq33, Anq33, Ahq33, Agq33⟩ := id c32
  have hin34 : ¬ ((2 : Int32) < 0 ∨ clq33.slots.size ≤ ((2 : Int32)).toNatClampNeg) := inb_of Asq33 ⟨by decide, by decide⟩
  obtain ⟨_, _, ⟨T35, L35, k35, n35⟩, -, X35, ⟨Lc35, hQ35, l35, y35, z35⟩, st35⟩ := Jvm.LawKit.callS X28 hx (y := yN5) hown (mvT hZ (ow hw 36 rfl)) (mvT hZ (ow hw 37 rfl)) (mvT hZ (ow hw 38 rfl)) (mvT hZ (ow hw 39 rfl)) (by decide) (backOf (W := 2) (rnn l Z a0 hw [] pR802 h28 n0 Z30 ) hZ (ow hw 39 rfl) (ow hw 38 rfl) (by decide) (by decide)) (g := (mkF m 19 #[.val (.ref pR1), .val (.ref bR4), .val (.int 2)] [(.ref pR802), (.int 2), (.ref bR4)])) rfl (by rw [hml]; rfl) (argsL := [(.ref pR802)]) (rest := [(.int 2), (.ref bR4)]) (lenOf pd_2 rfl) rfl (Nat.le_refl _) (hb hby d6_19) (fun _ _ => ⟨rfl, e28, (by decide : 1 + 0 ≤ _), (by decide : 6 + 0 ≤ _)⟩)
  dsimp only [Pt.U, Pt.locs, Pt.cells, Pt.slots] at X35 l35 y35 z35 st35 hQ35
  subst l35 y35 z35
  obtain ⟨rfl, Nq35, e35⟩ := hQ35
  have N35 := Fr.app N28 Nq35
  obtain ⟨clq36, Arq36, Akq36, Asq36, Anq36, Ahq36, Agq36⟩ := id V28
  have hin37 : ¬ ((2 : Int32) < 0 ∨ clq36.slots.size ≤ ((2 : Int32)).toNatClampNeg) := inb_of Asq36 ⟨by decide, by decide⟩
  have c38 : Exa Z h28 pR802 "java/lang/Integer" := c27.wr W28
  obtain ⟨T39, h39, X39, e39, W39, st39⟩ := stR X35 hx hZ e35 Arq36 (j := (2 : Int32)) hin37 rfl (Sto.ofV Arq36 Akq36 O4 (Ins.of_exa c38 (ow hw 40 rfl))) (g := (mkF m 22 #[.val (.ref pR1), .val (.ref bR4), .val (.int 2)] [(.ref pR802), (.int 2), (.ref bR4)])) rfl rfl (hb hby d6_22)
  have K40 : Keep h0 h39 [] := K29.wr W39 (Or.inr (Nat.le_of_eq g4.symm))
  have Z41 : n0 ≤ h39.size := (Nat.le_trans Z30 (Keep.of_wr W39).1)
  have N39 := Fr.snoc X39 N35 g12
  obtain ⟨Lh39, X39, N39⟩ := own_hide X39 N39
  have V39 : Arv Z h39 bR4 k4 (.object "java/lang/Object") (6 : Int32) [(.ref pR801), (.ref pR802), (.ref pR802), .null, .null, .null] .null := Arv.set Arq36 Akq36 Asq36 Anq36 Ahq36 Agq36 rfl W39 2 rfl (Nat.le_of_ble_eq_true rfl)
  have c43 : Arv Z h39 pR1 pK2 (.object "java/lang/Integer") (6 : Int32) [(.ref pR801), (.ref pR802), (.ref pR802), (.ref pR802), (.ref pR802), (.ref pR802)] .null := c32.other W39 (Nat.ne_of_lt (Nat.lt_of_lt_of_le V_pR1.lt (Nat.le_of_eq g4.symm)))
  obtain ⟨clq42, Arq42, Akq42, Asq42, Anq42, Ahq42, Agq42⟩ := id c43
  obtain ⟨clq44, Arq44, Akq44, Asq44, Anq44, Ahq44, Agq44⟩ := id c43
  have hin45 : ¬ ((3 : Int32) < 0 ∨ clq44.slots.size ≤ ((3 : Int32)).toNatClampNeg) := inb_of Asq44 ⟨by decide, by decide⟩
  obtain ⟨_, _, ⟨T46, L46, k46, n46⟩, -, X46, ⟨Lc46, hQ46, l46, y46, z46⟩, st46⟩ := Jvm.LawKit.callS X39 hx (y := yN5) hown (mvT hZ (ow hw 36 rfl)) (mvT hZ (ow hw 37 rfl)) (mvT hZ (ow hw 38 rfl)) (mvT hZ (ow hw 39 rfl)) (by decide) (backOf (W := 2) (rnn l Z a0 hw [] pR802 h39 n0 Z41 ) hZ (ow hw 39 rfl) (ow hw 38 rfl) (by decide) (by decide)) (g := (mkF m 19 #[.val (.ref pR1), .val (.ref bR4), .val (.int 3)] [(.ref pR802), (.int 3), (.ref bR4)])) rfl (by rw [hml]; rfl) (argsL := [(.ref pR802)]) (rest := [(.int 3), (.ref bR4)]) (lenOf pd_2 rfl) rfl (Nat.le_refl _) (hb hby d6_19) (fun _ _ => ⟨rfl, e39, (by decide : 1 + 0 ≤ _), (by decide : 6 + 0 ≤ _)⟩)
  dsimp only [Pt.U, Pt.locs, Pt.cells, Pt.slots] at X46 l46 y46 z46 st46 hQ46
  subst l46 y46 z46
  obtain ⟨rfl, Nq46, e46⟩ := hQ46
  have N46 := Fr.app N39 Nq46
  obtain ⟨clq47, Arq47, Akq47, Asq47, Anq47, Ahq47, Agq47⟩ := id V39
  have hin48 : ¬ ((3 : Int32) < 0 ∨ clq47.slots.size ≤ ((3 : Int32)).toNatClampNeg) := inb_of Asq47 ⟨by decide, by decide⟩
  have c49 : Exa Z h39 pR802 "java/lang/Integer" := c38.wr W39
  obtain ⟨T50, h50, X50, e50, W50, st50⟩ := stR X46 hx hZ e46 Arq47 (j := (3 : Int32)) hin48 rfl (Sto.ofV Arq47 Akq47 O4 (Ins.of_exa c49 (ow hw 40 rfl))) (g := (mkF m 22 #[.val (.ref pR1), .val (.ref bR4), .val (.int 3)] [(.ref pR802), (.int 3), (.ref bR4)])) rfl rfl (hb hby d6_22)
  have K51 : Keep h0 h50 [] := K40.wr W50 (Or.inr (Nat.le_of_eq g4.symm))
  have Z52 : n0 ≤ h50.size := (Nat.le_trans Z41 (Keep.of_wr W50).1)
  have N50 := Fr.snoc X50 N46 g12
  obtain ⟨Lh50, X50, N50⟩ := own_hide X50 N50
  have V50 : Arv Z h50 bR4 k4 (.object "java/lang/Object") (6 : Int32) [(.ref pR801), (.ref pR802), (.ref pR802), (.ref pR802), .null, .null] .null := Arv.set Arq47 Akq47 Asq47 Anq47 Ahq47 Agq47 rfl W50 3 rfl (Nat.le_of_ble_eq_true rfl)
  have c54 : Arv Z h50 pR1 pK2 (.object "java/lang/Integer") (6 : Int32) [(.ref pR801), (.ref pR802), (.ref pR802), (.ref pR802), (.ref pR802), (.ref pR802)] .null := c43.other W50 (Nat.ne_of_lt (Nat.lt_of_lt_of_le V_pR1.lt (Nat.le_of_eq g4.symm)))
  obtain ⟨clq53, Arq53, Akq53, Asq53, Anq53, Ahq53, Agq53⟩ := id c54
  obtain ⟨clq55, Arq55, Akq55, Asq55, Anq55, Ahq55, Agq55⟩ := id c54
  have hin56 : ¬ ((4 : Int32) < 0 ∨ clq55.slots.size ≤ ((4 : Int32)).toNatClampNeg) := inb_of Asq55 ⟨by decide, by decide⟩
  obtain ⟨_, _, ⟨T57, L57, k57, n57⟩, -, X57, ⟨Lc57, hQ57, l57, y57, z57⟩, st57⟩ := Jvm.LawKit.callS X50 hx (y := yN5) hown (mvT hZ (ow hw 36 rfl)) (mvT hZ (ow hw 37 rfl)) (mvT hZ (ow hw 38 rfl)) (mvT hZ (ow hw 39 rfl)) (by decide) (backOf (W := 2) (rnn l Z a0 hw [] pR802 h50 n0 Z52 ) hZ (ow hw 39 rfl) (ow hw 38 rfl) (by decide) (by decide)) (g := (mkF m 19 #[.val (.ref pR1), .val (.ref bR4), .val (.int 4)] [(.ref pR802), (.int 4), (.ref bR4)])) rfl (by rw [hml]; rfl) (argsL := [(.ref pR802)]) (rest := [(.int 4), (.ref bR4)]) (lenOf pd_2 rfl) rfl (Nat.le_refl _) (hb hby d6_19) (fun _ _ => ⟨rfl, e50, (by decide : 1 + 0 ≤ _), (by decide : 6 + 0 ≤ _)⟩)
  dsimp only [Pt.U, Pt.locs, Pt.cells, Pt.slots] at X57 l57 y57 z57 st57 hQ57
  subst l57 y57 z57
  obtain ⟨rfl, Nq57, e57⟩ := hQ57
  have N57 := Fr.app N50 Nq57
  obtain ⟨clq58, Arq58, Akq58, Asq58, Anq58, Ahq58, Agq58⟩ := id V50
  have hin59 : ¬ ((4 : Int32) < 0 ∨ clq58.slots.size ≤ ((4 : Int32)).toNatClampNeg) := inb_of Asq58 ⟨by decide, by decide⟩
  have c60 : Exa Z h50 pR802 "java/lang/Integer" := c49.wr W50
  obtain ⟨T61, h61, X61, e61, W61, st61⟩ := stR X57 hx hZ e57 Arq58 (j := (4 : Int32)) hin59 rfl (Sto.ofV Arq58 Akq58 O4 (Ins.of_exa c60 (ow hw 40 rfl))) (g := (mkF m 22 #[.val (.ref pR1), .val (.ref bR4), .val (.int 4)] [(.ref pR802), (.int 4), (.ref bR4)])) rfl rfl (hb hby d6_22)
  have K62 : Keep h0 h61 [] := K51.wr W61 (Or.inr (Nat.le_of_eq g4.symm))
  have Z63 : n0 ≤ h61.size := (Nat.le_trans Z52 (Keep.of_wr W61).1)
  have N61 := Fr.snoc X61 N57 g12
  obtain ⟨Lh61, X61, N61⟩ := own_hide X61 N61
  have V61 : Arv Z h61 bR4 k4 (.object "java/lang/Object") (6 : Int32) [(.ref pR801), (.ref pR802), (.ref pR802), (.ref pR802), (.ref pR802), .null] .null := Arv.set Arq58 Akq58 Asq58 Anq58 Ahq58 Agq58 rfl W61 4 rfl (Nat.le_of_ble_eq_true rfl)
  have c65 : Arv Z h61 pR1 pK2 (.object "java/lang/Integer") (6 : Int32) [(.ref pR801), (.ref pR802), (.ref pR802), (.ref pR802), (.ref pR802), (.ref pR802)] .null := c54.other W61 (Nat.ne_of_lt (Nat.lt_of_lt_of_le V_pR1.lt (Nat.le_of_eq g4.symm)))
  obtain ⟨clq64, Arq64, Akq64, Asq64, Anq64, Ahq64, Agq64⟩ := id c65
  obtain ⟨clq66, Arq66, Akq66, Asq66, Anq66, Ahq66, Agq66⟩ := id c65
  have hin67 : ¬ ((5 : Int32) < 0 ∨ clq66.slots.size ≤ ((5 : Int32)).toNatClampNeg) := inb_of Asq66 ⟨by decide, by decide⟩
  obtain ⟨_, _, ⟨T68, L68, k68, n68⟩, -, X68, ⟨Lc68, hQ68, l68, y68, z68⟩, st68⟩ := Jvm.LawKit.callS X61 hx (y := yN5) hown (mvT hZ (ow hw 36 rfl)) (mvT hZ (ow hw 37 rfl)) (mvT hZ (ow hw 38 rfl)) (mvT hZ (ow hw 39 rfl)) (by decide) (backOf (W := 2) (rnn l Z a0 hw [] pR802 h61 n0 Z63 ) hZ (ow hw 39 rfl) (ow hw 38 rfl) (by decide) (by decide)) (g := (mkF m 19 #[.val (.ref pR1), .val (.ref bR4), .val (.int 5)] [(.ref pR802), (.int 5), (.ref bR4)])) rfl (by rw [hml]; rfl) (argsL := [(.ref pR802)]) (rest := [(.int 5), (.ref bR4)]) (lenOf pd_2 rfl) rfl (Nat.le_refl _) (hb hby d6_19) (fun _ _ => ⟨rfl, e61, (by decide : 1 + 0 ≤ _), (by decide : 6 + 0 ≤ _)⟩)
  dsimp only [Pt.U, Pt.locs, Pt.cells, Pt.slots] at X68 l68 y68 z68 st68 hQ68
  subst l68 y68 z68
  obtain ⟨rfl, Nq68, e68⟩ := hQ68
  have N68 := Fr.app N61 Nq68
  obtain ⟨clq69, Arq69, Akq69, Asq69, Anq69, Ahq69, Agq69⟩ := id V61
  have hin70 : ¬ ((5 : Int32) < 0 ∨ clq69.slots.size ≤ ((5 : Int32)).toNatClampNeg) := inb_of Asq69 ⟨by decide, by decide⟩
  have c71 : Exa Z h61 pR802 "java/lang/Integer" := c60.wr W61
  obtain ⟨T72, h72, X72, e72, W72, st72⟩ := stR X68 hx hZ e68 Arq69 (j := (5 : Int32)) hin70 rfl (Sto.ofV Arq69 Akq69 O4 (Ins.of_exa c71 (ow hw 40 rfl))) (g := (mkF m 22 #[.val (.ref pR1), .val (.ref bR4), .val (.int 5)] [(.ref pR802), (.int 5), (.ref bR4)])) rfl rfl (hb hby d6_22)
  have K73 : Keep h0 h72 [] := K62.wr W72 (Or.inr (Nat.le_of_eq g4.symm))
  have Z74 : n0 ≤ h72.size := (Nat.le_trans Z63 (Keep.of_wr W72).1)
  have N72 := Fr.snoc X72 N68 g12
  obtain ⟨Lh72, X72, N72⟩ := own_hide X72 N72
  have V72 : Arv Z h72 bR4 k4 (.object "java/lang/Object") (6 : Int32) [(.ref pR801), (.ref pR802), (.ref pR802), (.ref pR802), (.ref pR802), (.ref pR802)] .null := Arv.set Arq69 Akq69 Asq69 Anq69 Ahq69 Agq69 rfl W72 5 rfl (Nat.le_of_ble_eq_true rfl)
  have c76 : Arv Z h72 pR1 pK2 (.object "java/lang/Integer") (6 : Int32) [(.ref pR801), (.ref pR802), (.ref pR802), (.ref pR802), (.ref pR802), (.ref pR802)] .null := c65.other W72 (Nat.ne_of_lt (Nat.lt_of_lt_of_le V_pR1.lt (Nat.le_of_eq g4.symm)))
  obtain ⟨clq75, Arq75, Akq75, Asq75, Anq75, Ahq75, Agq75⟩ := id c76
  obtain ⟨T77, h77, X77, e77, E77, A77, D77, U77, st77⟩ := newO X72 hx hZ hown (ow hw 41 rfl) (ow hw 42 rfl) (ow hw 43 rfl) e72 (g := (mkF m 29 #[.val (.ref pR1), .val (.ref bR4), .val (.int 6)] [])) rfl (hb hby d6_29) (by decide) (by decide)
  obtain ⟨bR77, g77⟩ : ∃ z, z = h72.size := ⟨_, rfl⟩
  rw [← g77] at A77 D77 U77 st77
  have K78 : Keep h0 h77 [] := K73.ext E77
  have Z79 : n0 ≤ h77.size := (Nat.le_trans Z74 E77.1)
  have F80 : Fld Z h77 bR77 "java/util/ImmutableCollections$ListN" "elements" "[Ljava/lang/Object;" .null := D77 (Or.inr (ow hw 70 rfl)) (ty := (.array (.object "java/lang/Object"))) (by decide)
  have F81 : Fld Z h77 bR77 "java/util/ImmutableCollections$ListN" "allowNulls" "Z" (.int 0) := D77 (Or.inr (ow hw 72 rfl)) (ty := .boolean) (by decide)
  have g82 : n0 ≤ bR77 := Nat.le_trans Z74 (Nat.le_of_eq g77.symm)
  obtain ⟨_, _, ⟨T83, L83, k83, n83⟩, -, X83, ⟨Lc83, hQ83, l83, y83, z83⟩, st83⟩ := X77.specialBackNest hx (y := yN9) rfl hown (own_mvM hZ (ow hw 44 rfl)) (mvT hZ (ow hw 45 rfl)) (mvT hZ (ow hw 47 rfl)) (by decide) (backOf (W := 1) (lnI l Z a0 hw [] bR77 bR4 h77 n0 Z79 A77 F80 g82 F81) hZ (ow hw 47 rfl) (ow hw 43 rfl) (by decide) (by decide)) (g := (mkF m 35 #[.val (.ref pR1), .val (.ref bR4), .val (.int 6)] [(.int 0), (.ref bR4), (.ref bR77), (.ref bR77)])) rfl (by rw [hml]; rfl) (Steps.refl _) (a := bR77) (argsL := [(.ref bR4), (.int 0)]) (rest := [(.ref bR77)]) (lenOf pd_9 rfl) rfl (Nat.le_refl _) (hb hby d6_35) (fun _ _ => ⟨rfl, e77, (by decide : 2 + 0 ≤ _), (by decide : 8 + 0 ≤ _)⟩)
  dsimp only [Pt.U, Pt.locs, Pt.cells, Pt.slots] at X83 l83 y83 z83 st83 hQ83
  subst l83 y83 z83
  obtain ⟨rfl, Nq83, Kq83, x83_0, x83_1, x83_2⟩ := hQ83
  have N83 := Fr.app N72 Nq83
  obtain ⟨Lh83, X83, N83⟩ := own_hide X83 N83
  have K84 : Keep h0 T83.heap [] := K78.trans Kq83 (allS (Or.inr (Nat.le_trans K73.1 (Nat.le_of_eq g77.symm))) all0)
  have Z85 : n0 ≤ T83.heap.size := (Nat.le_trans Z79 Kq83.1)
  have c86 : Arv Z h77 bR4 k4 (.object "java/lang/Object") (6 : Int32) [(.ref pR801), (.ref pR802), (.ref pR802), (.ref pR802), (.ref pR802), (.ref pR802)] .null := V72.ext E77
  have c87 : Arv Z T83.heap bR4 k4 (.object "java/lang/Object") (6 : Int32) [(.ref pR801), (.ref pR802), (.ref pR802), (.ref pR802), (.ref pR802), (.ref pR802)] .null := c86.keep Kq83 (ninS (Nat.ne_of_lt (Nat.lt_of_lt_of_le V72.lt (Nat.le_of_eq g77.symm))) nin0)
  obtain ⟨fs, hr, hrun, hended, hW, hsame⟩ := X83.leave (v := some (.ref bR77)) (fun h => by rw [Bd.returns] at h; cases h)
  refine ⟨_, _, castTop (ef_lfa6 m pR1) ?_, hrun, hended, _, _, rfl, ?_, ⟨_, rfl⟩, hW, hsame.mono (by decide) (by decide)⟩
  · show oS p e below s₁ m 0 #[.val (.ref pR1), .unset, .unset] [] _
    refine XS.aloadN X0.here hx rfl (hb hby d6_0) rfl rfl ?_
    refine X0.arraylength hx (by rw [e0]; exact Arq3.1) (State.isArrayOf_alike hZ.alike Arq3.2.1) (g := (mkF m 1 #[.val (.ref pR1), .unset, .unset] [(.ref pR1)])) rfl rfl (hb hby d6_1) _ ?_
    rw [len_of Asq3 Anq3]
    refine st4 _ ?_
    refine XS.astoreN X4.here hx rfl (hb hby d6_5) rfl rfl (l' := #[.val (.ref pR1), .val (.ref bR4), .unset]) rfl ?_
    refine XS.iconst X4.here hx rfl (hb hby d6_6) ?_
    refine XS.istoreN X4.here hx rfl (hb hby d6_7) rfl (l' := #[.val (.ref pR1), .val (.ref bR4), .val (.int 0)]) rfl ?_
    refine XS.iloadN X4.here hx rfl (hb hby d6_8) rfl ?_
    refine XS.aloadN X4.here hx rfl (hb hby d6_9) rfl rfl ?_
    show oS p e below T4 m 10 #[.val (.ref pR1), .val (.ref bR4), .val (.int 0)] [(.ref pR1), (.int 0)] _
    refine X4.arraylength hx (by rw [e4]; exact Arq7.1) (State.isArrayOf_alike hZ.alike Arq7.2.1) (g := (mkF m 10 #[.val (.ref pR1), .val (.ref bR4), .val (.int 0)] [(.ref pR1), (.int 0)])) rfl rfl (hb hby d6_10) _ ?_
    rw [len_of Asq7 Anq7]
    refine XS.icmpNo X4.here hx rfl (hb hby d6_11) rfl (tlt (by decide : (0 : Int32) < (6 : Int32))).2.1 ?_
    refine XS.aloadN X4.here hx rfl (hb hby d6_14) rfl rfl ?_
    refine XS.iloadN X4.here hx rfl (hb hby d6_15) rfl ?_
    refine XS.aloadN X4.here hx rfl (hb hby d6_16) rfl rfl ?_
    refine XS.iloadN X4.here hx rfl (hb hby d6_17) rfl ?_
    refine X4.aaload hx (j := (0 : Int32)) (v := (.ref pR801)) (by rw [e4]; exact Arq9.1) (State.isArrayOf_alike hZ.alike Arq9.2.1) rfl Arq9.2.2 hin10 (Has.at Ahq9 hin10 rfl) (g := (mkF m 18 #[.val (.ref pR1), .val (.ref bR4), .val (.int 0)] [(.int 0), (.ref pR1), (.int 0), (.ref bR4)])) rfl rfl (hb hby d6_18) _ ?_
    refine st11 _ ?_
    show oS p e below T11 m 22 #[.val (.ref pR1), .val (.ref bR4), .val (.int 0)] [(.ref pR801), (.int 0), (.ref bR4)] _
    refine st16 _ ?_
    refine XS.iinc X16.here hx rfl (hb hby d6_23) rfl (l' := #[.val (.ref pR1), .val (.ref bR4), .val (.int 1)]) rfl ?_
    refine XS.goto X16.here hx rfl (pc0 := 26) (pc' := 8) rfl (hb hby d6_26) (by decide) (by decide) ?_
    refine XS.iloadN X16.here hx rfl (hb hby d6_8) rfl ?_
    refine XS.aloadN X16.here hx rfl (hb hby d6_9) rfl rfl ?_
    refine X16.arraylength hx (by rw [e16]; exact Arq19.1) (State.isArrayOf_alike hZ.alike Arq19.2.1) (g := (mkF m 10 #[.val (.ref pR1), .val (.ref bR4), .val (.int 1)] [(.ref pR1), (.int 1)])) rfl rfl (hb hby d6_10) _ ?_
    rw [len_of Asq19 Anq19]
    refine XS.icmpNo X16.here hx rfl (hb hby d6_11) rfl (tlt (by decide : (1 : Int32) < (6 : Int32))).2.1 ?_
    refine XS.aloadN X16.here hx rfl (hb hby d6_14) rfl rfl ?_
    show oS p e below T16 m 15 #[.val (.ref pR1), .val (.ref bR4), .val (.int 1)] [(.ref bR4)] _
    refine XS.iloadN X16.here hx rfl (hb hby d6_15) rfl ?_
    refine XS.aloadN X16.here hx rfl (hb hby d6_16) rfl rfl ?_
    refine XS.iloadN X16.here hx rfl (hb hby d6_17) rfl ?_
    refine X16.aaload hx (j := (1 : Int32)) (v := (.ref pR802)) (by rw [e16]; exact Arq21.1) (State.isArrayOf_alike hZ.alike Arq21.2.1) rfl Arq21.2.2 hin22 (Has.at Ahq21 hin22 rfl) (g := (mkF m 18 #[.val (.ref pR1), .val (.ref bR4), .val (.int 1)] [(.int 1), (.ref pR1), (.int 1), (.ref bR4)])) rfl rfl (hb hby d6_18) _ ?_
    refine st23 _ ?_
    refine st28 _ ?_
    refine XS.iinc X28.here hx rfl (hb hby d6_23) rfl (l' := #[.val (.ref pR1), .val (.ref bR4), .val (.int 2)]) rfl ?_
    refine XS.goto X28.here hx rfl (pc0 := 26) (pc' := 8) rfl (hb hby d6_26) (by decide) (by decide) ?_
    show oS p e below T28 m 8 #[.val (.ref pR1), .val (.ref bR4), .val (.int 2)] [] _
    refine XS.iloadN X28.here hx rfl (hb hby d6_8) rfl ?_
    refine XS.aloadN X28.here hx rfl (hb hby d6_9) rfl rfl ?_
    refine X28.arraylength hx (by rw [e28]; exact Arq31.1) (State.isArrayOf_alike hZ.alike Arq31.2.1) (g := (mkF m 10 #[.val (.ref pR1), .val (.ref bR4), .val (.int 2)] [(.ref pR1), (.int 2)])) rfl rfl (hb hby d6_10) _ ?_
    rw [len_of Asq31 Anq31]
    refine XS.icmpNo X28.here hx rfl (hb hby d6_11) rfl (tlt (by decide : (2 : Int32) < (6 : Int32))).2.1 ?_
    refine XS.aloadN X28.here hx rfl (hb hby d6_14) rfl rfl ?_
    refine XS.iloadN X28.here hx rfl (hb hby d6_15) rfl ?_
    refine XS.aloadN X28.here hx rfl (hb hby d6_16) rfl rfl ?_
    refine XS.iloadN X28.here hx rfl (hb hby d6_17) rfl ?_
    show oS p e below T28 m 18 #[.val (.ref pR1), .val (.ref bR4), .val (.int 2)] [(.int 2), (.ref pR1), (.int 2), (.ref bR4)] _
    refine X28.aaload hx (j := (2 : Int32)) (v := (.ref pR802)) (by rw [e28]; exact Arq33.1) (State.isArrayOf_alike hZ.alike Arq33.2.1) rfl Arq33.2.2 hin34 (Has.at Ahq33 hin34 rfl) (g := (mkF m 18 #[.val (.ref pR1), .val (.ref bR4), .val (.int 2)] [(.int 2), (.ref pR1), (.int 2), (.ref bR4)])) rfl rfl (hb hby d6_18) _ ?_
    refine st35 _ ?_
    refine st39 _ ?_
    refine XS.iinc X39.here hx rfl (hb hby d6_23) rfl (l' := #[.val (.ref pR1), .val (.ref bR4), .val (.int 3)]) rfl ?_
    refine XS.goto X39.here hx rfl (pc0 := 26) (pc' := 8) rfl (hb hby d6_26) (by decide) (by decide) ?_
    refine XS.iloadN X39.here hx rfl (hb hby d6_8) rfl ?_
    refine XS.aloadN X39.here hx rfl (hb hby d6_9) rfl rfl ?_
    refine X39.arraylength hx (by rw [e39]; exact Arq42.1) (State.isArrayOf_alike hZ.alike Arq42.2.1) (g := (mkF m 10 #[.val (.ref pR1), .val (.ref bR4), .val (.int 3)] [(.ref pR1), (.int 3)])) rfl rfl (hb hby d6_10) _ ?_
    rw [len_of Asq42 Anq42]
    show oS p e below T39 m 11 #[.val (.ref pR1), .val (.ref bR4), .val (.int 3)] [(.int 6), (.int 3)] _
    refine XS.icmpNo X39.here hx rfl (hb hby d6_11) rfl (tlt (by decide : (3 : Int32) < (6 : Int32))).2.1 ?_
    refine XS.aloadN X39.here hx rfl (hb hby d6_14) rfl rfl ?_
    refine XS.iloadN X39.here hx rfl (hb hby d6_15) rfl ?_
    refine XS.aloadN X39.here hx rfl (hb hby d6_16) rfl rfl ?_
    refine XS.iloadN X39.here hx rfl (hb hby d6_17) rfl ?_
    refine X39.aaload hx (j := (3 : Int32)) (v := (.ref pR802)) (by rw [e39]; exact Arq44.1) (State.isArrayOf_alike hZ.alike Arq44.2.1) rfl Arq44.2.2 hin45 (Has.at Ahq44 hin45 rfl) (g := (mkF m 18 #[.val (.ref pR1), .val (.ref bR4), .val (.int 3)] [(.int 3), (.ref pR1), (.int 3), (.ref bR4)])) rfl rfl (hb hby d6_18) _ ?_
    refine st46 _ ?_
    refine st50 _ ?_
    show oS p e below T50 m 23 #[.val (.ref pR1), .val (.ref bR4), .val (.int 3)] [] _
    refine XS.iinc X50.here hx rfl (hb hby d6_23) rfl (l' := #[.val (.ref pR1), .val (.ref bR4), .val (.int 4)]) rfl ?_
    refine XS.goto X50.here hx rfl (pc0 := 26) (pc' := 8) rfl (hb hby d6_26) (by decide) (by decide) ?_
    refine XS.iloadN X50.here hx rfl (hb hby d6_8) rfl ?_
    refine XS.aloadN X50.here hx rfl (hb hby d6_9) rfl rfl ?_
    refine X50.arraylength hx (by rw [e50]; exact Arq53.1) (State.isArrayOf_alike hZ.alike Arq53.2.1) (g := (mkF m 10 #[.val (.ref pR1), .val (.ref bR4), .val (.int 4)] [(.ref pR1), (.int 4)])) rfl rfl (hb hby d6_10) _ ?_
    rw [len_of Asq53 Anq53]
    refine XS.icmpNo X50.here hx rfl (hb hby d6_11) rfl (tlt (by decide : (4 : Int32) < (6 : Int32))).2.1 ?_
    refine XS.aloadN X50.here hx rfl (hb hby d6_14) rfl rfl ?_
    refine XS.iloadN X50.here hx rfl (hb hby d6_15) rfl ?_
    show oS p e below T50 m 16 #[.val (.ref pR1), .val (.ref bR4), .val (.int 4)] [(.int 4), (.ref bR4)] _
    refine XS.aloadN X50.here hx rfl (hb hby d6_16) rfl rfl ?_
    refine XS.iloadN X50.here hx rfl (hb hby d6_17) rfl ?_
    refine X50.aaload hx (j := (4 : Int32)) (v := (.ref pR802)) (by rw [e50]; exact Arq55.1) (State.isArrayOf_alike hZ.alike Arq55.2.1) rfl Arq55.2.2 hin56 (Has.at Ahq55 hin56 rfl) (g := (mkF m 18 #[.val (.ref pR1), .val (.ref bR4), .val (.int 4)] [(.int 4), (.ref pR1), (.int 4), (.ref bR4)])) rfl rfl (hb hby d6_18) _ ?_
    refine st57 _ ?_
    refine st61 _ ?_
    refine XS.iinc X61.here hx rfl (hb hby d6_23) rfl (l' := #[.val (.ref pR1), .val (.ref bR4), .val (.int 5)]) rfl ?_
    refine XS.goto X61.here hx rfl (pc0 := 26) (pc' := 8) rfl (hb hby d6_26) (by decide) (by decide) ?_
    refine XS.iloadN X61.here hx rfl (hb hby d6_8) rfl ?_
    show oS p e below T61 m 9 #[.val (.ref pR1), .val (.ref bR4), .val (.int 5)] [(.int 5)] _
    refine XS.aloadN X61.here hx rfl (hb hby d6_9) rfl rfl ?_
    refine X61.arraylength hx (by rw [e61]; exact Arq64.1) (State.isArrayOf_alike hZ.alike Arq64.2.1) (g := (mkF m 10 #[.val (.ref pR1), .val (.ref bR4), .val (.int 5)] [(.ref pR1), (.int 5)])) rfl rfl (hb hby d6_10) _ ?_
    rw [len_of Asq64 Anq64]
    refine XS.icmpNo X61.here hx rfl (hb hby d6_11) rfl (tlt (by decide : (5 : Int32) < (6 : Int32))).2.1 ?_
    refine XS.aloadN X61.here hx rfl (hb hby d6_14) rfl rfl ?_
    refine XS.iloadN X61.here hx rfl (hb hby d6_15) rfl ?_
    refine XS.aloadN X61.here hx rfl (hb hby d6_16) rfl rfl ?_
    refine XS.iloadN X61.here hx rfl (hb hby d6_17) rfl ?_
    refine X61.aaload hx (j := (5 : Int32)) (v := (.ref pR802)) (by rw [e61]; exact Arq66.1) (State.isArrayOf_alike hZ.alike Arq66.2.1) rfl Arq66.2.2 hin67 (Has.at Ahq66 hin67 rfl) (g := (mkF m 18 #[.val (.ref pR1), .val (.ref bR4), .val (.int 5)] [(.int 5), (.ref pR1), (.int 5), (.ref bR4)])) rfl rfl (hb hby d6_18) _ ?_
    show oS p e below T61 m 19 #[.val (.ref pR1), .val (.ref bR4), .val (.int 5)] [(.ref pR802), (.int 5), (.ref bR4)] _
    refine st68 _ ?_
    refine st72 _ ?_
    refine XS.iinc X72.here hx rfl (hb hby d6_23) rfl (l' := #[.val (.ref pR1), .val (.ref bR4), .val (.int 6)]) rfl ?_
    refine XS.goto X72.here hx rfl (pc0 := 26) (pc' := 8) rfl (hb hby d6_26) (by decide) (by decide) ?_
    refine XS.iloadN X72.here hx rfl (hb hby d6_8) rfl ?_
    refine XS.aloadN X72.here hx rfl (hb hby d6_9) rfl rfl ?_
    refine X72.arraylength hx (by rw [e72]; exact Arq75.1) (State.isArrayOf_alike hZ.alike Arq75.2.1) (g := (mkF m 10 #[.val (.ref pR1), .val (.ref bR4), .val (.int 6)] [(.ref pR1), (.int 6)])) rfl rfl (hb hby d6_10) _ ?_
    rw [len_of Asq75 Anq75]
    refine XS.icmpYes X72.here hx rfl (pc0 := 11) (pc' := 29) rfl (hb hby d6_11) rfl (flt (by decide : ¬ ((6 : Int32) < (6 : Int32)))).2.1 (by decide) (by decide) ?_
    show oS p e below T72 m 29 #[.val (.ref pR1), .val (.ref bR4), .val (.int 6)] [] _
    refine st77 _ ?_
    refine XS.dup X77.here hx rfl (hb hby d6_32) rfl rfl ?_
    refine XS.aloadN X77.here hx rfl (hb hby d6_33) rfl rfl ?_
    refine XS.iconst X77.here hx rfl (hb hby d6_34) ?_
    refine st83.trans ?_
    exact retOut X83 hx Bd.returns rfl (Or.inr (Or.inr (Or.inr (Or.inr ⟨rfl, rfl, rfl⟩)))) (hb hby d6_38) hr
  · show Qlfa6 Z pR1 pR801 pR802 pK2 h0 n0 _ T83.heap _
    exact ⟨bR4, bR77, k4, rfl, N83, K84, (Nat.le_of_eq g4.symm), (Nat.le_trans K73.1 (Nat.le_of_eq g77.symm)), c87, O4, x83_0, x83_1, x83_2⟩
theorem ef_of6 (m : MethodId) (pR1 : Addr) : entryFrame m #[(.ref pR1)] 2 = mkF m 0 #[.val (.ref pR1), .unset] [] := by first | (simp [entryFrame, mkF, argsToLocals, Value.category]; done) | rfl
def Qof6 (Z : State) (pR1 : Addr) (pR801 : Addr) (pR802 : Addr) (pK2 : ClassId) (h0 : Heap) (n0 : Nat) (v : Option Value) (h : Heap) (L : List Loc) : Prop := ∃ bR4_0 : Addr, ∃ bR4_1 : Addr, ∃ kK4_0 : ClassId, v = some (.ref bR4_1) ∧ Fr n0 L ∧ Keep h0 h [] ∧ h0.size ≤ bR4_0 ∧ h0.size ≤ bR4_1 ∧ Arv Z h bR4_0 kK4_0 (.object "java/lang/Object") (6 : Int32) [(.ref pR801), (.ref pR802), (.ref pR802), (.ref pR802), (.ref pR802), (.ref pR802)] .null ∧ Exa Z h bR4_1 "java/util/ImmutableCollections$ListN" ∧ Fld Z h bR4_1 "java/util/ImmutableCollections$ListN" "elements" "[Ljava/lang/Object;" (.ref bR4_0) ∧ Fld Z h bR4_1 "java/util/ImmutableCollections$ListN" "allowNulls" "Z" (.int 0)
set_option maxRecDepth 65536 in
set_option maxHeartbeats 40000000 in
theorem of6 (l : Launch) (Z : State) (a0 : Array Value) (hw : ∀ d ∈ tables_1, d.before a0 Z = true) (ws : List Jvm.Cond) (pR1 : Addr) (pR801 : Addr) (pR802 : Addr) (pK2 : ClassId) (h0 : Heap) (n0 : Nat) (Z0 : n0 ≤ h0.size) (V_pR1 : Arv Z h0 pR1 pK2 (.object "java/lang/Integer") (6 : Int32) [(.ref pR801), (.ref pR802), (.ref pR802), (.ref pR802), (.ref pR802), (.ref pR802)] .null) (E_pR801 : Exa Z h0 pR801 "java/lang/Integer") (E_pR802 : Exa Z h0 pR802 "java/lang/Integer") :
    oM l yN13 jdk_40_method_47_code 2 (some (.object "java/util/List")) ws ({ frames := 6, cells := 2, slots := 8, locals := 77 } : Room) #[(.ref pR1)] Z h0 (Qof6 Z pR1 pR801 pR802 pK2 h0 n0) := by
  refine MetFree.of_bodySF (plainFor_of_name pn_9) hisR ?_
  intro p e s m args below meth c s₁ Bd hml0 hP hK
  obtain ⟨rfl, hZ, hh⟩ := hP
  have hx := Bd.exec
  have hby := Bd.bytes
  have hml : c.maxLocals = 2 := hml0
  have hown : s.vm.findClass "java/util/List" = some m.cls := findClass_of_methodNamed Bd.named
  have hnm := (name_of_methodNamed Bd.named Bd.method).1
  have X0 : Stand p l e ({ frames := 6, cells := 2, slots := 8, locals := 77 } : Room) s m #[(.ref pR1)] below meth c s₁ [] 0 0 := Stand.of_body Bd
  have e0 : s₁.heap = h0 := by rw [← hh, Bd.state]; rfl
  have N0 := Fr.nil n0
  obtain ⟨clq3, Arq3, Akq3, Asq3, Anq3, Ahq3, Agq3⟩ := id V_pR1
  obtain ⟨_, _, ⟨T4, L4, k4, n4⟩, -, X4, ⟨Lc4, hQ4, l4, y4, z4⟩, st4⟩ := Jvm.LawKit.callS X0 hx (y := yN15) hown (mvT hZ (ow hw 30 rfl)) (mvT hZ (ow hw 31 rfl)) (mvT hZ (ow hw 32 rfl)) (mvT hZ (ow hw 33 rfl)) (by decide) (backOf (W := 0) (lfa6 l Z a0 hw [] pR1 pR801 pR802 pK2 h0 n0 Z0 V_pR1 E_pR801 E_pR802) hZ (ow hw 33 rfl) (ow hw 32 rfl) (by decide) (by decide)) (g := (mkF m 60 #[.val (.ref pR1), .unset] [(.ref pR1)])) rfl (by rw [hml]; rfl) (argsL := [(.ref pR1)]) (rest := []) (lenOf pd_7 rfl) rfl (Nat.le_refl _) (hb hby d5_60) (fun _ _ => ⟨rfl, e0, (by decide : 0 + 2 ≤ _), (by decide : 0 + 8 ≤ _)⟩)
  dsimp only [Pt.U, Pt.locs, Pt.cells, Pt.slots] at X4 l4 y4 z4 st4 hQ4
  subst l4 y4 z4
  obtain ⟨bR4_0, bR4_1, kK4_0, rfl, Nq4, Kq4, sz4_0, sz4_1, x4_0, x4_1, x4_2, x4_3, x4_4⟩ := hQ4
  have N4 := Fr.app N0 Nq4
  obtain ⟨Lh4, X4, N4⟩ := own_hide X4 N4
  have K5 : Keep h0 T4.heap [] := (Keep.refl h0 []).trans Kq4 all0
  have Z6 : n0 ≤ T4.heap.size := (Nat.le_trans Z0 Kq4.1)
  obtain ⟨fs, hr, hrun, hended, hW, hsame⟩ := X4.leave (v := some (.ref bR4_1)) (fun h => by rw [Bd.returns] at h; cases h)
  refine ⟨_, _, castTop (ef_of6 m pR1) ?_, hrun, hended, _, _, rfl, ?_, ⟨_, rfl⟩, hW, hsame.mono (by decide) (by decide)⟩
  · show oS p e below s₁ m 0 #[.val (.ref pR1), .unset] [] _
    refine XS.aloadN X0.here hx rfl (hb hby d5_0) rfl rfl ?_
    refine X0.arraylength hx (by rw [e0]; exact Arq3.1) (State.isArrayOf_alike hZ.alike Arq3.2.1) (g := (mkF m 1 #[.val (.ref pR1), .unset] [(.ref pR1)])) rfl rfl (hb hby d5_1) _ ?_
    rw [len_of Asq3 Anq3]
    refine XS.tswOut X0.here hx rfl (pc0 := 2) (pc' := 59) rfl (hb hby d5_2) rfl (by decide) (by decide) (by decide) ?_
    refine XS.aloadN X0.here hx rfl (hb hby d5_59) rfl rfl ?_
    refine st4 _ ?_
    exact retOut X4 hx Bd.returns rfl (Or.inr (Or.inr (Or.inr (Or.inr ⟨rfl, rfl, rfl⟩)))) (hb hby d5_63) hr
  · show Qof6 Z pR1 pR801 pR802 pK2 h0 n0 _ T4.heap _
    exact ⟨bR4_0, bR4_1, kK4_0, rfl, N4, K5, sz4_0, sz4_1, x4_0, x4_2, x4_3, x4_4⟩
theorem ef_eqs6 (m : MethodId) (pI1 : Int32) : entryFrame m #[(.int pI1), (.int 6)] 4 = mkF m 0 #[.val (.int pI1), .val (.int 6), .unset, .unset] [] := by first | (simp [entryFrame, mkF, argsToLocals, Value.category]; done) | rfl
def Qeqs6 (Z : State) (pI1 : Int32) (pR6 : Addr) (pC8 : Cell) (h0 : Heap) (n0 : Nat) (v : Option Value) (h : Heap) (L : List Loc) : Prop := ∃ bR41_0 : Addr, ∃ bR41_1 : Addr, ∃ bR10_0 : Addr, ∃ bR29_0 : Addr, ∃ kK41_0 : ClassId, v = some (.ref bR41_1) ∧ Fr n0 L ∧ Keep h0 h [] ∧ h0.size ≤ bR41_0 ∧ h0.size ≤ bR41_1 ∧ Exa Z h bR10_0 "java/lang/Integer" ∧ Fld Z h bR10_0 "java/lang/Integer" "value" "I" (.int (pI1 / (6 : Int32))) ∧ Exa Z h bR29_0 "java/lang/Integer" ∧ Fld Z h bR29_0 "java/lang/Integer" "value" "I" (.int ((pI1 / (6 : Int32)) + (pI1 % (6 : Int32)))) ∧ Arv Z h bR41_0 kK41_0 (.object "java/lang/Object") (6 : Int32) [(.ref bR29_0), (.ref bR10_0), (.ref bR10_0), (.ref bR10_0), (.ref bR10_0), (.ref bR10_0)] .null ∧ Exa Z h bR41_1 "java/util/ImmutableCollections$ListN" ∧ Fld Z h bR41_1 "java/util/ImmutableCollections$ListN" "elements" "[Ljava/lang/Object;" (.ref bR41_0) ∧ Fld Z h bR41_1 "java/util/ImmutableCollections$ListN" "allowNulls" "Z" (.int 0)
set_option maxRecDepth 65536 in
set_option maxHeartbeats 40000000 in
theorem eqs6 (l : Launch) (Z : State) (a0 : Array Value) (hw : ∀ d ∈ tables_1, d.before a0 Z = true) (ws : List Jvm.Cond) (pI1 : Int32) (pR6 : Addr) (pC8 : Cell) (h0 : Heap) (n0 : Nat) (Z0 : n0 ≤ h0.size) (S_Integer_IntegerCache_high : Sta Z h0 "java/lang/Integer$IntegerCache" "high" "I" (.int 127)) (S_Integer_IntegerCache_cache : Sta Z h0 "java/lang/Integer$IntegerCache" "cache" "[Ljava/lang/Integer;" (.ref pR6)) (B_pR6 : Bxs Z pR6 pC8 "java/lang/Integer" "I" (256 : Int32) (fun j => .int (j - 128))) (D0 : Old Z n0 h0) :
    oM l yN14 prog_51_method_10_code 4 (some (.object "java/util/List")) ws ({ frames := 7, cells := 5, slots := 16, locals := 90 } : Room) #[(.int pI1), (.int 6)] Z h0 (Qeqs6 Z pI1 pR6 pC8 h0 n0) := by
  refine MetFree.of_bodySF (plainFor_of_name pn_10) hisR ?_
  intro p e s m args below meth c s₁ Bd hml0 hP hK
  obtain ⟨rfl, hZ, hh⟩ := hP
  have hx := Bd.exec
  have hby := Bd.bytes
  have hml : c.maxLocals = 4 := hml0
  have hown : s.vm.findClass "com/example/watchful_junction/watchfuljunction/scenario/ProportionalSpec" = some m.cls := findClass_of_methodNamed Bd.named
  have hnm := (name_of_methodNamed Bd.named Bd.method).1
  have X0 : Stand p l e ({ frames := 7, cells := 5, slots := 16, locals := 90 } : Room) s m #[(.int pI1), (.int 6)] below meth c s₁ [] 0 0 := Stand.of_body Bd
  have e0 : s₁.heap = h0 := by rw [← hh, Bd.state]; rfl
  have N0 := Fr.nil n0
  obtain ⟨T2, h2, k2, X2, e2, E2, A2, O2, st2⟩ := newR X0 hx hZ hown (ow hw 5 rfl) (ow hw 6 rfl) e0 (g := (mkF m 1 #[.val (.int pI1), .val (.int 6), .unset, .unset] [(.int 6)])) rfl (hb hby d1_1) rfl (by decide) (cap := 6) (by decide) (by decide) (by decide) (by decide)
  obtain ⟨bR2, g2⟩ : ∃ z, z = h0.size := ⟨_, rfl⟩
  rw [← g2] at A2 st2
  have K3 : Keep h0 h2 [] := (Keep.refl h0 []).ext E2
  have Z4 : n0 ≤ h2.size := (Nat.le_trans Z0 E2.1)
  have V2 : Arv Z h2 bR2 k2 (.object "java/lang/Integer") (6 : Int32) [.null, .null, .null, .null, .null, .null] .null := (Arv.new A2 (by decide)).pad (pad_rep [] .null 6)
  have c5 : Sta Z h2 "java/lang/Integer$IntegerCache" "high" "I" (.int 127) := S_Integer_IntegerCache_high.ext E2
  have c7 : Sta Z h2 "java/lang/Integer$IntegerCache" "cache" "[Ljava/lang/Integer;" (.ref pR6) := S_Integer_IntegerCache_cache.ext E2
  have c9 : Old Z n0 h2 := D0.ext E2
  obtain ⟨_, _, ⟨T10, L10, k10, n10⟩, -, X10, ⟨Lc10, hQ10, l10, y10, z10⟩, st10⟩ := Jvm.LawKit.callS X2 hx (y := yN2) hown (mvT hZ (ow hw 7 rfl)) (mvT hZ (ow hw 8 rfl)) (mvT hZ (ow hw 9 rfl)) (mvT hZ (ow hw 10 rfl)) (by decide) (backOf (W := 1) (vo l Z a0 hw [] (pI1 / (6 : Int32)) pR6 pC8 h2 n0 Z4 c5 c7 B_pR6 c9) hZ (ow hw 10 rfl) (ow hw 9 rfl) (by decide) (by decide)) (g := (mkF m 9 #[.val (.int pI1), .val (.int 6), .val (.ref bR2), .unset] [(.int (pI1 / (6 : Int32))), (.ref bR2)])) rfl (by rw [hml]; rfl) (argsL := [(.int (pI1 / (6 : Int32)))]) (rest := [(.ref bR2)]) (lenOf pd_4 rfl) rfl (Nat.le_refl _) (hb hby d1_9) (fun _ _ => ⟨rfl, e2, (by decide : 1 + 1 ≤ _), (by decide : 6 + 1 ≤ _)⟩)
  dsimp only [Pt.U, Pt.locs, Pt.cells, Pt.slots] at X10 l10 y10 z10 st10 hQ10
  subst l10 y10 z10
  obtain ⟨bR10_0, rfl, Nq10, Kq10, x10_0, x10_1⟩ := hQ10
  have N10 := Fr.app N0 Nq10
  obtain ⟨Lh10, X10, N10⟩ := own_hide X10 N10
  have K11 : Keep h0 T10.heap [] := K3.trans Kq10 all0
  have Z12 : n0 ≤ T10.heap.size := (Nat.le_trans Z4 Kq10.1)
  have c13 : Arv Z T10.heap bR2 k2 (.object "java/lang/Integer") (6 : Int32) [.null, .null, .null, .null, .null, .null] .null := V2.keep Kq10 nin0
  have g14 : n0 ≤ bR2 := Nat.le_trans Z0 (Nat.le_of_eq g2.symm)
  obtain ⟨_, _, ⟨T15, L15, k15, n15⟩, -, X15, ⟨Lc15, hQ15, l15, y15, z15⟩, st15⟩ := Jvm.LawKit.callS X10 hx (y := yN12) hown (mvT hZ (ow hw 14 rfl)) (mvT hZ (ow hw 15 rfl)) (mvT hZ (ow hw 16 rfl)) (mvT hZ (ow hw 17 rfl)) (by decide) (backOf (W := 0) (fill6 l Z a0 hw [] bR2 bR10_0 k2 T10.heap n0 Z12 c13 O2 g14 x10_0) hZ (ow hw 17 rfl) (ow hw 16 rfl) (by decide) (by decide)) (g := (mkF m 12 #[.val (.int pI1), .val (.int 6), .val (.ref bR2), .unset] [(.ref bR10_0), (.ref bR2)])) rfl (by rw [hml]; rfl) (argsL := [(.ref bR2), (.ref bR10_0)]) (rest := []) (lenOf pd_5 rfl) rfl (Nat.le_refl _) (hb hby d1_12) (fun _ _ => ⟨rfl, rfl, (by decide : 2 + 0 ≤ _), (by decide : 7 + 0 ≤ _)⟩)
  dsimp only [Pt.U, Pt.locs, Pt.cells, Pt.slots] at X15 l15 y15 z15 st15 hQ15
  subst l15 y15 z15
  obtain ⟨rfl, Nq15, Kq15, x15_0, x15_1⟩ := hQ15
  have N15 := Fr.app N10 Nq15
  obtain ⟨Lh15, X15, N15⟩ := own_hide X15 N15
  have K16 : Keep h0 T15.heap [] := K11.trans Kq15 (allS (Or.inr (Nat.le_of_eq g2.symm)) all0)
  have Z17 : n0 ≤ T15.heap.size := (Nat.le_trans Z12 Kq15.1)
  obtain ⟨clq18, Arq18, Akq18, Asq18, Anq18, Ahq18, Agq18⟩ := id x15_0
  have hin19 : ¬ ((0 : Int32) < 0 ∨ clq18.slots.size ≤ ((0 : Int32)).toNatClampNeg) := inb_of Asq18 ⟨by decide, by decide⟩
  have c20 : Exa Z T15.heap bR10_0 "java/lang/Integer" := x10_0.keep Kq15
  have c21 : Fld Z T15.heap bR10_0 "java/lang/Integer" "value" "I" (.int (pI1 / (6 : Int32))) := x10_1.keep Kq15 (ninS (own_ne_EV c20 (ow hw 132 rfl) x15_0) nin0)
  obtain ⟨cq22, kq22, q22a, q22b, q22c⟩ := isOf hZ rfl c20
  obtain ⟨_, _, ⟨T22, L22, k22, n22⟩, -, X22, ⟨Lc22, hQ22, l22, y22, z22⟩, st22⟩ := X15.virtualBack hx (y := yN3) (z := yN3) hown (mvT hZ (ow hw 19 rfl)) (mvT hZ (ow hw 20 rfl)) (notFace_of_selects (args := #[]) (mvT hZ (ow hw 22 rfl))) (mvT hZ (ow hw 22 rfl)) (mvT hZ (ow hw 21 rfl)) (by decide) (backOf (W := 2) (intV l Z a0 hw [] bR10_0 (pI1 / (6 : Int32)) T15.heap n0 Z17 c21) hZ (ow hw 23 rfl) (ow hw 9 rfl) (by decide) (by decide)) q22a q22c (g := (mkF m 22 #[.val (.int pI1), .val (.int 6), .val (.ref bR2), .val (.ref bR2)] [(.ref bR10_0), (.int 0), (.ref bR2)])) rfl (by rw [hml]; rfl) (Steps.refl _) (argsL := []) (rest := [(.int 0), (.ref bR2)]) (lenOf pd_6 rfl) rfl (Nat.le_refl _) (hb hby d1_22) (fun _ _ => ⟨rfl, rfl, (by decide : 2 + 0 ≤ _), (by decide : 7 + 0 ≤ _)⟩)
  dsimp only [Pt.U, Pt.locs, Pt.cells, Pt.slots] at X22 l22 y22 z22 st22 hQ22
  subst l22 y22 z22
  obtain ⟨rfl, Nq22, e22⟩ := hQ22
  have N22 := Fr.app N15 Nq22
  have c23 : Sta Z T10.heap "java/lang/Integer$IntegerCache" "high" "I" (.int 127) := own_sta_keep c5 Kq10 all0
  have c24 : Sta Z T15.heap "java/lang/Integer$IntegerCache" "high" "I" (.int 127) := own_sta_keep c23 Kq15 (allS (own_plain_V c13) all0)
  have c25 : Sta Z T10.heap "java/lang/Integer$IntegerCache" "cache" "[Ljava/lang/Integer;" (.ref pR6) := own_sta_keep c7 Kq10 all0
  have c26 : Sta Z T15.heap "java/lang/Integer$IntegerCache" "cache" "[Ljava/lang/Integer;" (.ref pR6) := own_sta_keep c25 Kq15 (allS (own_plain_V c13) all0)
  have c27 : Old Z n0 T10.heap := c9.keep Kq10 all0
  have c28 : Old Z n0 T15.heap := c27.keep Kq15 (allS g14 all0)
  obtain ⟨_, _, ⟨T29, L29, k29, n29⟩, -, X29, ⟨Lc29, hQ29, l29, y29, z29⟩, st29⟩ := Jvm.LawKit.callS X22 hx (y := yN2) hown (mvT hZ (ow hw 7 rfl)) (mvT hZ (ow hw 8 rfl)) (mvT hZ (ow hw 9 rfl)) (mvT hZ (ow hw 10 rfl)) (by decide) (backOf (W := 2) (vo l Z a0 hw [] ((pI1 / (6 : Int32)) + (pI1 % (6 : Int32))) pR6 pC8 T15.heap n0 Z17 c24 c26 B_pR6 c28) hZ (ow hw 10 rfl) (ow hw 9 rfl) (by decide) (by decide)) (g := (mkF m 29 #[.val (.int pI1), .val (.int 6), .val (.ref bR2), .val (.ref bR2)] [(.int ((pI1 / (6 : Int32)) + (pI1 % (6 : Int32)))), (.int 0), (.ref bR2)])) rfl (by rw [hml]; rfl) (argsL := [(.int ((pI1 / (6 : Int32)) + (pI1 % (6 : Int32))))]) (rest := [(.int 0), (.ref bR2)]) (lenOf pd_4 rfl) rfl (Nat.le_refl _) (hb hby d1_29) (fun _ _ => ⟨rfl, e22, (by decide : 2 + 1 ≤ _), (by decide : 7 + 1 ≤ _)⟩)
  dsimp only [Pt.U, Pt.locs, Pt.cells, Pt.slots] at X29 l29 y29 z29 st29 hQ29
  subst l29 y29 z29
  obtain ⟨bR29_0, rfl, Nq29, Kq29, x29_0, x29_1⟩ := hQ29
  have N29 := Fr.app N22 Nq29
  obtain ⟨Lh29, X29, N29⟩ := own_hide X29 N29
  have K30 : Keep h0 T29.heap [] := K16.trans Kq29 all0
  have Z31 : n0 ≤ T29.heap.size := (Nat.le_trans Z17 Kq29.1)
  have c33 : Arv Z T29.heap bR2 k2 (.object "java/lang/Integer") (6 : Int32) [(.ref bR10_0), (.ref bR10_0), (.ref bR10_0), (.ref bR10_0), (.ref bR10_0), (.ref bR10_0)] .null := x15_0.keep Kq29 nin0
  obtain ⟨clq32, Arq32, Akq32, Asq32, Anq32, Ahq32, Agq32⟩ := id c33
  have hin34 : ¬ ((0 : Int32) < 0 ∨ clq32.slots.size ≤ ((0 : Int32)).toNatClampNeg) := inb_of Asq32 ⟨by decide, by decide⟩
  obtain ⟨T35, h35, X35, e35, W35, st35⟩ := stR X29 hx hZ rfl Arq32 (j := (0 : Int32)) hin34 rfl (Sto.ofV Arq32 Akq32 x15_1 (Ins.self x29_0)) (g := (mkF m 33 #[.val (.int pI1), .val (.int 6), .val (.ref bR2), .val (.ref bR2)] [(.ref bR29_0), (.int 0), (.ref bR2), (.ref bR29_0)])) rfl rfl (hb hby d1_33)
  have K36 : Keep h0 h35 [] := K30.wr W35 (Or.inr (Nat.le_of_eq g2.symm))
  have Z37 : n0 ≤ h35.size := (Nat.le_trans Z31 (Keep.of_wr W35).1)
  have N35 := Fr.snoc X35 N29 g14
  obtain ⟨Lh35, X35, N35⟩ := own_hide X35 N35
  have V35 : Arv Z h35 bR2 k2 (.object "java/lang/Integer") (6 : Int32) [(.ref bR29_0), (.ref bR10_0), (.ref bR10_0), (.ref bR10_0), (.ref bR10_0), (.ref bR10_0)] .null := Arv.set Arq32 Akq32 Asq32 Anq32 Ahq32 Agq32 rfl W35 0 rfl (Nat.le_of_ble_eq_true rfl)
  have c38 : Exa Z h35 bR29_0 "java/lang/Integer" := x29_0.wr W35
  have c39 : Exa Z T29.heap bR10_0 "java/lang/Integer" := c20.keep Kq29
  have c40 : Exa Z h35 bR10_0 "java/lang/Integer" := c39.wr W35
  obtain ⟨_, _, ⟨T41, L41, k41, n41⟩, -, X41, ⟨Lc41, hQ41, l41, y41, z41⟩, st41⟩ := Jvm.LawKit.callS X35 hx (y := yN13) hown (mvT hZ (ow hw 26 rfl)) (mvT hZ (ow hw 27 rfl)) (mvT hZ (ow hw 28 rfl)) (mvT hZ (ow hw 29 rfl)) (by decide) (backOf (W := 0) (of6 l Z a0 hw [] bR2 bR29_0 bR10_0 k2 h35 n0 Z37 V35 c38 c40) hZ (ow hw 29 rfl) (ow hw 28 rfl) (by decide) (by decide)) (g := (mkF m 36 #[.val (.int pI1), .val (.int 6), .val (.ref bR2), .val (.ref bR2)] [(.ref bR2)])) rfl (by rw [hml]; rfl) (argsL := [(.ref bR2)]) (rest := []) (lenOf pd_7 rfl) rfl (Nat.le_refl _) (hb hby d1_36) (fun _ _ => ⟨rfl, e35, (by decide : 3 + 2 ≤ _), (by decide : 8 + 8 ≤ _)⟩)
  dsimp only [Pt.U, Pt.locs, Pt.cells, Pt.slots] at X41 l41 y41 z41 st41 hQ41
  subst l41 y41 z41
  obtain ⟨bR41_0, bR41_1, kK41_0, rfl, Nq41, Kq41, sz41_0, sz41_1, x41_0, x41_1, x41_2, x41_3⟩ := hQ41
  have N41 := Fr.app N35 Nq41
  obtain ⟨Lh41, X41, N41⟩ := own_hide X41 N41
  have K42 : Keep h0 T41.heap [] := K36.trans Kq41 all0
  have Z43 : n0 ≤ T41.heap.size := (Nat.le_trans Z37 Kq41.1)
  have c44 : Exa Z T41.heap bR10_0 "java/lang/Integer" := c40.keep Kq41
  have c45 : Fld Z T29.heap bR10_0 "java/lang/Integer" "value" "I" (.int (pI1 / (6 : Int32))) := c21.keep Kq29 nin0
  have c46 : Fld Z h35 bR10_0 "java/lang/Integer" "value" "I" (.int (pI1 / (6 : Int32))) := c45.other W35 (Or.inl (own_ne_EV c20 (ow hw 132 rfl) x15_0))
  have c47 : Fld Z T41.heap bR10_0 "java/lang/Integer" "value" "I" (.int (pI1 / (6 : Int32))) := c46.keep Kq41 nin0
  have c48 : Exa Z T41.heap bR29_0 "java/lang/Integer" := c38.keep Kq41
  have c49 : Fld Z h35 bR29_0 "java/lang/Integer" "value" "I" (.int ((pI1 / (6 : Int32)) + (pI1 % (6 : Int32)))) := x29_1.other W35 (Or.inl (own_ne_EV c38 (ow hw 132 rfl) V35))
  have c50 : Fld Z T41.heap bR29_0 "java/lang/Integer" "value" "I" (.int ((pI1 / (6 : Int32)) + (pI1 % (6 : Int32)))) := c49.keep Kq41 nin0
  obtain ⟨fs, hr, hrun, hended, hW, hsame⟩ := X41.leave (v := some (.ref bR41_1)) (fun h => by rw [Bd.returns] at h; cases h)
  refine ⟨_, _, castTop (ef_eqs6 m pI1) ?_, hrun, hended, _, _, rfl, ?_, ⟨_, rfl⟩, hW, hsame.mono (by decide) (by decide)⟩
  · show oS p e below s₁ m 0 #[.val (.int pI1), .val (.int 6), .unset, .unset] [] _
    refine XS.iloadN X0.here hx rfl (hb hby d1_0) rfl ?_
    refine st2 _ ?_
    refine XS.astoreN X2.here hx rfl (hb hby d1_4) rfl rfl (l' := #[.val (.int pI1), .val (.int 6), .val (.ref bR2), .unset]) rfl ?_
    refine XS.aloadN X2.here hx rfl (hb hby d1_5) rfl rfl ?_
    refine XS.iloadN X2.here hx rfl (hb hby d1_6) rfl ?_
    refine XS.iloadN X2.here hx rfl (hb hby d1_7) rfl ?_
    refine XS.idiv X2.here hx rfl (hb hby d1_8) rfl (by decide) ?_
    refine st10 _ ?_
    show oS p e below T10 m 12 #[.val (.int pI1), .val (.int 6), .val (.ref bR2), .unset] [(.ref bR10_0), (.ref bR2)] _
    refine st15 _ ?_
    refine XS.aloadN X15.here hx rfl (hb hby d1_15) rfl rfl ?_
    refine XS.astoreN X15.here hx rfl (hb hby d1_16) rfl rfl (l' := #[.val (.int pI1), .val (.int 6), .val (.ref bR2), .val (.ref bR2)]) rfl ?_
    refine XS.aloadN X15.here hx rfl (hb hby d1_17) rfl rfl ?_
    refine XS.iconst X15.here hx rfl (hb hby d1_18) ?_
    refine XS.aloadN X15.here hx rfl (hb hby d1_19) rfl rfl ?_
    refine XS.iconst X15.here hx rfl (hb hby d1_20) ?_
    refine X15.aaload hx (j := (0 : Int32)) (v := (.ref bR10_0)) Arq18.1 (State.isArrayOf_alike hZ.alike Arq18.2.1) rfl Arq18.2.2 hin19 (Has.at Ahq18 hin19 rfl) (g := (mkF m 21 #[.val (.int pI1), .val (.int 6), .val (.ref bR2), .val (.ref bR2)] [(.int 0), (.ref bR2), (.int 0), (.ref bR2)])) rfl rfl (hb hby d1_21) _ ?_
    show oS p e below T15 m 22 #[.val (.int pI1), .val (.int 6), .val (.ref bR2), .val (.ref bR2)] [(.ref bR10_0), (.int 0), (.ref bR2)] _
    refine st22.trans ?_
    refine XS.iloadN X22.here hx rfl (hb hby d1_25) rfl ?_
    refine XS.iloadN X22.here hx rfl (hb hby d1_26) rfl ?_
    show Steps p.tables e below (T22.setTop (mkF m 27 #[.val (.int pI1), .val (.int 6), .val (.ref bR2), .val (.ref bR2)] [(.int 6), (.int pI1), (.int (pI1 / (6 : Int32))), (.int 0), (.ref bR2)])) _
    refine iremM (g := (mkF m 27 #[.val (.int pI1), .val (.int 6), .val (.ref bR2), .val (.ref bR2)] [(.int 6), (.int pI1), (.int (pI1 / (6 : Int32))), (.int 0), (.ref bR2)])) X22 hx rfl (hb hby d1_27) rfl (by decide) ?_
    refine XS.iadd X22.here hx rfl (hb hby d1_28) rfl ?_
    refine st29 _ ?_
    show Steps p.tables e below (T29.setTop (mkF m 32 #[.val (.int pI1), .val (.int 6), .val (.ref bR2), .val (.ref bR2)] [(.ref bR29_0), (.int 0), (.ref bR2)])) _
    jvm_step X29.here [X29.here.top, hx, (hb hby d1_32), Value.category]
    refine st35 _ ?_
    show oS p e below T35 m 34 #[.val (.int pI1), .val (.int 6), .val (.ref bR2), .val (.ref bR2)] [(.ref bR29_0)] _
    refine XS.pop X35.here hx rfl (hb hby d1_34) rfl rfl ?_
    refine XS.aloadN X35.here hx rfl (hb hby d1_35) rfl rfl ?_
    refine st41 _ ?_
    exact retOut X41 hx Bd.returns rfl (Or.inr (Or.inr (Or.inr (Or.inr ⟨rfl, rfl, rfl⟩)))) (hb hby d1_39) hr
  · show Qeqs6 Z pI1 pR6 pC8 h0 n0 _ T41.heap _
    exact ⟨bR41_0, bR41_1, bR10_0, bR29_0, kK41_0, rfl, N41, K42, (Nat.le_trans K36.1 sz41_0), (Nat.le_trans K36.1 sz41_1), c44, c47, c48, c50, x41_0, x41_1, x41_2, x41_3⟩
theorem ef_fill7 (m : MethodId) (pR1 : Addr) (pR2 : Addr) : entryFrame m #[(.ref pR1), (.ref pR2)] 4 = mkF m 0 #[.val (.ref pR1), .val (.ref pR2), .unset, .unset] [] := by first | (simp [entryFrame, mkF, argsToLocals, Value.category]; done) | rfl
def Qfill7 (Z : State) (pR1 : Addr) (pR2 : Addr) (pK3 : ClassId) (h0 : Heap) (n0 : Nat) (v : Option Value) (h : Heap) (L : List Loc) : Prop := v = none ∧ Fr n0 L ∧ Keep h0 h [pR1] ∧ Arv Z h pR1 pK3 (.object "java/lang/Integer") (7 : Int32) [(.ref pR2), (.ref pR2), (.ref pR2), (.ref pR2), (.ref pR2), (.ref pR2), (.ref pR2)] .null ∧ Ovr Z pK3 "java/lang/Integer"
set_option maxRecDepth 65536 in
set_option maxHeartbeats 40000000 in
theorem fill7 (l : Launch) (Z : State) (a0 : Array Value) (hw : ∀ d ∈ tables_1, d.before a0 Z = true) (ws : List Jvm.Cond) (pR1 : Addr) (pR2 : Addr) (pK3 : ClassId) (h0 : Heap) (n0 : Nat) (Z0 : n0 ≤ h0.size) (V_pR1 : Arv Z h0 pR1 pK3 (.object "java/lang/Integer") (7 : Int32) [.null, .null, .null, .null, .null, .null, .null] .null) (O_pK3 : Ovr Z pK3 "java/lang/Integer") (g_pR1 : n0 ≤ pR1) (E_pR2 : Exa Z h0 pR2 "java/lang/Integer") :
    oM l yN12 jdk_65_method_117_code 4 none ws ({ frames := 0, cells := 0, slots := 0, locals := 0 } : Room) #[(.ref pR1), (.ref pR2)] Z h0 (Qfill7 Z pR1 pR2 pK3 h0 n0) := by
  refine MetFree.of_bodySF (plainFor_of_name pn_8) hisR ?_
  intro p e s m args below meth c s₁ Bd hml0 hP hK
  obtain ⟨rfl, hZ, hh⟩ := hP
  have hx := Bd.exec
  have hby := Bd.bytes
  have hml : c.maxLocals = 4 := hml0
  have hown : s.vm.findClass "java/util/Arrays" = some m.cls := findClass_of_methodNamed Bd.named
  have hnm := (name_of_methodNamed Bd.named Bd.method).1
  have X0 : Stand p l e ({ frames := 0, cells := 0, slots := 0, locals := 0 } : Room) s m #[(.ref pR1), (.ref pR2)] below meth c s₁ [] 0 0 := Stand.of_body Bd
  have e0 : s₁.heap = h0 := by rw [← hh, Bd.state]; rfl
  have N0 := Fr.nil n0
  obtain ⟨clq4, Arq4, Akq4, Asq4, Anq4, Ahq4, Agq4⟩ := id V_pR1
  obtain ⟨clq5, Arq5, Akq5, Asq5, Anq5, Ahq5, Agq5⟩ := id V_pR1
  have hin6 : ¬ ((0 : Int32) < 0 ∨ clq5.slots.size ≤ ((0 : Int32)).toNatClampNeg) := inb_of Asq5 ⟨by decide, by decide⟩
  obtain ⟨T7, h7, X7, e7, W7, st7⟩ := stR X0 hx hZ e0 Arq5 (j := (0 : Int32)) hin6 rfl (Sto.ofV Arq5 Akq5 O_pK3 (Ins.self E_pR2)) (g := (mkF m 13 #[.val (.ref pR1), .val (.ref pR2), .val (.int 0), .val (.int 7)] [(.ref pR2), (.int 0), (.ref pR1)])) rfl rfl (hb hby d3_13)
  have K8 : Keep h0 h7 [pR1] := (Keep.refl h0 [pR1]).wr W7 (Or.inl (List.mem_of_getElem? (i := 0) rfl))
  have Z9 : n0 ≤ h7.size := (Nat.le_trans Z0 (Keep.of_wr W7).1)
  have N7 := Fr.snoc X7 N0 g_pR1
  obtain ⟨Lh7, X7, N7⟩ := own_hide X7 N7
  have V7 : Arv Z h7 pR1 pK3 (.object "java/lang/Integer") (7 : Int32) [(.ref pR2), .null, .null, .null, .null, .null, .null] .null := Arv.set Arq5 Akq5 Asq5 Anq5 Ahq5 Agq5 rfl W7 0 rfl (Nat.le_of_ble_eq_true rfl)
  obtain ⟨clq10, Arq10, Akq10, Asq10, Anq10, Ahq10, Agq10⟩ := id V7
  have hin11 : ¬ ((1 : Int32) < 0 ∨ clq10.slots.size ≤ ((1 : Int32)).toNatClampNeg) := inb_of Asq10 ⟨by decide, by decide⟩
  have c12 : Exa Z h7 pR2 "java/lang/Integer" := E_pR2.wr W7
  obtain ⟨T13, h13, X13, e13, W13, st13⟩ := stR X7 hx hZ e7 Arq10 (j := (1 : Int32)) hin11 rfl (Sto.ofV Arq10 Akq10 O_pK3 (Ins.self c12)) (g := (mkF m 13 #[.val (.ref pR1), .val (.ref pR2), .val (.int 1), .val (.int 7)] [(.ref pR2), (.int 1), (.ref pR1)])) rfl rfl (hb hby d3_13)
  have K14 : Keep h0 h13 [pR1] := K8.wr W13 (Or.inl (List.mem_of_getElem? (i := 0) rfl))
  have Z15 : n0 ≤ h13.size := (Nat.le_trans Z9 (Keep.of_wr W13).1)
  have N13 := Fr.snoc X13 N7 g_pR1
  obtain ⟨Lh13, X13, N13⟩ := own_hide X13 N13
  have V13 : Arv Z h13 pR1 pK3 (.object "java/lang/Integer") (7 : Int32) [(.ref pR2), (.ref pR2), .null, .null, .null, .null, .null] .null := Arv.set Arq10 Akq10 Asq10 Anq10 Ahq10 Agq10 rfl W13 1 rfl (Nat.le_of_ble_eq_true rfl)
  obtain ⟨clq16, Arq16, Akq16, Asq16, Anq16, Ahq16, Agq16⟩ := id V13
  have hin17 : ¬ ((2 : Int32) < 0 ∨ clq16.slots.size ≤ ((2 : Int32)).toNatClampNeg) := inb_of Asq16 ⟨by decide, by decide⟩
  have c18 : Exa Z h13 pR2 "java/lang/Integer" := c12.wr W13
  obtain ⟨T19, h19, X19, e19, W19, st19⟩ := stR X13 hx hZ e13 Arq16 (j := (2 : Int32)) hin17 rfl (Sto.ofV Arq16 Akq16 O_pK3 (Ins.self c18)) (g := (mkF m 13 #[.val (.ref pR1), .val (.ref pR2), .val (.int 2), .val (.int 7)] [(.ref pR2), (.int 2), (.ref pR1)])) rfl rfl (hb hby d3_13)
  have K20 : Keep h0 h19 [pR1] := K14.wr W19 (Or.inl (List.mem_of_getElem? (i := 0) rfl))
  have Z21 : n0 ≤ h19.size := (Nat.le_trans Z15 (Keep.of_wr W19).1)
  have N19 := Fr.snoc X19 N13 g_pR1
  obtain ⟨Lh19, X19, N19⟩ := own_hide X19 N19
  have V19 : Arv Z h19 pR1 pK3 (.object "java/lang/Integer") (7 : Int32) [(.ref pR2), (.ref pR2), (.ref pR2), .null, .null, .null, .null] .null := Arv.set Arq16 Akq16 Asq16 Anq16 Ahq16 Agq16 rfl W19 2 rfl (Nat.le_of_ble_eq_true rfl)
  obtain ⟨clq22, Arq22, Akq22, Asq22, Anq22, Ahq22, Agq22⟩ := id V19
  have hin23 : ¬ ((3 : Int32) < 0 ∨ clq22.slots.size ≤ ((3 : Int32)).toNatClampNeg) := inb_of Asq22 ⟨by decide, by decide⟩
  have c24 : Exa Z h19 pR2 "java/lang/Integer" := c18.wr W19
  obtain ⟨T25, h25, X25, e25, W25, st25⟩ := stR X19 hx hZ e19 Arq22 (j := (3 : Int32)) hin23 rfl (Sto.ofV Arq22 Akq22 O_pK3 (Ins.self c24)) (g := (mkF m 13 #[.val (.ref pR1), .val (.ref pR2), .val (.int 3), .val (.int 7)] [(.ref pR2), (.int 3), (.ref pR1)])) rfl rfl (hb hby d3_13)
  have K26 : Keep h0 h25 [pR1] := K20.wr W25 (Or.inl (List.mem_of_getElem? (i := 0) rfl))
  have Z27 : n0 ≤ h25.size := (Nat.le_trans Z21 (Keep.of_wr W25).1)
  have N25 := Fr.snoc X25 N19 g_pR1
  obtain ⟨Lh25, X25, N25⟩ := own_hide X25 N25
  have V25 : Arv Z h25 pR1 pK3 (.object "java/lang/Integer") (7 : Int32) [(.ref pR2), (.ref pR2), (.ref pR2), (.ref pR2), .null, .null, .null] .null := Arv.set Arq22 Akq22 Asq22 Anq22 Ahq22 Agq22 rfl W25 3 rfl (Nat.le_of_ble_eq_true rfl)
  obtain ⟨clq28, Arq28, Akq28, Asq28, Anq28, Ahq28, Agq28⟩ := id V25
  have hin29 : ¬ ((4 : Int32) < 0 ∨ clq28.slots.size ≤ ((4 : Int32)).toNatClampNeg) := inb_of Asq28 ⟨by decide, by decide⟩
  have c30 : Exa Z h25 pR2 "java/lang/Integer" := c24.wr W25
  obtain ⟨T31, h31, X31, e31, W31, st31⟩ := stR X25 hx hZ e25 Arq28 (j := (4 : Int32)) hin29 rfl (Sto.ofV Arq28 Akq28 O_pK3 (Ins.self c30)) (g := (mkF m 13 #[.val (.ref pR1), .val (.ref pR2), .val (.int 4), .val (.int 7)] [(.ref pR2), (.int 4), (.ref pR1)])) rfl rfl (hb hby d3_13)
  have K32 : Keep h0 h31 [pR1] := K26.wr W31 (Or.inl (List.mem_of_getElem? (i := 0) rfl))
  have Z33 : n0 ≤ h31.size := (Nat.le_trans Z27 (Keep.of_wr W31).1)
  have N31 := Fr.snoc X31 N25 g_pR1
  obtain ⟨Lh31, X31, N31⟩ := own_hide X31 N31
  have V31 : Arv Z h31 pR1 pK3 (.object "java/lang/Integer") (7 : Int32) [(.ref pR2), (.ref pR2), (.ref pR2), (.ref pR2), (.ref pR2), .null, .null] .null := Arv.set Arq28 Akq28 Asq28 Anq28 Ahq28 Agq28 rfl W31 4 rfl (Nat.le_of_ble_eq_true rfl)
  obtain ⟨clq34, Arq34, Akq34, Asq34, Anq34, Ahq34, Agq34⟩ := id V31
  have hin35 : ¬ ((5 : Int32) < 0 ∨ clq34.slots.size ≤ ((5 : Int32)).toNatClampNeg) := inb_of Asq34 ⟨by decide, by decide⟩
  have c36 : Exa Z h31 pR2 "java/lang/Integer" := c30.wr W31
  obtain ⟨T37, h37, X37, e37, W37, st37⟩ := stR X31 hx hZ e31 Arq34 (j := (5 : Int32)) hin35 rfl (Sto.ofV Arq34 Akq34 O_pK3 (Ins.self c36)) (g := (mkF m 13 #[.val (.ref pR1), .val (.ref pR2), .val (.int 5), .val (.int 7)] [(.ref pR2), (.int 5), (.ref pR1)])) rfl rfl (hb hby d3_13)
  have K38 : Keep h0 h37 [pR1] := K32.wr W37 (Or.inl (List.mem_of_getElem? (i := 0) rfl))
  have Z39 : n0 ≤ h37.size := (Nat.le_trans Z33 (Keep.of_wr W37).1)
  have N37 := Fr.snoc X37 N31 g_pR1
  obtain ⟨Lh37, X37, N37⟩ := own_hide X37 N37
  have V37 : Arv Z h37 pR1 pK3 (.object "java/lang/Integer") (7 : Int32) [(.ref pR2), (.ref pR2), (.ref pR2), (.ref pR2), (.ref pR2), (.ref pR2), .null] .null := Arv.set Arq34 Akq34 Asq34 Anq34 Ahq34 Agq34 rfl W37 5 rfl (Nat.le_of_ble_eq_true rfl)
  obtain ⟨clq40, Arq40, Akq40, Asq40, Anq40, Ahq40, Agq40⟩ := id V37
  have hin41 : ¬ ((6 : Int32) < 0 ∨ clq40.slots.size ≤ ((6 : Int32)).toNatClampNeg) := inb_of Asq40 ⟨by decide, by decide⟩
  have c42 : Exa Z h37 pR2 "java/lang/Integer" := c36.wr W37
  obtain ⟨T43, h43, X43, e43, W43, st43⟩ := stR X37 hx hZ e37 Arq40 (j := (6 : Int32)) hin41 rfl (Sto.ofV Arq40 Akq40 O_pK3 (Ins.self c42)) (g := (mkF m 13 #[.val (.ref pR1), .val (.ref pR2), .val (.int 6), .val (.int 7)] [(.ref pR2), (.int 6), (.ref pR1)])) rfl rfl (hb hby d3_13)
  have K44 : Keep h0 h43 [pR1] := K38.wr W43 (Or.inl (List.mem_of_getElem? (i := 0) rfl))
  have Z45 : n0 ≤ h43.size := (Nat.le_trans Z39 (Keep.of_wr W43).1)
  have N43 := Fr.snoc X43 N37 g_pR1
  obtain ⟨Lh43, X43, N43⟩ := own_hide X43 N43
  have V43 : Arv Z h43 pR1 pK3 (.object "java/lang/Integer") (7 : Int32) [(.ref pR2), (.ref pR2), (.ref pR2), (.ref pR2), (.ref pR2), (.ref pR2), (.ref pR2)] .null := Arv.set Arq40 Akq40 Asq40 Anq40 Ahq40 Agq40 rfl W43 6 rfl (Nat.le_of_ble_eq_true rfl)
  obtain ⟨fs, hr, hrun, hended, hW, hsame⟩ := X43.leave (v := none) (fun _ => rfl)
  refine ⟨_, _, castTop (ef_fill7 m pR1 pR2) ?_, hrun, hended, _, _, rfl, ?_, ⟨_, rfl⟩, hW, hsame.mono (by decide) (by decide)⟩
  · show oS p e below s₁ m 0 #[.val (.ref pR1), .val (.ref pR2), .unset, .unset] [] _
    refine XS.iconst X0.here hx rfl (hb hby d3_0) ?_
    refine XS.istoreN X0.here hx rfl (hb hby d3_1) rfl (l' := #[.val (.ref pR1), .val (.ref pR2), .val (.int 0), .unset]) rfl ?_
    refine XS.aloadN X0.here hx rfl (hb hby d3_2) rfl rfl ?_
    refine X0.arraylength hx (by rw [e0]; exact Arq4.1) (State.isArrayOf_alike hZ.alike Arq4.2.1) (g := (mkF m 3 #[.val (.ref pR1), .val (.ref pR2), .val (.int 0), .unset] [(.ref pR1)])) rfl rfl (hb hby d3_3) _ ?_
    rw [len_of Asq4 Anq4]
    refine XS.istoreN X0.here hx rfl (hb hby d3_4) rfl (l' := #[.val (.ref pR1), .val (.ref pR2), .val (.int 0), .val (.int 7)]) rfl ?_
    refine XS.iloadN X0.here hx rfl (hb hby d3_5) rfl ?_
    refine XS.iloadN X0.here hx rfl (hb hby d3_6) rfl ?_
    refine XS.icmpNo X0.here hx rfl (hb hby d3_7) rfl (tlt (by decide : (0 : Int32) < (7 : Int32))).2.1 ?_
    show oS p e below s₁ m 10 #[.val (.ref pR1), .val (.ref pR2), .val (.int 0), .val (.int 7)] [] _
    refine XS.aloadN X0.here hx rfl (hb hby d3_10) rfl rfl ?_
    refine XS.iloadN X0.here hx rfl (hb hby d3_11) rfl ?_
    refine XS.aloadN X0.here hx rfl (hb hby d3_12) rfl rfl ?_
    refine st7 _ ?_
    refine XS.iinc X7.here hx rfl (hb hby d3_14) rfl (l' := #[.val (.ref pR1), .val (.ref pR2), .val (.int 1), .val (.int 7)]) rfl ?_
    refine XS.goto X7.here hx rfl (pc0 := 17) (pc' := 5) rfl (hb hby d3_17) (by decide) (by decide) ?_
    refine XS.iloadN X7.here hx rfl (hb hby d3_5) rfl ?_
    refine XS.iloadN X7.here hx rfl (hb hby d3_6) rfl ?_
    show oS p e below T7 m 7 #[.val (.ref pR1), .val (.ref pR2), .val (.int 1), .val (.int 7)] [(.int 7), (.int 1)] _
    refine XS.icmpNo X7.here hx rfl (hb hby d3_7) rfl (tlt (by decide : (1 : Int32) < (7 : Int32))).2.1 ?_
    refine XS.aloadN X7.here hx rfl (hb hby d3_10) rfl rfl ?_
    refine XS.iloadN X7.here hx rfl (hb hby d3_11) rfl ?_
    refine XS.aloadN X7.here hx rfl (hb hby d3_12) rfl rfl ?_
    refine st13 _ ?_
    refine XS.iinc X13.here hx rfl (hb hby d3_14) rfl (l' := #[.val (.ref pR1), .val (.ref pR2), .val (.int 2), .val (.int 7)]) rfl ?_
    refine XS.goto X13.here hx rfl (pc0 := 17) (pc' := 5) rfl (hb hby d3_17) (by decide) (by decide) ?_
    refine XS.iloadN X13.here hx rfl (hb hby d3_5) rfl ?_
    show oS p e below T13 m 6 #[.val (.ref pR1), .val (.ref pR2), .val (.int 2), .val (.int 7)] [(.int 2)] _
    refine XS.iloadN X13.here hx rfl (hb hby d3_6) rfl ?_
    refine XS.icmpNo X13.here hx rfl (hb hby d3_7) rfl (tlt (by decide : (2 : Int32) < (7 : Int32))).2.1 ?_
    refine XS.aloadN X13.here hx rfl (hb hby d3_10) rfl rfl ?_
    refine XS.iloadN X13.here hx rfl (hb hby d3_11) rfl ?_
    refine XS.aloadN X13.here hx rfl (hb hby d3_12) rfl rfl ?_
    refine st19 _ ?_
    refine XS.iinc X19.here hx rfl (hb hby d3_14) rfl (l' := #[.val (.ref pR1), .val (.ref pR2), .val (.int 3), .val (.int 7)]) rfl ?_
    refine XS.goto X19.here hx rfl (pc0 := 17) (pc' := 5) rfl (hb hby d3_17) (by decide) (by decide) ?_
    show oS p e below T19 m 5 #[.val (.ref pR1), .val (.ref pR2), .val (.int 3), .val (.int 7)] [] _
    refine XS.iloadN X19.here hx rfl (hb hby d3_5) rfl ?_
    refine XS.iloadN X19.here hx rfl (hb hby d3_6) rfl ?_
    refine XS.icmpNo X19.here hx rfl (hb hby d3_7) rfl (tlt (by decide : (3 : Int32) < (7 : Int32))).2.1 ?_
    refine XS.aloadN X19.here hx rfl (hb hby d3_10) rfl rfl ?_
    refine XS.iloadN X19.here hx rfl (hb hby d3_11) rfl ?_
    refine XS.aloadN X19.here hx rfl (hb hby d3_12) rfl rfl ?_
    refine st25 _ ?_
    refine XS.iinc X25.here hx rfl (hb hby d3_14) rfl (l' := #[.val (.ref pR1), .val (.ref pR2), .val (.int 4), .val (.int 7)]) rfl ?_
    show oS p e below T25 m 17 #[.val (.ref pR1), .val (.ref pR2), .val (.int 4), .val (.int 7)] [] _
    refine XS.goto X25.here hx rfl (pc0 := 17) (pc' := 5) rfl (hb hby d3_17) (by decide) (by decide) ?_
    refine XS.iloadN X25.here hx rfl (hb hby d3_5) rfl ?_
    refine XS.iloadN X25.here hx rfl (hb hby d3_6) rfl ?_
    refine XS.icmpNo X25.here hx rfl (hb hby d3_7) rfl (tlt (by decide : (4 : Int32) < (7 : Int32))).2.1 ?_
    refine XS.aloadN X25.here hx rfl (hb hby d3_10) rfl rfl ?_
    refine XS.iloadN X25.here hx rfl (hb hby d3_11) rfl ?_
    refine XS.aloadN X25.here hx rfl (hb hby d3_12) rfl rfl ?_
    refine st31 _ ?_
    show oS p e below T31 m 14 #[.val (.ref pR1), .val (.ref pR2), .val (.int 4), .val (.int 7)] [] _
    refine XS.iinc X31.here hx rfl (hb hby d3_14) rfl (l' := #[.val (.ref pR1), .val (.ref pR2), .val (.int 5), .val (.int 7)]) rfl ?_
    refine XS.goto X31.here hx rfl (pc0 := 17) (pc' := 5) rfl (hb hby d3_17) (by decide) (by decide) ?_
    refine XS.iloadN X31.here hx rfl (hb hby d3_5) rfl ?_
    refine XS.iloadN X31.here hx rfl (hb hby d3_6) rfl ?_
    refine XS.icmpNo X31.here hx rfl (hb hby d3_7) rfl (tlt (by decide : (5 : Int32) < (7 : Int32))).2.1 ?_
    refine XS.aloadN X31.here hx rfl (hb hby d3_10) rfl rfl ?_
    refine XS.iloadN X31.here hx rfl (hb hby d3_11) rfl ?_
    refine XS.aloadN X31.here hx rfl (hb hby d3_12) rfl rfl ?_
    show oS p e below T31 m 13 #[.val (.ref pR1), .val (.ref pR2), .val (.int 5), .val (.int 7)] [(.ref pR2), (.int 5), (.ref pR1)] _
    refine st37 _ ?_
    refine XS.iinc X37.here hx rfl (hb hby d3_14) rfl (l' := #[.val (.ref pR1), .val (.ref pR2), .val (.int 6), .val (.int 7)]) rfl ?_
    refine XS.goto X37.here hx rfl (pc0 := 17) (pc' := 5) rfl (hb hby d3_17) (by decide) (by decide) ?_
    refine XS.iloadN X37.here hx rfl (hb hby d3_5) rfl ?_
    refine XS.iloadN X37.here hx rfl (hb hby d3_6) rfl ?_
    refine XS.icmpNo X37.here hx rfl (hb hby d3_7) rfl (tlt (by decide : (6 : Int32) < (7 : Int32))).2.1 ?_
    refine XS.aloadN X37.here hx rfl (hb hby d3_10) rfl rfl ?_
    refine XS.iloadN X37.here hx rfl (hb hby d3_11) rfl ?_
    show oS p e below T37 m 12 #[.val (.ref pR1), .val (.ref pR2), .val (.int 6), .val (.int 7)] [(.int 6), (.ref pR1)] _
    refine XS.aloadN X37.here hx rfl (hb hby d3_12) rfl rfl ?_
    refine st43 _ ?_
    refine XS.iinc X43.here hx rfl (hb hby d3_14) rfl (l' := #[.val (.ref pR1), .val (.ref pR2), .val (.int 7), .val (.int 7)]) rfl ?_
    refine XS.goto X43.here hx rfl (pc0 := 17) (pc' := 5) rfl (hb hby d3_17) (by decide) (by decide) ?_
    refine XS.iloadN X43.here hx rfl (hb hby d3_5) rfl ?_
    refine XS.iloadN X43.here hx rfl (hb hby d3_6) rfl ?_
    refine XS.icmpYes X43.here hx rfl (pc0 := 7) (pc' := 20) rfl (hb hby d3_7) rfl (flt (by decide : ¬ ((7 : Int32) < (7 : Int32)))).2.1 (by decide) (by decide) ?_
    exact X43.returnOut hx Bd.returns (hb hby d3_20) hr
  · show Qfill7 Z pR1 pR2 pK3 h0 n0 _ T43.heap _
    rw [e43]
    exact ⟨rfl, N43, K44, V43, O_pK3⟩
theorem ef_lfa7 (m : MethodId) (pR1 : Addr) : entryFrame m #[(.ref pR1)] 3 = mkF m 0 #[.val (.ref pR1), .unset, .unset] [] := by first | (simp [entryFrame, mkF, argsToLocals, Value.category]; done) | rfl
def Qlfa7 (Z : State) (pR1 : Addr) (pR801 : Addr) (pR802 : Addr) (pK2 : ClassId) (h0 : Heap) (n0 : Nat) (v : Option Value) (h : Heap) (L : List Loc) : Prop := ∃ bR4 : Addr, ∃ bR88 : Addr, ∃ k4 : ClassId, v = some (.ref bR88) ∧ Fr n0 L ∧ Keep h0 h [] ∧ h0.size ≤ bR4 ∧ h0.size ≤ bR88 ∧ Arv Z h bR4 k4 (.object "java/lang/Object") (7 : Int32) [(.ref pR801), (.ref pR802), (.ref pR802), (.ref pR802), (.ref pR802), (.ref pR802), (.ref pR802)] .null ∧ Ovr Z k4 "java/lang/Object" ∧ Exa Z h bR88 "java/util/ImmutableCollections$ListN" ∧ Fld Z h bR88 "java/util/ImmutableCollections$ListN" "elements" "[Ljava/lang/Object;" (.ref bR4) ∧ Fld Z h bR88 "java/util/ImmutableCollections$ListN" "allowNulls" "Z" (.int 0)
set_option maxRecDepth 65536 in
set_option maxHeartbeats 40000000 in
theorem lfa7 (l : Launch) (Z : State) (a0 : Array Value) (hw : ∀ d ∈ tables_1, d.before a0 Z = true) (ws : List Jvm.Cond) (pR1 : Addr) (pR801 : Addr) (pR802 : Addr) (pK2 : ClassId) (h0 : Heap) (n0 : Nat) (Z0 : n0 ≤ h0.size) (V_pR1 : Arv Z h0 pR1 pK2 (.object "java/lang/Integer") (7 : Int32) [(.ref pR801), (.ref pR802), (.ref pR802), (.ref pR802), (.ref pR802), (.ref pR802), (.ref pR802)] .null) (E_pR801 : Exa Z h0 pR801 "java/lang/Integer") (E_pR802 : Exa Z h0 pR802 "java/lang/Integer") :
    oM l yN15 jdk_56_method_4_code 3 (some (.object "java/util/List")) ws ({ frames := 5, cells := 2, slots := 9, locals := 63 } : Room) #[(.ref pR1)] Z h0 (Qlfa7 Z pR1 pR801 pR802 pK2 h0 n0) := by
  refine MetFree.of_bodySF (plainFor_of_name pn_11) hisR ?_
  intro p e s m args below meth c s₁ Bd hml0 hP hK
  obtain ⟨rfl, hZ, hh⟩ := hP
  have hx := Bd.exec
  have hby := Bd.bytes
  have hml : c.maxLocals = 3 := hml0
  have hown : s.vm.findClass "java/util/ImmutableCollections" = some m.cls := findClass_of_methodNamed Bd.named
  have hnm := (name_of_methodNamed Bd.named Bd.method).1
  have X0 : Stand p l e ({ frames := 5, cells := 2, slots := 9, locals := 63 } : Room) s m #[(.ref pR1)] below meth c s₁ [] 0 0 := Stand.of_body Bd
  have e0 : s₁.heap = h0 := by rw [← hh, Bd.state]; rfl
  have N0 := Fr.nil n0
  obtain ⟨clq3, Arq3, Akq3, Asq3, Anq3, Ahq3, Agq3⟩ := id V_pR1
  obtain ⟨T4, h4, k4, X4, e4, E4, A4, O4, st4⟩ := newR X0 hx hZ hown (ow hw 34 rfl) (ow hw 35 rfl) e0 (g := (mkF m 2 #[.val (.ref pR1), .unset, .unset] [(.int 7)])) rfl (hb hby d6_2) rfl (by decide) (cap := 7) (by decide) (by decide) (by decide) (by decide)
  obtain ⟨bR4, g4⟩ : ∃ z, z = h0.size := ⟨_, rfl⟩
  rw [← g4] at A4 st4
  have K5 : Keep h0 h4 [] := (Keep.refl h0 []).ext E4
  have Z6 : n0 ≤ h4.size := (Nat.le_trans Z0 E4.1)
  have V4 : Arv Z h4 bR4 k4 (.object "java/lang/Object") (7 : Int32) [.null, .null, .null, .null, .null, .null, .null] .null := (Arv.new A4 (by decide)).pad (pad_rep [] .null 7)
  have c8 : Arv Z h4 pR1 pK2 (.object "java/lang/Integer") (7 : Int32) [(.ref pR801), (.ref pR802), (.ref pR802), (.ref pR802), (.ref pR802), (.ref pR802), (.ref pR802)] .null := V_pR1.ext E4
  obtain ⟨clq7, Arq7, Akq7, Asq7, Anq7, Ahq7, Agq7⟩ := id c8
  obtain ⟨clq9, Arq9, Akq9, Asq9, Anq9, Ahq9, Agq9⟩ := id c8
  have hin10 : ¬ ((0 : Int32) < 0 ∨ clq9.slots.size ≤ ((0 : Int32)).toNatClampNeg) := inb_of Asq9 ⟨by decide, by decide⟩
  obtain ⟨_, _, ⟨T11, L11, k11, n11⟩, -, X11, ⟨Lc11, hQ11, l11, y11, z11⟩, st11⟩ := Jvm.LawKit.callS X4 hx (y := yN5) hown (mvT hZ (ow hw 36 rfl)) (mvT hZ (ow hw 37 rfl)) (mvT hZ (ow hw 38 rfl)) (mvT hZ (ow hw 39 rfl)) (by decide) (backOf (W := 2) (rnn l Z a0 hw [] pR801 h4 n0 Z6 ) hZ (ow hw 39 rfl) (ow hw 38 rfl) (by decide) (by decide)) (g := (mkF m 19 #[.val (.ref pR1), .val (.ref bR4), .val (.int 0)] [(.ref pR801), (.int 0), (.ref bR4)])) rfl (by rw [hml]; rfl) (argsL := [(.ref pR801)]) (rest := [(.int 0), (.ref bR4)]) (lenOf pd_2 rfl) rfl (Nat.le_refl _) (hb hby d6_19) (fun _ _ => ⟨rfl, e4, (by decide : 1 + 0 ≤ _), (by decide : 7 + 0 ≤ _)⟩)
  dsimp only [Pt.U, Pt.locs, Pt.cells, Pt.slots] at X11 l11 y11 z11 st11 hQ11
  subst l11 y11 z11
  obtain ⟨rfl, Nq11, e11⟩ := hQ11
  have N11 := Fr.app N0 Nq11
  have g12 : n0 ≤ bR4 := Nat.le_trans Z0 (Nat.le_of_eq g4.symm)
  obtain ⟨clq13, Arq13, Akq13, Asq13, Anq13, Ahq13, Agq13⟩ := id V4
  have hin14 : ¬ ((0 : Int32) < 0 ∨ clq13.slots.size ≤ ((0 : Int32)).toNatClampNeg) := inb_of Asq13 ⟨by decide, by decide⟩
  have c15 : Exa Z h4 pR801 "java/lang/Integer" := E_pR801.ext E4
  obtain ⟨T16, h16, X16, e16, W16, st16⟩ := stR X11 hx hZ e11 Arq13 (j := (0 : Int32)) hin14 rfl (Sto.ofV Arq13 Akq13 O4 (Ins.of_exa c15 (ow hw 40 rfl))) (g := (mkF m 22 #[.val (.ref pR1), .val (.ref bR4), .val (.int 0)] [(.ref pR801), (.int 0), (.ref bR4)])) rfl rfl (hb hby d6_22)
  have K17 : Keep h0 h16 [] := K5.wr W16 (Or.inr (Nat.le_of_eq g4.symm))
  have Z18 : n0 ≤ h16.size := (Nat.le_trans Z6 (Keep.of_wr W16).1)
  have N16 := Fr.snoc X16 N11 g12
  obtain ⟨Lh16, X16, N16⟩ := own_hide X16 N16
  have V16 : Arv Z h16 bR4 k4 (.object "java/lang/Object") (7 : Int32) [(.ref pR801), .null, .null, .null, .null, .null, .null] .null := Arv.set Arq13 Akq13 Asq13 Anq13 Ahq13 Agq13 rfl W16 0 rfl (Nat.le_of_ble_eq_true rfl)
  have c20 : Arv Z h16 pR1 pK2 (.object "java/lang/Integer") (7 : Int32) [(.ref pR801), (.ref pR802), (.ref pR802), (.ref pR802), (.ref pR802), (.ref pR802), (.ref pR802)] .null := c8.other W16 (Nat.ne_of_lt (Nat.lt_of_lt_of_le V_pR1.lt (Nat.le_of_eq g4.symm)))
  obtain ⟨clq19, Arq19, Akq19, Asq19, Anq19, Ahq19, Agq19⟩ := id c20
  obtain ⟨clq21, Arq21, Akq21, Asq21, Anq21, Ahq21, Agq21⟩ := id c20
  have hin22 : ¬ ((1 : Int32) < 0 ∨ clq21.slots.size ≤ ((1 : Int32)).toNatClampNeg) := inb_of Asq21 ⟨by decide, by decide⟩
  obtain ⟨_, _, ⟨T23, L23, k23, n23⟩, -, X23, ⟨Lc23, hQ23, l23, y23, z23⟩, st23⟩ := Jvm.LawKit.callS X16 hx (y := yN5) hown (mvT hZ (ow hw 36 rfl)) (mvT hZ (ow hw 37 rfl)) (mvT hZ (ow hw 38 rfl)) (mvT hZ (ow hw 39 rfl)) (by decide) (backOf (W := 2) (rnn l Z a0 hw [] pR802 h16 n0 Z18 ) hZ (ow hw 39 rfl) (ow hw 38 rfl) (by decide) (by decide)) (g := (mkF m 19 #[.val (.ref pR1), .val (.ref bR4), .val (.int 1)] [(.ref pR802), (.int 1), (.ref bR4)])) rfl (by rw [hml]; rfl) (argsL := [(.ref pR802)]) (rest := [(.int 1), (.ref bR4)]) (lenOf pd_2 rfl) rfl (Nat.le_refl _) (hb hby d6_19) (fun _ _ => ⟨rfl, e16, (by decide : 1 + 0 ≤ _), (by decide : 7 + 0 ≤ _)⟩)
  dsimp only [Pt.U, Pt.locs, Pt.cells, Pt.slots] at X23 l23 y23 z23 st23 hQ23
  subst l23 y23 z23
  obtain ⟨rfl, Nq23, e23⟩ := hQ23
  have N23 := Fr.app N16 Nq23
  obtain ⟨clq24, Arq24, Akq24, Asq24, Anq24, Ahq24, Agq24⟩ := id V16
  have hin25 : ¬ ((1 : Int32) < 0 ∨ clq24.slots.size ≤ ((1 : Int32)).toNatClampNeg) := inb_of Asq24 ⟨by decide, by decide⟩
  have c26 : Exa Z h4 pR802 "java/lang/Integer" := E_pR802.ext E4
  have c27 : Exa Z h16 pR802 "java/lang/Integer" := c26.wr W16
  obtain ⟨T28, h28, X28, e28, W28, st28⟩ := stR X23 hx hZ e23 Arq24 (j := (1 : Int32)) hin25 rfl (Sto.ofV Arq24 Akq24 O4 (Ins.of_exa c27 (ow hw 40 rfl))) (g := (mkF m 22 #[.val (.ref pR1), .val (.ref bR4), .val (.int 1)] [(.ref pR802), (.int 1), (.ref bR4)])) rfl rfl (hb hby d6_22)
  have K29 : Keep h0 h28 [] := K17.wr W28 (Or.inr (Nat.le_of_eq g4.symm))
  have Z30 : n0 ≤ h28.size := (Nat.le_trans Z18 (Keep.of_wr W28).1)
  have N28 := Fr.snoc X28 N23 g12
  obtain ⟨Lh28, X28, N28⟩ := own_hide X28 N28
  have V28 : Arv Z h28 bR4 k4 (.object "java/lang/Object") (7 : Int32) [(.ref pR801), (.ref pR802), .null, .null, .null, .null, .null] .null := Arv.set Arq24 Akq24 Asq24 Anq24 Ahq24 Agq24 rfl W28 1 rfl (Nat.le_of_ble_eq_true rfl)
  have c32 : Arv Z h28 pR1 pK2 (.object "java/lang/Integer") (7 : Int32) [(.ref pR801), (.ref pR802), (.ref pR802), (.ref pR802), (.ref pR802), (.ref pR802), (.ref pR802)] .null := c20.other W28 (Nat.ne_of_lt (Nat.lt_of_lt_of_le V_pR1.lt (Nat.le_of_eq g4.symm)))
  obtain ⟨clq31, Arq31, Akq31, Asq31, Anq31, Ahq31, Agq31⟩ := id c32
  obtain ⟨clq33, Arq33, Akq33, Asq33, Anq33, Ahq33, Agq33⟩ := id c32
  have hin34 : ¬ ((2 : Int32) < 0 ∨ clq33.slots.size ≤ ((2 : Int32)).toNatClampNeg) := inb_of Asq33 ⟨by decide, by decide⟩
  obtain ⟨_, _, ⟨T35, L35, k35, n35⟩, -, X35, ⟨Lc35, hQ35, l35, y35, z35⟩, st35⟩ := Jvm.LawKit.callS X28 hx (y := yN5) hown (mvT hZ (ow hw 36 rfl)) (mvT hZ (ow hw 37 rfl)) (mvT hZ (ow hw 38 rfl)) (mvT hZ (ow hw 39 rfl)) (by decide) (backOf (W := 2) (rnn l Z a0 hw [] pR802 h28 n0 Z30 ) hZ (ow hw 39 rfl) (ow hw 38 rfl) (by decide) (by decide)) (g := (mkF m 19 #[.val (.ref pR1), .val (.ref bR4), .val (.int 2)] [(.ref pR802), (.int 2), (.ref bR4)])) rfl (by rw [hml]; rfl) (argsL := [(.ref pR802)]) (rest := [(.int 2), (.ref bR4)]) (lenOf pd_2 rfl) rfl (Nat.le_refl _) (hb hby d6_19) (fun _ _ => ⟨rfl, e28, (by decide : 1 + 0 ≤ _), (by decide : 7 + 0 ≤ _)⟩)
  dsimp only [Pt.U, Pt.locs, Pt.cells, Pt.slots] at X35 l35 y35 z35 st35 hQ35
  subst l35 y35 z35
  obtain ⟨rfl, Nq35, e35⟩ := hQ35
  have N35 := Fr.app N28 Nq35
  obtain ⟨clq36, Arq36, Akq36, Asq36, Anq36, Ahq36, Agq36⟩ := id V28
  have hin37 : ¬ ((2 : Int32) < 0 ∨ clq36.slots.size ≤ ((2 : Int32)).toNatClampNeg) := inb_of Asq36 ⟨by decide, by decide⟩
  have c38 : Exa Z h28 pR802 "java/lang/Integer" := c27.wr W28
  obtain ⟨T39, h39, X39, e39, W39, st39⟩ := stR X35 hx hZ e35 Arq36 (j := (2 : Int32)) hin37 rfl (Sto.ofV Arq36 Akq36 O4 (Ins.of_exa c38 (ow hw 40 rfl))) (g := (mkF m 22 #[.val (.ref pR1), .val (.ref bR4), .val (.int 2)] [(.ref pR802), (.int 2), (.ref bR4)])) rfl rfl (hb hby d6_22)
  have K40 : Keep h0 h39 [] := K29.wr W39 (Or.inr (Nat.le_of_eq g4.symm))
  have Z41 : n0 ≤ h39.size := (Nat.le_trans Z30 (Keep.of_wr W39).1)
  have N39 := Fr.snoc X39 N35 g12
  obtain ⟨Lh39, X39, N39⟩ := own_hide X39 N39
  have V39 : Arv Z h39 bR4 k4 (.object "java/lang/Object") (7 : Int32) [(.ref pR801), (.ref pR802), (.ref pR802), .null, .null, .null, .null] .null := Arv.set Arq36 Akq36 Asq36 Anq36 Ahq36 Agq36 rfl W39 2 rfl (Nat.le_of_ble_eq_true rfl)
  have c43 : Arv Z h39 pR1 pK2 (.object "java/lang/Integer") (7 : Int32) [(.ref pR801), (.ref pR802), (.ref pR802), (.ref pR802), (.ref pR802), (.ref pR802), (.ref pR802)] .null := c32.other W39 (Nat.ne_of_lt (Nat.lt_of_lt_of_le V_pR1.lt (Nat.le_of_eq g4.symm)))
  obtain ⟨clq42, Arq42, Akq42, Asq42, Anq42, Ahq42, Agq42⟩ := id c43
  obtain ⟨clq44, Arq44, Akq44, Asq44, Anq44, Ahq44, Agq44⟩ := id c43
  have hin45 : ¬ ((3 : Int32) < 0 ∨ clq44.slots.size ≤ ((3 : Int32)).toNatClampNeg) := inb_of Asq44 ⟨by decide, by decide⟩
  obtain ⟨_, _, ⟨T46, L46, k46, n46⟩, -, X46, ⟨Lc46, hQ46, l46, y46, z46⟩, st46⟩ := Jvm.LawKit.callS X39 hx (y := yN5) hown (mvT hZ (ow hw 36 rfl)) (mvT hZ (ow hw 37 rfl)) (mvT hZ (ow hw 38 rfl)) (mvT hZ (ow hw 39 rfl)) (by decide) (backOf (W := 2) (rnn l Z a0 hw [] pR802 h39 n0 Z41 ) hZ (ow hw 39 rfl) (ow hw 38 rfl) (by decide) (by decide)) (g := (mkF m 19 #[.val (.ref pR1), .val (.ref bR4), .val (.int 3)] [(.ref pR802), (.int 3), (.ref bR4)])) rfl (by rw [hml]; rfl) (argsL := [(.ref pR802)]) (rest := [(.int 3), (.ref bR4)]) (lenOf pd_2 rfl) rfl (Nat.le_refl _) (hb hby d6_19) (fun _ _ => ⟨rfl, e39, (by decide : 1 + 0 ≤ _), (by decide : 7 + 0 ≤ _)⟩)
  dsimp only [Pt.U, Pt.locs, Pt.cells, Pt.slots] at X46 l46 y46 z46 st46 hQ46
  subst l46 y46 z46
  obtain ⟨rfl, Nq46, e46⟩ := hQ46
  have N46 := Fr.app N39 Nq46
  obtain ⟨clq47, Arq47, Akq47, Asq47, Anq47, Ahq47, Agq47⟩ := id V39
  have hin48 : ¬ ((3 : Int32) < 0 ∨ clq47.slots.size ≤ ((3 : Int32)).toNatClampNeg) := inb_of Asq47 ⟨by decide, by decide⟩
  have c49 : Exa Z h39 pR802 "java/lang/Integer" := c38.wr W39
  obtain ⟨T50, h50, X50, e50, W50, st50⟩ := stR X46 hx hZ e46 Arq47 (j := (3 : Int32)) hin48 rfl (Sto.ofV Arq47 Akq47 O4 (Ins.of_exa c49 (ow hw 40 rfl))) (g := (mkF m 22 #[.val (.ref pR1), .val (.ref bR4), .val (.int 3)] [(.ref pR802), (.int 3), (.ref bR4)])) rfl rfl (hb hby d6_22)
  have K51 : Keep h0 h50 [] := K40.wr W50 (Or.inr (Nat.le_of_eq g4.symm))
  have Z52 : n0 ≤ h50.size := (Nat.le_trans Z41 (Keep.of_wr W50).1)
  have N50 := Fr.snoc X50 N46 g12
  obtain ⟨Lh50, X50, N50⟩ := own_hide X50 N50
  have V50 : Arv Z h50 bR4 k4 (.object "java/lang/Object") (7 : Int32) [(.ref pR801), (.ref pR802), (.ref pR802), (.ref pR802), .null, .null, .null] .null := Arv.set Arq47 Akq47 Asq47 Anq47 Ahq47 Agq47 rfl W50 3 rfl (Nat.le_of_ble_eq_true rfl)
  have c54 : Arv Z h50 pR1 pK2 (.object "java/lang/Integer") (7 : Int32) [(.ref pR801), (.ref pR802), (.ref pR802), (.ref pR802), (.ref pR802), (.ref pR802), (.ref pR802)] .null := c43.other W50 (Nat.ne_of_lt (Nat.lt_of_lt_of_le V_pR1.lt (Nat.le_of_eq g4.symm)))
  obtain ⟨clq53, Arq53, Akq53, Asq53, Anq53, Ahq53, Agq53⟩ := id c54
  obtain ⟨clq55, Arq55, Akq55, Asq55, Anq55, Ahq55, Agq55⟩ := id c54
  have hin56 : ¬ ((4 : Int32) < 0 ∨ clq55.slots.size ≤ ((4 : Int32)).toNatClampNeg) := inb_of Asq55 ⟨by decide, by decide⟩
  obtain ⟨_, _, ⟨T57, L57, k57, n57⟩, -, X57, ⟨Lc57, hQ57, l57, y57, z57⟩, st57⟩ := Jvm.LawKit.callS X50 hx (y := yN5) hown (mvT hZ (ow hw 36 rfl)) (mvT hZ (ow hw 37 rfl)) (mvT hZ (ow hw 38 rfl)) (mvT hZ (ow hw 39 rfl)) (by decide) (backOf (W := 2) (rnn l Z a0 hw [] pR802 h50 n0 Z52 ) hZ (ow hw 39 rfl) (ow hw 38 rfl) (by decide) (by decide)) (g := (mkF m 19 #[.val (.ref pR1), .val (.ref bR4), .val (.int 4)] [(.ref pR802), (.int 4), (.ref bR4)])) rfl (by rw [hml]; rfl) (argsL := [(.ref pR802)]) (rest := [(.int 4), (.ref bR4)]) (lenOf pd_2 rfl) rfl (Nat.le_refl _) (hb hby d6_19) (fun _ _ => ⟨rfl, e50, (by decide : 1 + 0 ≤ _), (by decide : 7 + 0 ≤ _)⟩)
  dsimp only [Pt.U, Pt.locs, Pt.cells, Pt.slots] at X57 l57 y57 z57 st57 hQ57
  subst l57 y57 z57
  obtain ⟨rfl, Nq57, e57⟩ := hQ57
  have N57 := Fr.app N50 Nq57
  obtain ⟨clq58, Arq58, Akq58, Asq58, Anq58, Ahq58, Agq58⟩ := id V50
  have hin59 : ¬ ((4 : Int32) < 0 ∨ clq58.slots.size ≤ ((4 : Int32)).toNatClampNeg) := inb_of Asq58 ⟨by decide, by decide⟩
  have c60 : Exa Z h50 pR802 "java/lang/Integer" := c49.wr W50
  obtain ⟨T61, h61, X61, e61, W61, st61⟩ := stR X57 hx hZ e57 Arq58 (j := (4 : Int32)) hin59 rfl (Sto.ofV Arq58 Akq58 O4 (Ins.of_exa c60 (ow hw 40 rfl))) (g := (mkF m 22 #[.val (.ref pR1), .val (.ref bR4), .val (.int 4)] [(.ref pR802), (.int 4), (.ref bR4)])) rfl rfl (hb hby d6_22)
  have K62 : Keep h0 h61 [] := K51.wr W61 (Or.inr (Nat.le_of_eq g4.symm))
  have Z63 : n0 ≤ h61.size := (Nat.le_trans Z52 (Keep.of_wr W61).1)
  have N61 := Fr.snoc X61 N57 g12
  obtain ⟨Lh61, X61, N61⟩ := own_hide X61 N61
  have V61 : Arv Z h61 bR4 k4 (.object "java/lang/Object") (7 : Int32) [(.ref pR801), (.ref pR802), (.ref pR802), (.ref pR802), (.ref pR802), .null, .null] .null := Arv.set Arq58 Akq58 Asq58 Anq58 Ahq58 Agq58 rfl W61 4 rfl (Nat.le_of_ble_eq_true rfl)
  have c65 : Arv Z h61 pR1 pK2 (.object "java/lang/Integer") (7 : Int32) [(.ref pR801), (.ref pR802), (.ref pR802), (.ref pR802), (.ref pR802), (.ref pR802), (.ref pR802)] .null := c54.other W61 (Nat.ne_of_lt (Nat.lt_of_lt_of_le V_pR1.lt (Nat.le_of_eq g4.symm)))
  obtain ⟨clq64, Arq64, Akq64, Asq64, Anq64, Ahq64, Agq64⟩ := id c65
  obtain ⟨clq66, Arq66, Akq66, Asq66, Anq66, Ahq66, Agq66⟩ := id c65
  have hin67 : ¬ ((5 : Int32) < 0 ∨ clq66.slots.size ≤ ((5 : Int32)).toNatClampNeg) := inb_of Asq66 ⟨by decide, by decide⟩
  obtain ⟨_, _, ⟨T68, L68, k68, n68⟩, -, X68, ⟨Lc68, hQ68, l68, y68, z68⟩, st68⟩ := Jvm.LawKit.callS X61 hx (y := yN5) hown (mvT hZ (ow hw 36 rfl)) (mvT hZ (ow hw 37 rfl)) (mvT hZ (ow hw 38 rfl)) (mvT hZ (ow hw 39 rfl)) (by decide) (backOf (W := 2) (rnn l Z a0 hw [] pR802 h61 n0 Z63 ) hZ (ow hw 39 rfl) (ow hw 38 rfl) (by decide) (by decide)) (g := (mkF m 19 #[.val (.ref pR1), .val (.ref bR4), .val (.int 5)] [(.ref pR802), (.int 5), (.ref bR4)])) rfl (by rw [hml]; rfl) (argsL := [(.ref pR802)]) (rest := [(.int 5), (.ref bR4)]) (lenOf pd_2 rfl) rfl (Nat.le_refl _) (hb hby d6_19) (fun _ _ => ⟨rfl, e61, (by decide : 1 + 0 ≤ _), (by decide : 7 + 0 ≤ _)⟩)
  dsimp only [Pt.U, Pt.locs, Pt.cells, Pt.slots] at X68 l68 y68 z68 st68 hQ68
  subst l68 y68 z68
  obtain ⟨rfl, Nq68, e68⟩ := hQ68
  have N68 := Fr.app N61 Nq68
  obtain ⟨clq69, Arq69, Akq69, Asq69, Anq69, Ahq69, Agq69⟩ := id V61
  have hin70 : ¬ ((5 : Int32) < 0 ∨ clq69.slots.size ≤ ((5 : Int32)).toNatClampNeg) := inb_of Asq69 ⟨by decide, by decide⟩
  have c71 : Exa Z h61 pR802 "java/lang/Integer" := c60.wr W61
  obtain ⟨T72, h72, X72, e72, W72, st72⟩ := stR X68 hx hZ e68 Arq69 (j := (5 : Int32)) hin70 rfl (Sto.ofV Arq69 Akq69 O4 (Ins.of_exa c71 (ow hw 40 rfl))) (g := (mkF m 22 #[.val (.ref pR1), .val (.ref bR4), .val (.int 5)] [(.ref pR802), (.int 5), (.ref bR4)])) rfl rfl (hb hby d6_22)
  have K73 : Keep h0 h72 [] := K62.wr W72 (Or.inr (Nat.le_of_eq g4.symm))
  have Z74 : n0 ≤ h72.size := (Nat.le_trans Z63 (Keep.of_wr W72).1)
  have N72 := Fr.snoc X72 N68 g12
  obtain ⟨Lh72, X72, N72⟩ := own_hide X72 N72
  have V72 : Arv Z h72 bR4 k4 (.object "java/lang/Object") (7 : Int32) [(.ref pR801), (.ref pR802), (.ref pR802), (.ref pR802), (.ref pR802), (.ref pR802), .null] .null := Arv.set Arq69 Akq69 Asq69 Anq69 Ahq69 Agq69 rfl W72 5 rfl (Nat.le_of_ble_eq_true rfl)
  have c76 : Arv Z h72 pR1 pK2 (.object "java/lang/Integer") (7 : Int32) [(.ref pR801), (.ref pR802), (.ref pR802), (.ref pR802), (.ref pR802), (.ref pR802), (.ref pR802)] .null := c65.other W72 (Nat.ne_of_lt (Nat.lt_of_lt_of_le V_pR1.lt (Nat.le_of_eq g4.symm)))
  obtain ⟨clq75, Arq75, Akq75, Asq75, Anq75, Ahq75, Agq75⟩ := id c76
  obtain ⟨clq77, Arq77, Akq77, Asq77, Anq77, Ahq77, Agq77⟩ := id c76
  have hin78 : ¬ ((6 : Int32) < 0 ∨ clq77.slots.size ≤ ((6 : Int32)).toNatClampNeg) := inb_of Asq77 ⟨by decide, by decide⟩
  obtain ⟨_, _, ⟨T79, L79, k79, n79⟩, -, X79, ⟨Lc79, hQ79, l79, y79, z79⟩, st79⟩ := Jvm.LawKit.callS X72 hx (y := yN5) hown (mvT hZ (ow hw 36 rfl)) (mvT hZ (ow hw 37 rfl)) (mvT hZ (ow hw 38 rfl)) (mvT hZ (ow hw 39 rfl)) (by decide) (backOf (W := 2) (rnn l Z a0 hw [] pR802 h72 n0 Z74 ) hZ (ow hw 39 rfl) (ow hw 38 rfl) (by decide) (by decide)) (g := (mkF m 19 #[.val (.ref pR1), .val (.ref bR4), .val (.int 6)] [(.ref pR802), (.int 6), (.ref bR4)])) rfl (by rw [hml]; rfl) (argsL := [(.ref pR802)]) (rest := [(.int 6), (.ref bR4)]) (lenOf pd_2 rfl) rfl (Nat.le_refl _) (hb hby d6_19) (fun _ _ => ⟨rfl, e72, (by decide : 1 + 0 ≤ _), (by decide : 7 + 0 ≤ _)⟩)
  dsimp only [Pt.U, Pt.locs, Pt.cells, Pt.slots] at X79 l79 y79 z79 st79 hQ79
  subst l79 y79 z79
  obtain ⟨rfl, Nq79, e79⟩ := hQ79
  have N79 := Fr.app N72 Nq79
  obtain ⟨clq80, Arq80, Akq80, Asq80, Anq80, Ahq80, Agq80⟩ := id V72
  have hin81 : ¬ ((6 : Int32) < 0 ∨ clq80.slots.size ≤ ((6 : Int32)).toNatClampNeg) := inb_of Asq80 ⟨by decide, by decide⟩
  have c82 : Exa Z h72 pR802 "java/lang/Integer" := c71.wr W72
  obtain ⟨T83, h83, X83, e83, W83, st83⟩ := stR X79 hx hZ e79 Arq80 (j := (6 : Int32)) hin81 rfl (Sto.ofV Arq80 Akq80 O4 (Ins.of_exa c82 (ow hw 40 rfl))) (g := (mkF m 22 #[.val (.ref pR1), .val (.ref bR4), .val (.int 6)] [(.ref pR802), (.int 6), (.ref bR4)])) rfl rfl (hb hby d6_22)
  have K84 : Keep h0 h83 [] := K73.wr W83 (Or.inr (Nat.le_of_eq g4.symm))
  have Z85 : n0 ≤ h83.size := (Nat.le_trans Z74 (Keep.of_wr W83).1)
  have N83 := Fr.snoc X83 N79 g12
  obtain ⟨Lh83, X83, N83⟩ := own_hide X83 N83
  have V83 : Arv Z h83 bR4 k4 (.object "java/lang/Object") (7 : Int32) [(.ref pR801), (.ref pR802), (.ref pR802), (.ref pR802), (.ref pR802), (.ref pR802), (.ref pR802)] .null := Arv.set Arq80 Akq80 Asq80 Anq80 Ahq80 Agq80 rfl W83 6 rfl (Nat.le_of_ble_eq_true rfl)
  have c87 : Arv Z h83 pR1 pK2 (.object "java/lang/Integer") (7 : Int32) [(.ref pR801), (.ref pR802), (.ref pR802), (.ref pR802), (.ref pR802), (.ref pR802), (.ref pR802)] .null := c76.other W83 (Nat.ne_of_lt (Nat.lt_of_lt_of_le V_pR1.lt (Nat.le_of_eq g4.symm)))
  obtain ⟨clq86, Arq86, Akq86, Asq86, Anq86, Ahq86, Agq86⟩ := id c87
  obtain ⟨T88, h88, X88, e88, E88, A88, D88, U88, st88⟩ := newO X83 hx hZ hown (ow hw 41 rfl) (ow hw 42 rfl) (ow hw 43 rfl) e83 (g := (mkF m 29 #[.val (.ref pR1), .val (.ref bR4), .val (.int 7)] [])) rfl (hb hby d6_29) (by decide) (by decide)
  obtain ⟨bR88, g88⟩ : ∃ z, z = h83.size := ⟨_, rfl⟩
  rw [← g88] at A88 D88 U88 st88
  have K89 : Keep h0 h88 [] := K84.ext E88
  have Z90 : n0 ≤ h88.size := (Nat.le_trans Z85 E88.1)
  have F91 : Fld Z h88 bR88 "java/util/ImmutableCollections$ListN" "elements" "[Ljava/lang/Object;" .null := D88 (Or.inr (ow hw 70 rfl)) (ty := (.array (.object "java/lang/Object"))) (by decide)
  have F92 : Fld Z h88 bR88 "java/util/ImmutableCollections$ListN" "allowNulls" "Z" (.int 0) := D88 (Or.inr (ow hw 72 rfl)) (ty := .boolean) (by decide)
  have g93 : n0 ≤ bR88 := Nat.le_trans Z85 (Nat.le_of_eq g88.symm)
  obtain ⟨_, _, ⟨T94, L94, k94, n94⟩, -, X94, ⟨Lc94, hQ94, l94, y94, z94⟩, st94⟩ := X88.specialBackNest hx (y := yN9) rfl hown (own_mvM hZ (ow hw 44 rfl)) (mvT hZ (ow hw 45 rfl)) (mvT hZ (ow hw 47 rfl)) (by decide) (backOf (W := 1) (lnI l Z a0 hw [] bR88 bR4 h88 n0 Z90 A88 F91 g93 F92) hZ (ow hw 47 rfl) (ow hw 43 rfl) (by decide) (by decide)) (g := (mkF m 35 #[.val (.ref pR1), .val (.ref bR4), .val (.int 7)] [(.int 0), (.ref bR4), (.ref bR88), (.ref bR88)])) rfl (by rw [hml]; rfl) (Steps.refl _) (a := bR88) (argsL := [(.ref bR4), (.int 0)]) (rest := [(.ref bR88)]) (lenOf pd_9 rfl) rfl (Nat.le_refl _) (hb hby d6_35) (fun _ _ => ⟨rfl, e88, (by decide : 2 + 0 ≤ _), (by decide : 9 + 0 ≤ _)⟩)
  dsimp only [Pt.U, Pt.locs, Pt.cells, Pt.slots] at X94 l94 y94 z94 st94 hQ94
  subst l94 y94 z94
  obtain ⟨rfl, Nq94, Kq94, x94_0, x94_1, x94_2⟩ := hQ94
  have N94 := Fr.app N83 Nq94
  obtain ⟨Lh94, X94, N94⟩ := own_hide X94 N94
  have K95 : Keep h0 T94.heap [] := K89.trans Kq94 (allS (Or.inr (Nat.le_trans K84.1 (Nat.le_of_eq g88.symm))) all0)
  have Z96 : n0 ≤ T94.heap.size := (Nat.le_trans Z90 Kq94.1)
  have c97 : Arv Z h88 bR4 k4 (.object "java/lang/Object") (7 : Int32) [(.ref pR801), (.ref pR802), (.ref pR802), (.ref pR802), (.ref pR802), (.ref pR802), (.ref pR802)] .null := V83.ext E88
  have c98 : Arv Z T94.heap bR4 k4 (.object "java/lang/Object") (7 : Int32) [(.ref pR801), (.ref pR802), (.ref pR802), (.ref pR802), (.ref pR802), (.ref pR802), (.ref pR802)] .null := c97.keep Kq94 (ninS (Nat.ne_of_lt (Nat.lt_of_lt_of_le V83.lt (Nat.le_of_eq g88.symm))) nin0)
  obtain ⟨fs, hr, hrun, hended, hW, hsame⟩ := X94.leave (v := some (.ref bR88)) (fun h => by rw [Bd.returns] at h; cases h)
  refine ⟨_, _, castTop (ef_lfa7 m pR1) ?_, hrun, hended, _, _, rfl, ?_, ⟨_, rfl⟩, hW, hsame.mono (by decide) (by decide)⟩
  · show oS p e below s₁ m 0 #[.val (.ref pR1), .unset, .unset] [] _
    refine XS.aloadN X0.here hx rfl (hb hby d6_0) rfl rfl ?_
    refine X0.arraylength hx (by rw [e0]; exact Arq3.1) (State.isArrayOf_alike hZ.alike Arq3.2.1) (g := (mkF m 1 #[.val (.ref pR1), .unset, .unset] [(.ref pR1)])) rfl rfl (hb hby d6_1) _ ?_
    rw [len_of Asq3 Anq3]
    refine st4 _ ?_
    refine XS.astoreN X4.here hx rfl (hb hby d6_5) rfl rfl (l' := #[.val (.ref pR1), .val (.ref bR4), .unset]) rfl ?_
    refine XS.iconst X4.here hx rfl (hb hby d6_6) ?_
    refine XS.istoreN X4.here hx rfl (hb hby d6_7) rfl (l' := #[.val (.ref pR1), .val (.ref bR4), .val (.int 0)]) rfl ?_
    refine XS.iloadN X4.here hx rfl (hb hby d6_8) rfl ?_
    refine XS.aloadN X4.here hx rfl (hb hby d6_9) rfl rfl ?_
    show oS p e below T4 m 10 #[.val (.ref pR1), .val (.ref bR4), .val (.int 0)] [(.ref pR1), (.int 0)] _
    refine X4.arraylength hx (by rw [e4]; exact Arq7.1) (State.isArrayOf_alike hZ.alike Arq7.2.1) (g := (mkF m 10 #[.val (.ref pR1), .val (.ref bR4), .val (.int 0)] [(.ref pR1), (.int 0)])) rfl rfl (hb hby d6_10) _ ?_
    rw [len_of Asq7 Anq7]
    refine XS.icmpNo X4.here hx rfl (hb hby d6_11) rfl (tlt (by decide : (0 : Int32) < (7 : Int32))).2.1 ?_
    refine XS.aloadN X4.here hx rfl (hb hby d6_14) rfl rfl ?_
    refine XS.iloadN X4.here hx rfl (hb hby d6_15) rfl ?_
    refine XS.aloadN X4.here hx rfl (hb hby d6_16) rfl rfl ?_
    refine XS.iloadN X4.here hx rfl (hb hby d6_17) rfl ?_
    refine X4.aaload hx (j := (0 : Int32)) (v := (.ref pR801)) (by rw [e4]; exact Arq9.1) (State.isArrayOf_alike hZ.alike Arq9.2.1) rfl Arq9.2.2 hin10 (Has.at Ahq9 hin10 rfl) (g := (mkF m 18 #[.val (.ref pR1), .val (.ref bR4), .val (.int 0)] [(.int 0), (.ref pR1), (.int 0), (.ref bR4)])) rfl rfl (hb hby d6_18) _ ?_
    refine st11 _ ?_
    show oS p e below T11 m 22 #[.val (.ref pR1), .val (.ref bR4), .val (.int 0)] [(.ref pR801), (.int 0), (.ref bR4)] _
    refine st16 _ ?_
    refine XS.iinc X16.here hx rfl (hb hby d6_23) rfl (l' := #[.val (.ref pR1), .val (.ref bR4), .val (.int 1)]) rfl ?_
    refine XS.goto X16.here hx rfl (pc0 := 26) (pc' := 8) rfl (hb hby d6_26) (by decide) (by decide) ?_
    refine XS.iloadN X16.here hx rfl (hb hby d6_8) rfl ?_
    refine XS.aloadN X16.here hx rfl (hb hby d6_9) rfl rfl ?_
    refine X16.arraylength hx (by rw [e16]; exact Arq19.1) (State.isArrayOf_alike hZ.alike Arq19.2.1) (g := (mkF m 10 #[.val (.ref pR1), .val (.ref bR4), .val (.int 1)] [(.ref pR1), (.int 1)])) rfl rfl (hb hby d6_10) _ ?_
    rw [len_of Asq19 Anq19]
    refine XS.icmpNo X16.here hx rfl (hb hby d6_11) rfl (tlt (by decide : (1 : Int32) < (7 : Int32))).2.1 ?_
    refine XS.aloadN X16.here hx rfl (hb hby d6_14) rfl rfl ?_
    show oS p e below T16 m 15 #[.val (.ref pR1), .val (.ref bR4), .val (.int 1)] [(.ref bR4)] _
    refine XS.iloadN X16.here hx rfl (hb hby d6_15) rfl ?_
    refine XS.aloadN X16.here hx rfl (hb hby d6_16) rfl rfl ?_
    refine XS.iloadN X16.here hx rfl (hb hby d6_17) rfl ?_
    refine X16.aaload hx (j := (1 : Int32)) (v := (.ref pR802)) (by rw [e16]; exact Arq21.1) (State.isArrayOf_alike hZ.alike Arq21.2.1) rfl Arq21.2.2 hin22 (Has.at Ahq21 hin22 rfl) (g := (mkF m 18 #[.val (.ref pR1), .val (.ref bR4), .val (.int 1)] [(.int 1), (.ref pR1), (.int 1), (.ref bR4)])) rfl rfl (hb hby d6_18) _ ?_
    refine st23 _ ?_
    refine st28 _ ?_
    refine XS.iinc X28.here hx rfl (hb hby d6_23) rfl (l' := #[.val (.ref pR1), .val (.ref bR4), .val (.int 2)]) rfl ?_
    refine XS.goto X28.here hx rfl (pc0 := 26) (pc' := 8) rfl (hb hby d6_26) (by decide) (by decide) ?_
    show oS p e below T28 m 8 #[.val (.ref pR1), .val (.ref bR4), .val (.int 2)] [] _
    refine XS.iloadN X28.here hx rfl (hb hby d6_8) rfl ?_
    refine XS.aloadN X28.here hx rfl (hb hby d6_9) rfl rfl ?_
    refine X28.arraylength hx (by rw [e28]; exact Arq31.1) (State.isArrayOf_alike hZ.alike Arq31.2.1) (g := (mkF m 10 #[.val (.ref pR1), .val (.ref bR4), .val (.int 2)] [(.ref pR1), (.int 2)])) rfl rfl (hb hby d6_10) _ ?_
    rw [len_of Asq31 Anq31]
    refine XS.icmpNo X28.here hx rfl (hb hby d6_11) rfl (tlt (by decide : (2 : Int32) < (7 : Int32))).2.1 ?_
    refine XS.aloadN X28.here hx rfl (hb hby d6_14) rfl rfl ?_
    refine XS.iloadN X28.here hx rfl (hb hby d6_15) rfl ?_
    refine XS.aloadN X28.here hx rfl (hb hby d6_16) rfl rfl ?_
    refine XS.iloadN X28.here hx rfl (hb hby d6_17) rfl ?_
    show oS p e below T28 m 18 #[.val (.ref pR1), .val (.ref bR4), .val (.int 2)] [(.int 2), (.ref pR1), (.int 2), (.ref bR4)] _
    refine X28.aaload hx (j := (2 : Int32)) (v := (.ref pR802)) (by rw [e28]; exact Arq33.1) (State.isArrayOf_alike hZ.alike Arq33.2.1) rfl Arq33.2.2 hin34 (Has.at Ahq33 hin34 rfl) (g := (mkF m 18 #[.val (.ref pR1), .val (.ref bR4), .val (.int 2)] [(.int 2), (.ref pR1), (.int 2), (.ref bR4)])) rfl rfl (hb hby d6_18) _ ?_
    refine st35 _ ?_
    refine st39 _ ?_
    refine XS.iinc X39.here hx rfl (hb hby d6_23) rfl (l' := #[.val (.ref pR1), .val (.ref bR4), .val (.int 3)]) rfl ?_
    refine XS.goto X39.here hx rfl (pc0 := 26) (pc' := 8) rfl (hb hby d6_26) (by decide) (by decide) ?_
    refine XS.iloadN X39.here hx rfl (hb hby d6_8) rfl ?_
    refine XS.aloadN X39.here hx rfl (hb hby d6_9) rfl rfl ?_
    refine X39.arraylength hx (by rw [e39]; exact Arq42.1) (State.isArrayOf_alike hZ.alike Arq42.2.1) (g := (mkF m 10 #[.val (.ref pR1), .val (.ref bR4), .val (.int 3)] [(.ref pR1), (.int 3)])) rfl rfl (hb hby d6_10) _ ?_
    rw [len_of Asq42 Anq42]
    show oS p e below T39 m 11 #[.val (.ref pR1), .val (.ref bR4), .val (.int 3)] [(.int 7), (.int 3)] _
    refine XS.icmpNo X39.here hx rfl (hb hby d6_11) rfl (tlt (by decide : (3 : Int32) < (7 : Int32))).2.1 ?_
    refine XS.aloadN X39.here hx rfl (hb hby d6_14) rfl rfl ?_
    refine XS.iloadN X39.here hx rfl (hb hby d6_15) rfl ?_
    refine XS.aloadN X39.here hx rfl (hb hby d6_16) rfl rfl ?_
    refine XS.iloadN X39.here hx rfl (hb hby d6_17) rfl ?_
    refine X39.aaload hx (j := (3 : Int32)) (v := (.ref pR802)) (by rw [e39]; exact Arq44.1) (State.isArrayOf_alike hZ.alike Arq44.2.1) rfl Arq44.2.2 hin45 (Has.at Ahq44 hin45 rfl) (g := (mkF m 18 #[.val (.ref pR1), .val (.ref bR4), .val (.int 3)] [(.int 3), (.ref pR1), (.int 3), (.ref bR4)])) rfl rfl (hb hby d6_18) _ ?_
    refine st46 _ ?_
    refine st50 _ ?_
    show oS p e below T50 m 23 #[.val (.ref pR1), .val (.ref bR4), .val (.int 3)] [] _
    refine XS.iinc X50.here hx rfl (hb hby d6_23) rfl (l' := #[.val (.ref pR1), .val (.ref bR4), .val (.int 4)]) rfl ?_
    refine XS.goto X50.here hx rfl (pc0 := 26) (pc' := 8) rfl (hb hby d6_26) (by decide) (by decide) ?_
    refine XS.iloadN X50.here hx rfl (hb hby d6_8) rfl ?_
    refine XS.aloadN X50.here hx rfl (hb hby d6_9) rfl rfl ?_
    refine X50.arraylength hx (by rw [e50]; exact Arq53.1) (State.isArrayOf_alike hZ.alike Arq53.2.1) (g := (mkF m 10 #[.val (.ref pR1), .val (.ref bR4), .val (.int 4)] [(.ref pR1), (.int 4)])) rfl rfl (hb hby d6_10) _ ?_
    rw [len_of Asq53 Anq53]
    refine XS.icmpNo X50.here hx rfl (hb hby d6_11) rfl (tlt (by decide : (4 : Int32) < (7 : Int32))).2.1 ?_
    refine XS.aloadN X50.here hx rfl (hb hby d6_14) rfl rfl ?_
    refine XS.iloadN X50.here hx rfl (hb hby d6_15) rfl ?_
    show oS p e below T50 m 16 #[.val (.ref pR1), .val (.ref bR4), .val (.int 4)] [(.int 4), (.ref bR4)] _
    refine XS.aloadN X50.here hx rfl (hb hby d6_16) rfl rfl ?_
    refine XS.iloadN X50.here hx rfl (hb hby d6_17) rfl ?_
    refine X50.aaload hx (j := (4 : Int32)) (v := (.ref pR802)) (by rw [e50]; exact Arq55.1) (State.isArrayOf_alike hZ.alike Arq55.2.1) rfl Arq55.2.2 hin56 (Has.at Ahq55 hin56 rfl) (g := (mkF m 18 #[.val (.ref pR1), .val (.ref bR4), .val (.int 4)] [(.int 4), (.ref pR1), (.int 4), (.ref bR4)])) rfl rfl (hb hby d6_18) _ ?_
    refine st57 _ ?_
    refine st61 _ ?_
    refine XS.iinc X61.here hx rfl (hb hby d6_23) rfl (l' := #[.val (.ref pR1), .val (.ref bR4), .val (.int 5)]) rfl ?_
    refine XS.goto X61.here hx rfl (pc0 := 26) (pc' := 8) rfl (hb hby d6_26) (by decide) (by decide) ?_
    refine XS.iloadN X61.here hx rfl (hb hby d6_8) rfl ?_
    show oS p e below T61 m 9 #[.val (.ref pR1), .val (.ref bR4), .val (.int 5)] [(.int 5)] _
    refine XS.aloadN X61.here hx rfl (hb hby d6_9) rfl rfl ?_
    refine X61.arraylength hx (by rw [e61]; exact Arq64.1) (State.isArrayOf_alike hZ.alike Arq64.2.1) (g := (mkF m 10 #[.val (.ref pR1), .val (.ref bR4), .val (.int 5)] [(.ref pR1), (.int 5)])) rfl rfl (hb hby d6_10) _ ?_
    rw [len_of Asq64 Anq64]
    refine XS.icmpNo X61.here hx rfl (hb hby d6_11) rfl (tlt (by decide : (5 : Int32) < (7 : Int32))).2.1 ?_
    refine XS.aloadN X61.here hx rfl (hb hby d6_14) rfl rfl ?_
    refine XS.iloadN X61.here hx rfl (hb hby d6_15) rfl ?_
    refine XS.aloadN X61.here hx rfl (hb hby d6_16) rfl rfl ?_
    refine XS.iloadN X61.here hx rfl (hb hby d6_17) rfl ?_
    refine X61.aaload hx (j := (5 : Int32)) (v := (.ref pR802)) (by rw [e61]; exact Arq66.1) (State.isArrayOf_alike hZ.alike Arq66.2.1) rfl Arq66.2.2 hin67 (Has.at Ahq66 hin67 rfl) (g := (mkF m 18 #[.val (.ref pR1), .val (.ref bR4), .val (.int 5)] [(.int 5), (.ref pR1), (.int 5), (.ref bR4)])) rfl rfl (hb hby d6_18) _ ?_
    show oS p e below T61 m 19 #[.val (.ref pR1), .val (.ref bR4), .val (.int 5)] [(.ref pR802), (.int 5), (.ref bR4)] _
    refine st68 _ ?_
    refine st72 _ ?_
    refine XS.iinc X72.here hx rfl (hb hby d6_23) rfl (l' := #[.val (.ref pR1), .val (.ref bR4), .val (.int 6)]) rfl ?_
    refine XS.goto X72.here hx rfl (pc0 := 26) (pc' := 8) rfl (hb hby d6_26) (by decide) (by decide) ?_
    refine XS.iloadN X72.here hx rfl (hb hby d6_8) rfl ?_
    refine XS.aloadN X72.here hx rfl (hb hby d6_9) rfl rfl ?_
    refine X72.arraylength hx (by rw [e72]; exact Arq75.1) (State.isArrayOf_alike hZ.alike Arq75.2.1) (g := (mkF m 10 #[.val (.ref pR1), .val (.ref bR4), .val (.int 6)] [(.ref pR1), (.int 6)])) rfl rfl (hb hby d6_10) _ ?_
    rw [len_of Asq75 Anq75]
    refine XS.icmpNo X72.here hx rfl (hb hby d6_11) rfl (tlt (by decide : (6 : Int32) < (7 : Int32))).2.1 ?_
    show oS p e below T72 m 14 #[.val (.ref pR1), .val (.ref bR4), .val (.int 6)] [] _
    refine XS.aloadN X72.here hx rfl (hb hby d6_14) rfl rfl ?_
    refine XS.iloadN X72.here hx rfl (hb hby d6_15) rfl ?_
    refine XS.aloadN X72.here hx rfl (hb hby d6_16) rfl rfl ?_
    refine XS.iloadN X72.here hx rfl (hb hby d6_17) rfl ?_
    refine X72.aaload hx (j := (6 : Int32)) (v := (.ref pR802)) (by rw [e72]; exact Arq77.1) (State.isArrayOf_alike hZ.alike Arq77.2.1) rfl Arq77.2.2 hin78 (Has.at Ahq77 hin78 rfl) (g := (mkF m 18 #[.val (.ref pR1), .val (.ref bR4), .val (.int 6)] [(.int 6), (.ref pR1), (.int 6), (.ref bR4)])) rfl rfl (hb hby d6_18) _ ?_
    refine st79 _ ?_
    refine st83 _ ?_
    refine XS.iinc X83.here hx rfl (hb hby d6_23) rfl (l' := #[.val (.ref pR1), .val (.ref bR4), .val (.int 7)]) rfl ?_
    show oS p e below T83 m 26 #[.val (.ref pR1), .val (.ref bR4), .val (.int 7)] [] _
    refine XS.goto X83.here hx rfl (pc0 := 26) (pc' := 8) rfl (hb hby d6_26) (by decide) (by decide) ?_
    refine XS.iloadN X83.here hx rfl (hb hby d6_8) rfl ?_
    refine XS.aloadN X83.here hx rfl (hb hby d6_9) rfl rfl ?_
    refine X83.arraylength hx (by rw [e83]; exact Arq86.1) (State.isArrayOf_alike hZ.alike Arq86.2.1) (g := (mkF m 10 #[.val (.ref pR1), .val (.ref bR4), .val (.int 7)] [(.ref pR1), (.int 7)])) rfl rfl (hb hby d6_10) _ ?_
    rw [len_of Asq86 Anq86]
    refine XS.icmpYes X83.here hx rfl (pc0 := 11) (pc' := 29) rfl (hb hby d6_11) rfl (flt (by decide : ¬ ((7 : Int32) < (7 : Int32)))).2.1 (by decide) (by decide) ?_
    refine st88 _ ?_
    refine XS.dup X88.here hx rfl (hb hby d6_32) rfl rfl ?_
    refine XS.aloadN X88.here hx rfl (hb hby d6_33) rfl rfl ?_
    show oS p e below T88 m 34 #[.val (.ref pR1), .val (.ref bR4), .val (.int 7)] [(.ref bR4), (.ref bR88), (.ref bR88)] _
    refine XS.iconst X88.here hx rfl (hb hby d6_34) ?_
    refine st94.trans ?_
    exact retOut X94 hx Bd.returns rfl (Or.inr (Or.inr (Or.inr (Or.inr ⟨rfl, rfl, rfl⟩)))) (hb hby d6_38) hr
  · show Qlfa7 Z pR1 pR801 pR802 pK2 h0 n0 _ T94.heap _
    exact ⟨bR4, bR88, k4, rfl, N94, K95, (Nat.le_of_eq g4.symm), (Nat.le_trans K84.1 (Nat.le_of_eq g88.symm)), c98, O4, x94_0, x94_1, x94_2⟩
theorem ef_of7 (m : MethodId) (pR1 : Addr) : entryFrame m #[(.ref pR1)] 2 = mkF m 0 #[.val (.ref pR1), .unset] [] := by first | (simp [entryFrame, mkF, argsToLocals, Value.category]; done) | rfl
def Qof7 (Z : State) (pR1 : Addr) (pR801 : Addr) (pR802 : Addr) (pK2 : ClassId) (h0 : Heap) (n0 : Nat) (v : Option Value) (h : Heap) (L : List Loc) : Prop := ∃ bR4_0 : Addr, ∃ bR4_1 : Addr, ∃ kK4_0 : ClassId, v = some (.ref bR4_1) ∧ Fr n0 L ∧ Keep h0 h [] ∧ h0.size ≤ bR4_0 ∧ h0.size ≤ bR4_1 ∧ Arv Z h bR4_0 kK4_0 (.object "java/lang/Object") (7 : Int32) [(.ref pR801), (.ref pR802), (.ref pR802), (.ref pR802), (.ref pR802), (.ref pR802), (.ref pR802)] .null ∧ Exa Z h bR4_1 "java/util/ImmutableCollections$ListN" ∧ Fld Z h bR4_1 "java/util/ImmutableCollections$ListN" "elements" "[Ljava/lang/Object;" (.ref bR4_0) ∧ Fld Z h bR4_1 "java/util/ImmutableCollections$ListN" "allowNulls" "Z" (.int 0)
set_option maxRecDepth 65536 in
set_option maxHeartbeats 40000000 in
theorem of7 (l : Launch) (Z : State) (a0 : Array Value) (hw : ∀ d ∈ tables_1, d.before a0 Z = true) (ws : List Jvm.Cond) (pR1 : Addr) (pR801 : Addr) (pR802 : Addr) (pK2 : ClassId) (h0 : Heap) (n0 : Nat) (Z0 : n0 ≤ h0.size) (V_pR1 : Arv Z h0 pR1 pK2 (.object "java/lang/Integer") (7 : Int32) [(.ref pR801), (.ref pR802), (.ref pR802), (.ref pR802), (.ref pR802), (.ref pR802), (.ref pR802)] .null) (E_pR801 : Exa Z h0 pR801 "java/lang/Integer") (E_pR802 : Exa Z h0 pR802 "java/lang/Integer") :
    oM l yN13 jdk_40_method_47_code 2 (some (.object "java/util/List")) ws ({ frames := 6, cells := 2, slots := 9, locals := 77 } : Room) #[(.ref pR1)] Z h0 (Qof7 Z pR1 pR801 pR802 pK2 h0 n0) := by
  refine MetFree.of_bodySF (plainFor_of_name pn_9) hisR ?_
  intro p e s m args below meth c s₁ Bd hml0 hP hK
  obtain ⟨rfl, hZ, hh⟩ := hP
  have hx := Bd.exec
  have hby := Bd.bytes
  have hml : c.maxLocals = 2 := hml0
  have hown : s.vm.findClass "java/util/List" = some m.cls := findClass_of_methodNamed Bd.named
  have hnm := (name_of_methodNamed Bd.named Bd.method).1
  have X0 : Stand p l e ({ frames := 6, cells := 2, slots := 9, locals := 77 } : Room) s m #[(.ref pR1)] below meth c s₁ [] 0 0 := Stand.of_body Bd
  have e0 : s₁.heap = h0 := by rw [← hh, Bd.state]; rfl
  have N0 := Fr.nil n0
  obtain ⟨clq3, Arq3, Akq3, Asq3, Anq3, Ahq3, Agq3⟩ := id V_pR1
  obtain ⟨_, _, ⟨T4, L4, k4, n4⟩, -, X4, ⟨Lc4, hQ4, l4, y4, z4⟩, st4⟩ := Jvm.LawKit.callS X0 hx (y := yN15) hown (mvT hZ (ow hw 30 rfl)) (mvT hZ (ow hw 31 rfl)) (mvT hZ (ow hw 32 rfl)) (mvT hZ (ow hw 33 rfl)) (by decide) (backOf (W := 0) (lfa7 l Z a0 hw [] pR1 pR801 pR802 pK2 h0 n0 Z0 V_pR1 E_pR801 E_pR802) hZ (ow hw 33 rfl) (ow hw 32 rfl) (by decide) (by decide)) (g := (mkF m 60 #[.val (.ref pR1), .unset] [(.ref pR1)])) rfl (by rw [hml]; rfl) (argsL := [(.ref pR1)]) (rest := []) (lenOf pd_7 rfl) rfl (Nat.le_refl _) (hb hby d5_60) (fun _ _ => ⟨rfl, e0, (by decide : 0 + 2 ≤ _), (by decide : 0 + 9 ≤ _)⟩)
  dsimp only [Pt.U, Pt.locs, Pt.cells, Pt.slots] at X4 l4 y4 z4 st4 hQ4
  subst l4 y4 z4
  obtain ⟨bR4_0, bR4_1, kK4_0, rfl, Nq4, Kq4, sz4_0, sz4_1, x4_0, x4_1, x4_2, x4_3, x4_4⟩ := hQ4
  have N4 := Fr.app N0 Nq4
  obtain ⟨Lh4, X4, N4⟩ := own_hide X4 N4
  have K5 : Keep h0 T4.heap [] := (Keep.refl h0 []).trans Kq4 all0
  have Z6 : n0 ≤ T4.heap.size := (Nat.le_trans Z0 Kq4.1)
  obtain ⟨fs, hr, hrun, hended, hW, hsame⟩ := X4.leave (v := some (.ref bR4_1)) (fun h => by rw [Bd.returns] at h; cases h)
  refine ⟨_, _, castTop (ef_of7 m pR1) ?_, hrun, hended, _, _, rfl, ?_, ⟨_, rfl⟩, hW, hsame.mono (by decide) (by decide)⟩
  · show oS p e below s₁ m 0 #[.val (.ref pR1), .unset] [] _
    refine XS.aloadN X0.here hx rfl (hb hby d5_0) rfl rfl ?_
    refine X0.arraylength hx (by rw [e0]; exact Arq3.1) (State.isArrayOf_alike hZ.alike Arq3.2.1) (g := (mkF m 1 #[.val (.ref pR1), .unset] [(.ref pR1)])) rfl rfl (hb hby d5_1) _ ?_
    rw [len_of Asq3 Anq3]
    refine XS.tswOut X0.here hx rfl (pc0 := 2) (pc' := 59) rfl (hb hby d5_2) rfl (by decide) (by decide) (by decide) ?_
    refine XS.aloadN X0.here hx rfl (hb hby d5_59) rfl rfl ?_
    refine st4 _ ?_
    exact retOut X4 hx Bd.returns rfl (Or.inr (Or.inr (Or.inr (Or.inr ⟨rfl, rfl, rfl⟩)))) (hb hby d5_63) hr
  · show Qof7 Z pR1 pR801 pR802 pK2 h0 n0 _ T4.heap _
    exact ⟨bR4_0, bR4_1, kK4_0, rfl, N4, K5, sz4_0, sz4_1, x4_0, x4_2, x4_3, x4_4⟩
theorem ef_eqs7 (m : MethodId) (pI1 : Int32) : entryFrame m #[(.int pI1), (.int 7)] 4 = mkF m 0 #[.val (.int pI1), .val (.int 7), .unset, .unset] [] := by first | (simp [entryFrame, mkF, argsToLocals, Value.category]; done) | rfl
def Qeqs7 (Z : State) (pI1 : Int32) (pR6 : Addr) (pC8 : Cell) (h0 : Heap) (n0 : Nat) (v : Option Value) (h : Heap) (L : List Loc) : Prop := ∃ bR41_0 : Addr, ∃ bR41_1 : Addr, ∃ bR10_0 : Addr, ∃ bR29_0 : Addr, ∃ kK41_0 : ClassId, v = some (.ref bR41_1) ∧ Fr n0 L ∧ Keep h0 h [] ∧ h0.size ≤ bR41_0 ∧ h0.size ≤ bR41_1 ∧ Exa Z h bR10_0 "java/lang/Integer" ∧ Fld Z h bR10_0 "java/lang/Integer" "value" "I" (.int (pI1 / (7 : Int32))) ∧ Exa Z h bR29_0 "java/lang/Integer" ∧ Fld Z h bR29_0 "java/lang/Integer" "value" "I" (.int ((pI1 / (7 : Int32)) + (pI1 % (7 : Int32)))) ∧ Arv Z h bR41_0 kK41_0 (.object "java/lang/Object") (7 : Int32) [(.ref bR29_0), (.ref bR10_0), (.ref bR10_0), (.ref bR10_0), (.ref bR10_0), (.ref bR10_0), (.ref bR10_0)] .null ∧ Exa Z h bR41_1 "java/util/ImmutableCollections$ListN" ∧ Fld Z h bR41_1 "java/util/ImmutableCollections$ListN" "elements" "[Ljava/lang/Object;" (.ref bR41_0) ∧ Fld Z h bR41_1 "java/util/ImmutableCollections$ListN" "allowNulls" "Z" (.int 0)
set_option maxRecDepth 65536 in
set_option maxHeartbeats 40000000 in
theorem eqs7 (l : Launch) (Z : State) (a0 : Array Value) (hw : ∀ d ∈ tables_1, d.before a0 Z = true) (ws : List Jvm.Cond) (pI1 : Int32) (pR6 : Addr) (pC8 : Cell) (h0 : Heap) (n0 : Nat) (Z0 : n0 ≤ h0.size) (S_Integer_IntegerCache_high : Sta Z h0 "java/lang/Integer$IntegerCache" "high" "I" (.int 127)) (S_Integer_IntegerCache_cache : Sta Z h0 "java/lang/Integer$IntegerCache" "cache" "[Ljava/lang/Integer;" (.ref pR6)) (B_pR6 : Bxs Z pR6 pC8 "java/lang/Integer" "I" (256 : Int32) (fun j => .int (j - 128))) (D0 : Old Z n0 h0) :
    oM l yN14 prog_51_method_10_code 4 (some (.object "java/util/List")) ws ({ frames := 7, cells := 5, slots := 18, locals := 90 } : Room) #[(.int pI1), (.int 7)] Z h0 (Qeqs7 Z pI1 pR6 pC8 h0 n0) := by
  refine MetFree.of_bodySF (plainFor_of_name pn_10) hisR ?_
  intro p e s m args below meth c s₁ Bd hml0 hP hK
  obtain ⟨rfl, hZ, hh⟩ := hP
  have hx := Bd.exec
  have hby := Bd.bytes
  have hml : c.maxLocals = 4 := hml0
  have hown : s.vm.findClass "com/example/watchful_junction/watchfuljunction/scenario/ProportionalSpec" = some m.cls := findClass_of_methodNamed Bd.named
  have hnm := (name_of_methodNamed Bd.named Bd.method).1
  have X0 : Stand p l e ({ frames := 7, cells := 5, slots := 18, locals := 90 } : Room) s m #[(.int pI1), (.int 7)] below meth c s₁ [] 0 0 := Stand.of_body Bd
  have e0 : s₁.heap = h0 := by rw [← hh, Bd.state]; rfl
  have N0 := Fr.nil n0
  obtain ⟨T2, h2, k2, X2, e2, E2, A2, O2, st2⟩ := newR X0 hx hZ hown (ow hw 5 rfl) (ow hw 6 rfl) e0 (g := (mkF m 1 #[.val (.int pI1), .val (.int 7), .unset, .unset] [(.int 7)])) rfl (hb hby d1_1) rfl (by decide) (cap := 7) (by decide) (by decide) (by decide) (by decide)
  obtain ⟨bR2, g2⟩ : ∃ z, z = h0.size := ⟨_, rfl⟩
  rw [← g2] at A2 st2
  have K3 : Keep h0 h2 [] := (Keep.refl h0 []).ext E2
  have Z4 : n0 ≤ h2.size := (Nat.le_trans Z0 E2.1)
  have V2 : Arv Z h2 bR2 k2 (.object "java/lang/Integer") (7 : Int32) [.null, .null, .null, .null, .null, .null, .null] .null := (Arv.new A2 (by decide)).pad (pad_rep [] .null 7)
  have c5 : Sta Z h2 "java/lang/Integer$IntegerCache" "high" "I" (.int 127) := S_Integer_IntegerCache_high.ext E2
  have c7 : Sta Z h2 "java/lang/Integer$IntegerCache" "cache" "[Ljava/lang/Integer;" (.ref pR6) := S_Integer_IntegerCache_cache.ext E2
  have c9 : Old Z n0 h2 := D0.ext E2
  obtain ⟨_, _, ⟨T10, L10, k10, n10⟩, -, X10, ⟨Lc10, hQ10, l10, y10, z10⟩, st10⟩ := Jvm.LawKit.callS X2 hx (y := yN2) hown (mvT hZ (ow hw 7 rfl)) (mvT hZ (ow hw 8 rfl)) (mvT hZ (ow hw 9 rfl)) (mvT hZ (ow hw 10 rfl)) (by decide) (backOf (W := 1) (vo l Z a0 hw [] (pI1 / (7 : Int32)) pR6 pC8 h2 n0 Z4 c5 c7 B_pR6 c9) hZ (ow hw 10 rfl) (ow hw 9 rfl) (by decide) (by decide)) (g := (mkF m 9 #[.val (.int pI1), .val (.int 7), .val (.ref bR2), .unset] [(.int (pI1 / (7 : Int32))), (.ref bR2)])) rfl (by rw [hml]; rfl) (argsL := [(.int (pI1 / (7 : Int32)))]) (rest := [(.ref bR2)]) (lenOf pd_4 rfl) rfl (Nat.le_refl _) (hb hby d1_9) (fun _ _ => ⟨rfl, e2, (by decide : 1 + 1 ≤ _), (by decide : 7 + 1 ≤ _)⟩)
  dsimp only [Pt.U, Pt.locs, Pt.cells, Pt.slots] at X10 l10 y10 z10 st10 hQ10
  subst l10 y10 z10
  obtain ⟨bR10_0, rfl, Nq10, Kq10, x10_0, x10_1⟩ := hQ10
  have N10 := Fr.app N0 Nq10
  obtain ⟨Lh10, X10, N10⟩ := own_hide X10 N10
  have K11 : Keep h0 T10.heap [] := K3.trans Kq10 all0
  have Z12 : n0 ≤ T10.heap.size := (Nat.le_trans Z4 Kq10.1)
  have c13 : Arv Z T10.heap bR2 k2 (.object "java/lang/Integer") (7 : Int32) [.null, .null, .null, .null, .null, .null, .null] .null := V2.keep Kq10 nin0
  have g14 : n0 ≤ bR2 := Nat.le_trans Z0 (Nat.le_of_eq g2.symm)
  obtain ⟨_, _, ⟨T15, L15, k15, n15⟩, -, X15, ⟨Lc15, hQ15, l15, y15, z15⟩, st15⟩ := Jvm.LawKit.callS X10 hx (y := yN12) hown (mvT hZ (ow hw 14 rfl)) (mvT hZ (ow hw 15 rfl)) (mvT hZ (ow hw 16 rfl)) (mvT hZ (ow hw 17 rfl)) (by decide) (backOf (W := 0) (fill7 l Z a0 hw [] bR2 bR10_0 k2 T10.heap n0 Z12 c13 O2 g14 x10_0) hZ (ow hw 17 rfl) (ow hw 16 rfl) (by decide) (by decide)) (g := (mkF m 12 #[.val (.int pI1), .val (.int 7), .val (.ref bR2), .unset] [(.ref bR10_0), (.ref bR2)])) rfl (by rw [hml]; rfl) (argsL := [(.ref bR2), (.ref bR10_0)]) (rest := []) (lenOf pd_5 rfl) rfl (Nat.le_refl _) (hb hby d1_12) (fun _ _ => ⟨rfl, rfl, (by decide : 2 + 0 ≤ _), (by decide : 8 + 0 ≤ _)⟩)
  dsimp only [Pt.U, Pt.locs, Pt.cells, Pt.slots] at X15 l15 y15 z15 st15 hQ15
  subst l15 y15 z15
  obtain ⟨rfl, Nq15, Kq15, x15_0, x15_1⟩ := hQ15
  have N15 := Fr.app N10 Nq15
  obtain ⟨Lh15, X15, N15⟩ := own_hide X15 N15
  have K16 : Keep h0 T15.heap [] := K11.trans Kq15 (allS (Or.inr (Nat.le_of_eq g2.symm)) all0)
  have Z17 : n0 ≤ T15.heap.size := (Nat.le_trans Z12 Kq15.1)
  obtain ⟨clq18, Arq18, Akq18, Asq18, Anq18, Ahq18, Agq18⟩ := id x15_0
  have hin19 : ¬ ((0 : Int32) < 0 ∨ clq18.slots.size ≤ ((0 : Int32)).toNatClampNeg) := inb_of Asq18 ⟨by decide, by decide⟩
  have c20 : Exa Z T15.heap bR10_0 "java/lang/Integer" := x10_0.keep Kq15
  have c21 : Fld Z T15.heap bR10_0 "java/lang/Integer" "value" "I" (.int (pI1 / (7 : Int32))) := x10_1.keep Kq15 (ninS (own_ne_EV c20 (ow hw 132 rfl) x15_0) nin0)
  obtain ⟨cq22, kq22, q22a, q22b, q22c⟩ := isOf hZ rfl c20
  obtain ⟨_, _, ⟨T22, L22, k22, n22⟩, -, X22, ⟨Lc22, hQ22, l22, y22, z22⟩, st22⟩ := X15.virtualBack hx (y := yN3) (z := yN3) hown (mvT hZ (ow hw 19 rfl)) (mvT hZ (ow hw 20 rfl)) (notFace_of_selects (args := #[]) (mvT hZ (ow hw 22 rfl))) (mvT hZ (ow hw 22 rfl)) (mvT hZ (ow hw 21 rfl)) (by decide) (backOf (W := 2) (intV l Z a0 hw [] bR10_0 (pI1 / (7 : Int32)) T15.heap n0 Z17 c21) hZ (ow hw 23 rfl) (ow hw 9 rfl) (by decide) (by decide)) q22a q22c (g := (mkF m 22 #[.val (.int pI1), .val (.int 7), .val (.ref bR2), .val (.ref bR2)] [(.ref bR10_0), (.int 0), (.ref bR2)])) rfl (by rw [hml]; rfl) (Steps.refl _) (argsL := []) (rest := [(.int 0), (.ref bR2)]) (lenOf pd_6 rfl) rfl (Nat.le_refl _) (hb hby d1_22) (fun _ _ => ⟨rfl, rfl, (by decide : 2 + 0 ≤ _), (by decide : 8 + 0 ≤ _)⟩)
  dsimp only [Pt.U, Pt.locs, Pt.cells, Pt.slots] at X22 l22 y22 z22 st22 hQ22
  subst l22 y22 z22
  obtain ⟨rfl, Nq22, e22⟩ := hQ22
  have N22 := Fr.app N15 Nq22
  have c23 : Sta Z T10.heap "java/lang/Integer$IntegerCache" "high" "I" (.int 127) := own_sta_keep c5 Kq10 all0
  have c24 : Sta Z T15.heap "java/lang/Integer$IntegerCache" "high" "I" (.int 127) := own_sta_keep c23 Kq15 (allS (own_plain_V c13) all0)
  have c25 : Sta Z T10.heap "java/lang/Integer$IntegerCache" "cache" "[Ljava/lang/Integer;" (.ref pR6) := own_sta_keep c7 Kq10 all0
  have c26 : Sta Z T15.heap "java/lang/Integer$IntegerCache" "cache" "[Ljava/lang/Integer;" (.ref pR6) := own_sta_keep c25 Kq15 (allS (own_plain_V c13) all0)
  have c27 : Old Z n0 T10.heap := c9.keep Kq10 all0
  have c28 : Old Z n0 T15.heap := c27.keep Kq15 (allS g14 all0)
  obtain ⟨_, _, ⟨T29, L29, k29, n29⟩, -, X29, ⟨Lc29, hQ29, l29, y29, z29⟩, st29⟩ := Jvm.LawKit.callS X22 hx (y := yN2) hown (mvT hZ (ow hw 7 rfl)) (mvT hZ (ow hw 8 rfl)) (mvT hZ (ow hw 9 rfl)) (mvT hZ (ow hw 10 rfl)) (by decide) (backOf (W := 2) (vo l Z a0 hw [] ((pI1 / (7 : Int32)) + (pI1 % (7 : Int32))) pR6 pC8 T15.heap n0 Z17 c24 c26 B_pR6 c28) hZ (ow hw 10 rfl) (ow hw 9 rfl) (by decide) (by decide)) (g := (mkF m 29 #[.val (.int pI1), .val (.int 7), .val (.ref bR2), .val (.ref bR2)] [(.int ((pI1 / (7 : Int32)) + (pI1 % (7 : Int32)))), (.int 0), (.ref bR2)])) rfl (by rw [hml]; rfl) (argsL := [(.int ((pI1 / (7 : Int32)) + (pI1 % (7 : Int32))))]) (rest := [(.int 0), (.ref bR2)]) (lenOf pd_4 rfl) rfl (Nat.le_refl _) (hb hby d1_29) (fun _ _ => ⟨rfl, e22, (by decide : 2 + 1 ≤ _), (by decide : 8 + 1 ≤ _)⟩)
  dsimp only [Pt.U, Pt.locs, Pt.cells, Pt.slots] at X29 l29 y29 z29 st29 hQ29
  subst l29 y29 z29
  obtain ⟨bR29_0, rfl, Nq29, Kq29, x29_0, x29_1⟩ := hQ29
  have N29 := Fr.app N22 Nq29
  obtain ⟨Lh29, X29, N29⟩ := own_hide X29 N29
  have K30 : Keep h0 T29.heap [] := K16.trans Kq29 all0
  have Z31 : n0 ≤ T29.heap.size := (Nat.le_trans Z17 Kq29.1)
  have c33 : Arv Z T29.heap bR2 k2 (.object "java/lang/Integer") (7 : Int32) [(.ref bR10_0), (.ref bR10_0), (.ref bR10_0), (.ref bR10_0), (.ref bR10_0), (.ref bR10_0), (.ref bR10_0)] .null := x15_0.keep Kq29 nin0
  obtain ⟨clq32, Arq32, Akq32, Asq32, Anq32, Ahq32, Agq32⟩ := id c33
  have hin34 : ¬ ((0 : Int32) < 0 ∨ clq32.slots.size ≤ ((0 : Int32)).toNatClampNeg) := inb_of Asq32 ⟨by decide, by decide⟩
  obtain ⟨T35, h35, X35, e35, W35, st35⟩ := stR X29 hx hZ rfl Arq32 (j := (0 : Int32)) hin34 rfl (Sto.ofV Arq32 Akq32 x15_1 (Ins.self x29_0)) (g := (mkF m 33 #[.val (.int pI1), .val (.int 7), .val (.ref bR2), .val (.ref bR2)] [(.ref bR29_0), (.int 0), (.ref bR2), (.ref bR29_0)])) rfl rfl (hb hby d1_33)
  have K36 : Keep h0 h35 [] := K30.wr W35 (Or.inr (Nat.le_of_eq g2.symm))
  have Z37 : n0 ≤ h35.size := (Nat.le_trans Z31 (Keep.of_wr W35).1)
  have N35 := Fr.snoc X35 N29 g14
  obtain ⟨Lh35, X35, N35⟩ := own_hide X35 N35
  have V35 : Arv Z h35 bR2 k2 (.object "java/lang/Integer") (7 : Int32) [(.ref bR29_0), (.ref bR10_0), (.ref bR10_0), (.ref bR10_0), (.ref bR10_0), (.ref bR10_0), (.ref bR10_0)] .null := Arv.set Arq32 Akq32 Asq32 Anq32 Ahq32 Agq32 rfl W35 0 rfl (Nat.le_of_ble_eq_true rfl)
  have c38 : Exa Z h35 bR29_0 "java/lang/Integer" := x29_0.wr W35
  have c39 : Exa Z T29.heap bR10_0 "java/lang/Integer" := c20.keep Kq29
  have c40 : Exa Z h35 bR10_0 "java/lang/Integer" := c39.wr W35
  obtain ⟨_, _, ⟨T41, L41, k41, n41⟩, -, X41, ⟨Lc41, hQ41, l41, y41, z41⟩, st41⟩ := Jvm.LawKit.callS X35 hx (y := yN13) hown (mvT hZ (ow hw 26 rfl)) (mvT hZ (ow hw 27 rfl)) (mvT hZ (ow hw 28 rfl)) (mvT hZ (ow hw 29 rfl)) (by decide) (backOf (W := 0) (of7 l Z a0 hw [] bR2 bR29_0 bR10_0 k2 h35 n0 Z37 V35 c38 c40) hZ (ow hw 29 rfl) (ow hw 28 rfl) (by decide) (by decide)) (g := (mkF m 36 #[.val (.int pI1), .val (.int 7), .val (.ref bR2), .val (.ref bR2)] [(.ref bR2)])) rfl (by rw [hml]; rfl) (argsL := [(.ref bR2)]) (rest := []) (lenOf pd_7 rfl) rfl (Nat.le_refl _) (hb hby d1_36) (fun _ _ => ⟨rfl, e35, (by decide : 3 + 2 ≤ _), (by decide : 9 + 9 ≤ _)⟩)
  dsimp only [Pt.U, Pt.locs, Pt.cells, Pt.slots] at X41 l41 y41 z41 st41 hQ41
  subst l41 y41 z41
  obtain ⟨bR41_0, bR41_1, kK41_0, rfl, Nq41, Kq41, sz41_0, sz41_1, x41_0, x41_1, x41_2, x41_3⟩ := hQ41
  have N41 := Fr.app N35 Nq41
  obtain ⟨Lh41, X41, N41⟩ := own_hide X41 N41
  have K42 : Keep h0 T41.heap [] := K36.trans Kq41 all0
  have Z43 : n0 ≤ T41.heap.size := (Nat.le_trans Z37 Kq41.1)
  have c44 : Exa Z T41.heap bR10_0 "java/lang/Integer" := c40.keep Kq41
  have c45 : Fld Z T29.heap bR10_0 "java/lang/Integer" "value" "I" (.int (pI1 / (7 : Int32))) := c21.keep Kq29 nin0
  have c46 : Fld Z h35 bR10_0 "java/lang/Integer" "value" "I" (.int (pI1 / (7 : Int32))) := c45.other W35 (Or.inl (own_ne_EV c20 (ow hw 132 rfl) x15_0))
  have c47 : Fld Z T41.heap bR10_0 "java/lang/Integer" "value" "I" (.int (pI1 / (7 : Int32))) := c46.keep Kq41 nin0
  have c48 : Exa Z T41.heap bR29_0 "java/lang/Integer" := c38.keep Kq41
  have c49 : Fld Z h35 bR29_0 "java/lang/Integer" "value" "I" (.int ((pI1 / (7 : Int32)) + (pI1 % (7 : Int32)))) := x29_1.other W35 (Or.inl (own_ne_EV c38 (ow hw 132 rfl) V35))
  have c50 : Fld Z T41.heap bR29_0 "java/lang/Integer" "value" "I" (.int ((pI1 / (7 : Int32)) + (pI1 % (7 : Int32)))) := c49.keep Kq41 nin0
  obtain ⟨fs, hr, hrun, hended, hW, hsame⟩ := X41.leave (v := some (.ref bR41_1)) (fun h => by rw [Bd.returns] at h; cases h)
  refine ⟨_, _, castTop (ef_eqs7 m pI1) ?_, hrun, hended, _, _, rfl, ?_, ⟨_, rfl⟩, hW, hsame.mono (by decide) (by decide)⟩
  · show oS p e below s₁ m 0 #[.val (.int pI1), .val (.int 7), .unset, .unset] [] _
    refine XS.iloadN X0.here hx rfl (hb hby d1_0) rfl ?_
    refine st2 _ ?_
    refine XS.astoreN X2.here hx rfl (hb hby d1_4) rfl rfl (l' := #[.val (.int pI1), .val (.int 7), .val (.ref bR2), .unset]) rfl ?_
    refine XS.aloadN X2.here hx rfl (hb hby d1_5) rfl rfl ?_
    refine XS.iloadN X2.here hx rfl (hb hby d1_6) rfl ?_
    refine XS.iloadN X2.here hx rfl (hb hby d1_7) rfl ?_
    refine XS.idiv X2.here hx rfl (hb hby d1_8) rfl (by decide) ?_
    refine st10 _ ?_
    show oS p e below T10 m 12 #[.val (.int pI1), .val (.int 7), .val (.ref bR2), .unset] [(.ref bR10_0), (.ref bR2)] _
    refine st15 _ ?_
    refine XS.aloadN X15.here hx rfl (hb hby d1_15) rfl rfl ?_
    refine XS.astoreN X15.here hx rfl (hb hby d1_16) rfl rfl (l' := #[.val (.int pI1), .val (.int 7), .val (.ref bR2), .val (.ref bR2)]) rfl ?_
    refine XS.aloadN X15.here hx rfl (hb hby d1_17) rfl rfl ?_
    refine XS.iconst X15.here hx rfl (hb hby d1_18) ?_
    refine XS.aloadN X15.here hx rfl (hb hby d1_19) rfl rfl ?_
    refine XS.iconst X15.here hx rfl (hb hby d1_20) ?_
    refine X15.aaload hx (j := (0 : Int32)) (v := (.ref bR10_0)) Arq18.1 (State.isArrayOf_alike hZ.alike Arq18.2.1) rfl Arq18.2.2 hin19 (Has.at Ahq18 hin19 rfl) (g := (mkF m 21 #[.val (.int pI1), .val (.int 7), .val (.ref bR2), .val (.ref bR2)] [(.int 0), (.ref bR2), (.int 0), (.ref bR2)])) rfl rfl (hb hby d1_21) _ ?_
    show oS p e below T15 m 22 #[.val (.int pI1), .val (.int 7), .val (.ref bR2), .val (.ref bR2)] [(.ref bR10_0), (.int 0), (.ref bR2)] _
    refine st22.trans ?_
    refine XS.iloadN X22.here hx rfl (hb hby d1_25) rfl ?_
    refine XS.iloadN X22.here hx rfl (hb hby d1_26) rfl ?_
    show Steps p.tables e below (T22.setTop (mkF m 27 #[.val (.int pI1), .val (.int 7), .val (.ref bR2), .val (.ref bR2)] [(.int 7), (.int pI1), (.int (pI1 / (7 : Int32))), (.int 0), (.ref bR2)])) _
    refine iremM (g := (mkF m 27 #[.val (.int pI1), .val (.int 7), .val (.ref bR2), .val (.ref bR2)] [(.int 7), (.int pI1), (.int (pI1 / (7 : Int32))), (.int 0), (.ref bR2)])) X22 hx rfl (hb hby d1_27) rfl (by decide) ?_
    refine XS.iadd X22.here hx rfl (hb hby d1_28) rfl ?_
    refine st29 _ ?_
    show Steps p.tables e below (T29.setTop (mkF m 32 #[.val (.int pI1), .val (.int 7), .val (.ref bR2), .val (.ref bR2)] [(.ref bR29_0), (.int 0), (.ref bR2)])) _
    jvm_step X29.here [X29.here.top, hx, (hb hby d1_32), Value.category]
    refine st35 _ ?_
    show oS p e below T35 m 34 #[.val (.int pI1), .val (.int 7), .val (.ref bR2), .val (.ref bR2)] [(.ref bR29_0)] _
    refine XS.pop X35.here hx rfl (hb hby d1_34) rfl rfl ?_
    refine XS.aloadN X35.here hx rfl (hb hby d1_35) rfl rfl ?_
    refine st41 _ ?_
    exact retOut X41 hx Bd.returns rfl (Or.inr (Or.inr (Or.inr (Or.inr ⟨rfl, rfl, rfl⟩)))) (hb hby d1_39) hr
  · show Qeqs7 Z pI1 pR6 pC8 h0 n0 _ T41.heap _
    exact ⟨bR41_0, bR41_1, bR10_0, bR29_0, kK41_0, rfl, N41, K42, (Nat.le_trans K36.1 sz41_0), (Nat.le_trans K36.1 sz41_1), c44, c47, c48, c50, x41_0, x41_1, x41_2, x41_3⟩
theorem ef_fill8 (m : MethodId) (pR1 : Addr) (pR2 : Addr) : entryFrame m #[(.ref pR1), (.ref pR2)] 4 = mkF m 0 #[.val (.ref pR1), .val (.ref pR2), .unset, .unset] [] := by first | (simp [entryFrame, mkF, argsToLocals, Value.category]; done) | rfl
def Qfill8 (Z : State) (pR1 : Addr) (pR2 : Addr) (pK3 : ClassId) (h0 : Heap) (n0 : Nat) (v : Option Value) (h : Heap) (L : List Loc) : Prop := v = none ∧ Fr n0 L ∧ Keep h0 h [pR1] ∧ Arv Z h pR1 pK3 (.object "java/lang/Integer") (8 : Int32) [(.ref pR2), (.ref pR2), (.ref pR2), (.ref pR2), (.ref pR2), (.ref pR2), (.ref pR2), (.ref pR2)] .null ∧ Ovr Z pK3 "java/lang/Integer"
set_option maxRecDepth 65536 in
set_option maxHeartbeats 40000000 in
theorem fill8 (l : Launch) (Z : State) (a0 : Array Value) (hw : ∀ d ∈ tables_1, d.before a0 Z = true) (ws : List Jvm.Cond) (pR1 : Addr) (pR2 : Addr) (pK3 : ClassId) (h0 : Heap) (n0 : Nat) (Z0 : n0 ≤ h0.size) (V_pR1 : Arv Z h0 pR1 pK3 (.object "java/lang/Integer") (8 : Int32) [.null, .null, .null, .null, .null, .null, .null, .null] .null) (O_pK3 : Ovr Z pK3 "java/lang/Integer") (g_pR1 : n0 ≤ pR1) (E_pR2 : Exa Z h0 pR2 "java/lang/Integer") :
    oM l yN12 jdk_65_method_117_code 4 none ws ({ frames := 0, cells := 0, slots := 0, locals := 0 } : Room) #[(.ref pR1), (.ref pR2)] Z h0 (Qfill8 Z pR1 pR2 pK3 h0 n0) := by
  refine MetFree.of_bodySF (plainFor_of_name pn_8) hisR ?_
  intro p e s m args below meth c s₁ Bd hml0 hP hK
  obtain ⟨rfl, hZ, hh⟩ := hP
  have hx := Bd.exec
  have hby := Bd.bytes
  have hml : c.maxLocals = 4 := hml0
  have hown : s.vm.findClass "java/util/Arrays" = some m.cls := findClass_of_methodNamed Bd.named
  have hnm := (name_of_methodNamed Bd.named Bd.method).1
  have X0 : Stand p l e ({ frames := 0, cells := 0, slots := 0, locals := 0 } : Room) s m #[(.ref pR1), (.ref pR2)] below meth c s₁ [] 0 0 := Stand.of_body Bd
  have e0 : s₁.heap = h0 := by rw [← hh, Bd.state]; rfl
  have N0 := Fr.nil n0
  obtain ⟨clq4, Arq4, Akq4, Asq4, Anq4, Ahq4, Agq4⟩ := id V_pR1
  obtain ⟨clq5, Arq5, Akq5, Asq5, Anq5, Ahq5, Agq5⟩ := id V_pR1
  have hin6 : ¬ ((0 : Int32) < 0 ∨ clq5.slots.size ≤ ((0 : Int32)).toNatClampNeg) := inb_of Asq5 ⟨by decide, by decide⟩
  obtain ⟨T7, h7, X7, e7, W7, st7⟩ := stR X0 hx hZ e0 Arq5 (j := (0 : Int32)) hin6 rfl (Sto.ofV Arq5 Akq5 O_pK3 (Ins.self E_pR2)) (g := (mkF m 13 #[.val (.ref pR1), .val (.ref pR2), .val (.int 0), .val (.int 8)] [(.ref pR2), (.int 0), (.ref pR1)])) rfl rfl (hb hby d3_13)
  have K8 : Keep h0 h7 [pR1] := (Keep.refl h0 [pR1]).wr W7 (Or.inl (List.mem_of_getElem? (i := 0) rfl))
  have Z9 : n0 ≤ h7.size := (Nat.le_trans Z0 (Keep.of_wr W7).1)
  have N7 := Fr.snoc X7 N0 g_pR1
  obtain ⟨Lh7, X7, N7⟩ := own_hide X7 N7
  have V7 : Arv Z h7 pR1 pK3 (.object "java/lang/Integer") (8 : Int32) [(.ref pR2), .null, .null, .null, .null, .null, .null, .null] .null := Arv.set Arq5 Akq5 Asq5 Anq5 Ahq5 Agq5 rfl W7 0 rfl (Nat.le_of_ble_eq_true rfl)
  obtain ⟨clq10, Arq10, Akq10, Asq10, Anq10, Ahq10, Agq10⟩ := id V7
  have hin11 : ¬ ((1 : Int32) < 0 ∨ clq10.slots.size ≤ ((1 : Int32)).toNatClampNeg) := inb_of Asq10 ⟨by decide, by decide⟩
  have c12 : Exa Z h7 pR2 "java/lang/Integer" := E_pR2.wr W7
  obtain ⟨T13, h13, X13, e13, W13, st13⟩ := stR X7 hx hZ e7 Arq10 (j := (1 : Int32)) hin11 rfl (Sto.ofV Arq10 Akq10 O_pK3 (Ins.self c12)) (g := (mkF m 13 #[.val (.ref pR1), .val (.ref pR2), .val (.int 1), .val (.int 8)] [(.ref pR2), (.int 1), (.ref pR1)])) rfl rfl (hb hby d3_13)
  have K14 : Keep h0 h13 [pR1] := K8.wr W13 (Or.inl (List.mem_of_getElem? (i := 0) rfl))
  have Z15 : n0 ≤ h13.size := (Nat.le_trans Z9 (Keep.of_wr W13).1)
  have N13 := Fr.snoc X13 N7 g_pR1
  obtain ⟨Lh13, X13, N13⟩ := own_hide X13 N13
  have V13 : Arv Z h13 pR1 pK3 (.object "java/lang/Integer") (8 : Int32) [(.ref pR2), (.ref pR2), .null, .null, .null, .null, .null, .null] .null := Arv.set Arq10 Akq10 Asq10 Anq10 Ahq10 Agq10 rfl W13 1 rfl (Nat.le_of_ble_eq_true rfl)
  obtain ⟨clq16, Arq16, Akq16, Asq16, Anq16, Ahq16, Agq16⟩ := id V13
  have hin17 : ¬ ((2 : Int32) < 0 ∨ clq16.slots.size ≤ ((2 : Int32)).toNatClampNeg) := inb_of Asq16 ⟨by decide, by decide⟩
  have c18 : Exa Z h13 pR2 "java/lang/Integer" := c12.wr W13
  obtain ⟨T19, h19, X19, e19, W19, st19⟩ := stR X13 hx hZ e13 Arq16 (j := (2 : Int32)) hin17 rfl (Sto.ofV Arq16 Akq16 O_pK3 (Ins.self c18)) (g := (mkF m 13 #[.val (.ref pR1), .val (.ref pR2), .val (.int 2), .val (.int 8)] [(.ref pR2), (.int 2), (.ref pR1)])) rfl rfl (hb hby d3_13)
  have K20 : Keep h0 h19 [pR1] := K14.wr W19 (Or.inl (List.mem_of_getElem? (i := 0) rfl))
  have Z21 : n0 ≤ h19.size := (Nat.le_trans Z15 (Keep.of_wr W19).1)
  have N19 := Fr.snoc X19 N13 g_pR1
  obtain ⟨Lh19, X19, N19⟩ := own_hide X19 N19
  have V19 : Arv Z h19 pR1 pK3 (.object "java/lang/Integer") (8 : Int32) [(.ref pR2), (.ref pR2), (.ref pR2), .null, .null, .null, .null, .null] .null := Arv.set Arq16 Akq16 Asq16 Anq16 Ahq16 Agq16 rfl W19 2 rfl (Nat.le_of_ble_eq_true rfl)
  obtain ⟨clq22, Arq22, Akq22, Asq22, Anq22, Ahq22, Agq22⟩ := id V19
  have hin23 : ¬ ((3 : Int32) < 0 ∨ clq22.slots.size ≤ ((3 : Int32)).toNatClampNeg) := inb_of Asq22 ⟨by decide, by decide⟩
  have c24 : Exa Z h19 pR2 "java/lang/Integer" := c18.wr W19
  obtain ⟨T25, h25, X25, e25, W25, st25⟩ := stR X19 hx hZ e19 Arq22 (j := (3 : Int32)) hin23 rfl (Sto.ofV Arq22 Akq22 O_pK3 (Ins.self c24)) (g := (mkF m 13 #[.val (.ref pR1), .val (.ref pR2), .val (.int 3), .val (.int 8)] [(.ref pR2), (.int 3), (.ref pR1)])) rfl rfl (hb hby d3_13)
  have K26 : Keep h0 h25 [pR1] := K20.wr W25 (Or.inl (List.mem_of_getElem? (i := 0) rfl))
  have Z27 : n0 ≤ h25.size := (Nat.le_trans Z21 (Keep.of_wr W25).1)
  have N25 := Fr.snoc X25 N19 g_pR1
  obtain ⟨Lh25, X25, N25⟩ := own_hide X25 N25
  have V25 : Arv Z h25 pR1 pK3 (.object "java/lang/Integer") (8 : Int32) [(.ref pR2), (.ref pR2), (.ref pR2), (.ref pR2), .null, .null, .null, .null] .null := Arv.set Arq22 Akq22 Asq22 Anq22 Ahq22 Agq22 rfl W25 3 rfl (Nat.le_of_ble_eq_true rfl)
  obtain ⟨clq28, Arq28, Akq28, Asq28, Anq28, Ahq28, Agq28⟩ := id V25
  have hin29 : ¬ ((4 : Int32) < 0 ∨ clq28.slots.size ≤ ((4 : Int32)).toNatClampNeg) := inb_of Asq28 ⟨by decide, by decide⟩
  have c30 : Exa Z h25 pR2 "java/lang/Integer" := c24.wr W25
  obtain ⟨T31, h31, X31, e31, W31, st31⟩ := stR X25 hx hZ e25 Arq28 (j := (4 : Int32)) hin29 rfl (Sto.ofV Arq28 Akq28 O_pK3 (Ins.self c30)) (g := (mkF m 13 #[.val (.ref pR1), .val (.ref pR2), .val (.int 4), .val (.int 8)] [(.ref pR2), (.int 4), (.ref pR1)])) rfl rfl (hb hby d3_13)
  have K32 : Keep h0 h31 [pR1] := K26.wr W31 (Or.inl (List.mem_of_getElem? (i := 0) rfl))
  have Z33 : n0 ≤ h31.size := (Nat.le_trans Z27 (Keep.of_wr W31).1)
  have N31 := Fr.snoc X31 N25 g_pR1
  obtain ⟨Lh31, X31, N31⟩ := own_hide X31 N31
  have V31 : Arv Z h31 pR1 pK3 (.object "java/lang/Integer") (8 : Int32) [(.ref pR2), (.ref pR2), (.ref pR2), (.ref pR2), (.ref pR2), .null, .null, .null] .null := Arv.set Arq28 Akq28 Asq28 Anq28 Ahq28 Agq28 rfl W31 4 rfl (Nat.le_of_ble_eq_true rfl)
  obtain ⟨clq34, Arq34, Akq34, Asq34, Anq34, Ahq34, Agq34⟩ := id V31
  have hin35 : ¬ ((5 : Int32) < 0 ∨ clq34.slots.size ≤ ((5 : Int32)).toNatClampNeg) := inb_of Asq34 ⟨by decide, by decide⟩
  have c36 : Exa Z h31 pR2 "java/lang/Integer" := c30.wr W31
  obtain ⟨T37, h37, X37, e37, W37, st37⟩ := stR X31 hx hZ e31 Arq34 (j := (5 : Int32)) hin35 rfl (Sto.ofV Arq34 Akq34 O_pK3 (Ins.self c36)) (g := (mkF m 13 #[.val (.ref pR1), .val (.ref pR2), .val (.int 5), .val (.int 8)] [(.ref pR2), (.int 5), (.ref pR1)])) rfl rfl (hb hby d3_13)
  have K38 : Keep h0 h37 [pR1] := K32.wr W37 (Or.inl (List.mem_of_getElem? (i := 0) rfl))
  have Z39 : n0 ≤ h37.size := (Nat.le_trans Z33 (Keep.of_wr W37).1)
  have N37 := Fr.snoc X37 N31 g_pR1
  obtain ⟨Lh37, X37, N37⟩ := own_hide X37 N37
  have V37 : Arv Z h37 pR1 pK3 (.object "java/lang/Integer") (8 : Int32) [(.ref pR2), (.ref pR2), (.ref pR2), (.ref pR2), (.ref pR2), (.ref pR2), .null, .null] .null := Arv.set Arq34 Akq34 Asq34 Anq34 Ahq34 Agq34 rfl W37 5 rfl (Nat.le_of_ble_eq_true rfl)
  obtain ⟨clq40, Arq40, Akq40, Asq40, Anq40, Ahq40, Agq40⟩ := id V37
  have hin41 : ¬ ((6 : Int32) < 0 ∨ clq40.slots.size ≤ ((6 : Int32)).toNatClampNeg) := inb_of Asq40 ⟨by decide, by decide⟩
  have c42 : Exa Z h37 pR2 "java/lang/Integer" := c36.wr W37
  obtain ⟨T43, h43, X43, e43, W43, st43⟩ := stR X37 hx hZ e37 Arq40 (j := (6 : Int32)) hin41 rfl (Sto.ofV Arq40 Akq40 O_pK3 (Ins.self c42)) (g := (mkF m 13 #[.val (.ref pR1), .val (.ref pR2), .val (.int 6), .val (.int 8)] [(.ref pR2), (.int 6), (.ref pR1)])) rfl rfl (hb hby d3_13)
  have K44 : Keep h0 h43 [pR1] := K38.wr W43 (Or.inl (List.mem_of_getElem? (i := 0) rfl))
  have Z45 : n0 ≤ h43.size := (Nat.le_trans Z39 (Keep.of_wr W43).1)
  have N43 := Fr.snoc X43 N37 g_pR1
  obtain ⟨Lh43, X43, N43⟩ := own_hide X43 N43
  have V43 : Arv Z h43 pR1 pK3 (.object "java/lang/Integer") (8 : Int32) [(.ref pR2), (.ref pR2), (.ref pR2), (.ref pR2), (.ref pR2), (.ref pR2), (.ref pR2), .null] .null := Arv.set Arq40 Akq40 Asq40 Anq40 Ahq40 Agq40 rfl W43 6 rfl (Nat.le_of_ble_eq_true rfl)
  obtain ⟨clq46, Arq46, Akq46, Asq46, Anq46, Ahq46, Agq46⟩ := id V43
  have hin47 : ¬ ((7 : Int32) < 0 ∨ clq46.slots.size ≤ ((7 : Int32)).toNatClampNeg) := inb_of Asq46 ⟨by decide, by decide⟩
  have c48 : Exa Z h43 pR2 "java/lang/Integer" := c42.wr W43
  obtain ⟨T49, h49, X49, e49, W49, st49⟩ := stR X43 hx hZ e43 Arq46 (j := (7 : Int32)) hin47 rfl (Sto.ofV Arq46 Akq46 O_pK3 (Ins.self c48)) (g := (mkF m 13 #[.val (.ref pR1), .val (.ref pR2), .val (.int 7), .val (.int 8)] [(.ref pR2), (.int 7), (.ref pR1)])) rfl rfl (hb hby d3_13)
  have K50 : Keep h0 h49 [pR1] := K44.wr W49 (Or.inl (List.mem_of_getElem? (i := 0) rfl))
  have Z51 : n0 ≤ h49.size := (Nat.le_trans Z45 (Keep.of_wr W49).1)
  have N49 := Fr.snoc X49 N43 g_pR1
  obtain ⟨Lh49, X49, N49⟩ := own_hide X49 N49
  have V49 : Arv Z h49 pR1 pK3 (.object "java/lang/Integer") (8 : Int32) [(.ref pR2), (.ref pR2), (.ref pR2), (.ref pR2), (.ref pR2), (.ref pR2), (.ref pR2), (.ref pR2)] .null := Arv.set Arq46 Akq46 Asq46 Anq46 Ahq46 Agq46 rfl W49 7 rfl (Nat.le_of_ble_eq_true rfl)
  obtain ⟨fs, hr, hrun, hended, hW, hsame⟩ := X49.leave (v := none) (fun _ => rfl)
  refine ⟨_, _, castTop (ef_fill8 m pR1 pR2) ?_, hrun, hended, _, _, rfl, ?_, ⟨_, rfl⟩, hW, hsame.mono (by decide) (by decide)⟩
  · show oS p e below s₁ m 0 #[.val (.ref pR1), .val (.ref pR2), .unset, .unset] [] _
    refine XS.iconst X0.here hx rfl (hb hby d3_0) ?_
    refine XS.istoreN X0.here hx rfl (hb hby d3_1) rfl (l' := #[.val (.ref pR1), .val (.ref pR2), .val (.int 0), .unset]) rfl ?_
    refine XS.aloadN X0.here hx rfl (hb hby d3_2) rfl rfl ?_
    refine X0.arraylength hx (by rw [e0]; exact Arq4.1) (State.isArrayOf_alike hZ.alike Arq4.2.1) (g := (mkF m 3 #[.val (.ref pR1), .val (.ref pR2), .val (.int 0), .unset] [(.ref pR1)])) rfl rfl (hb hby d3_3) _ ?_
    rw [len_of Asq4 Anq4]
    refine XS.istoreN X0.here hx rfl (hb hby d3_4) rfl (l' := #[.val (.ref pR1), .val (.ref pR2), .val (.int 0), .val (.int 8)]) rfl ?_
    refine XS.iloadN X0.here hx rfl (hb hby d3_5) rfl ?_
    refine XS.iloadN X0.here hx rfl (hb hby d3_6) rfl ?_
    refine XS.icmpNo X0.here hx rfl (hb hby d3_7) rfl (tlt (by decide : (0 : Int32) < (8 : Int32))).2.1 ?_
    show oS p e below s₁ m 10 #[.val (.ref pR1), .val (.ref pR2), .val (.int 0), .val (.int 8)] [] _
    refine XS.aloadN X0.here hx rfl (hb hby d3_10) rfl rfl ?_
    refine XS.iloadN X0.here hx rfl (hb hby d3_11) rfl ?_
    refine XS.aloadN X0.here hx rfl (hb hby d3_12) rfl rfl ?_
    refine st7 _ ?_
    refine XS.iinc X7.here hx rfl (hb hby d3_14) rfl (l' := #[.val (.ref pR1), .val (.ref pR2), .val (.int 1), .val (.int 8)]) rfl ?_
    refine XS.goto X7.here hx rfl (pc0 := 17) (pc' := 5) rfl (hb hby d3_17) (by decide) (by decide) ?_
    refine XS.iloadN X7.here hx rfl (hb hby d3_5) rfl ?_
    refine XS.iloadN X7.here hx rfl (hb hby d3_6) rfl ?_
    show oS p e below T7 m 7 #[.val (.ref pR1), .val (.ref pR2), .val (.int 1), .val (.int 8)] [(.int 8), (.int 1)] _
    refine XS.icmpNo X7.here hx rfl (hb hby d3_7) rfl (tlt (by decide : (1 : Int32) < (8 : Int32))).2.1 ?_
    refine XS.aloadN X7.here hx rfl (hb hby d3_10) rfl rfl ?_
    refine XS.iloadN X7.here hx rfl (hb hby d3_11) rfl ?_
    refine XS.aloadN X7.here hx rfl (hb hby d3_12) rfl rfl ?_
    refine st13 _ ?_
    refine XS.iinc X13.here hx rfl (hb hby d3_14) rfl (l' := #[.val (.ref pR1), .val (.ref pR2), .val (.int 2), .val (.int 8)]) rfl ?_
    refine XS.goto X13.here hx rfl (pc0 := 17) (pc' := 5) rfl (hb hby d3_17) (by decide) (by decide) ?_
    refine XS.iloadN X13.here hx rfl (hb hby d3_5) rfl ?_
    show oS p e below T13 m 6 #[.val (.ref pR1), .val (.ref pR2), .val (.int 2), .val (.int 8)] [(.int 2)] _
    refine XS.iloadN X13.here hx rfl (hb hby d3_6) rfl ?_
    refine XS.icmpNo X13.here hx rfl (hb hby d3_7) rfl (tlt (by decide : (2 : Int32) < (8 : Int32))).2.1 ?_
    refine XS.aloadN X13.here hx rfl (hb hby d3_10) rfl rfl ?_
    refine XS.iloadN X13.here hx rfl (hb hby d3_11) rfl ?_
    refine XS.aloadN X13.here hx rfl (hb hby d3_12) rfl rfl ?_
    refine st19 _ ?_
    refine XS.iinc X19.here hx rfl (hb hby d3_14) rfl (l' := #[.val (.ref pR1), .val (.ref pR2), .val (.int 3), .val (.int 8)]) rfl ?_
    refine XS.goto X19.here hx rfl (pc0 := 17) (pc' := 5) rfl (hb hby d3_17) (by decide) (by decide) ?_
    show oS p e below T19 m 5 #[.val (.ref pR1), .val (.ref pR2), .val (.int 3), .val (.int 8)] [] _
    refine XS.iloadN X19.here hx rfl (hb hby d3_5) rfl ?_
    refine XS.iloadN X19.here hx rfl (hb hby d3_6) rfl ?_
    refine XS.icmpNo X19.here hx rfl (hb hby d3_7) rfl (tlt (by decide : (3 : Int32) < (8 : Int32))).2.1 ?_
    refine XS.aloadN X19.here hx rfl (hb hby d3_10) rfl rfl ?_
    refine XS.iloadN X19.here hx rfl (hb hby d3_11) rfl ?_
    refine XS.aloadN X19.here hx rfl (hb hby d3_12) rfl rfl ?_
    refine st25 _ ?_
    refine XS.iinc X25.here hx rfl (hb hby d3_14) rfl (l' := #[.val (.ref pR1), .val (.ref pR2), .val (.int 4), .val (.int 8)]) rfl ?_
    show oS p e below T25 m 17 #[.val (.ref pR1), .val (.ref pR2), .val (.int 4), .val (.int 8)] [] _
    refine XS.goto X25.here hx rfl (pc0 := 17) (pc' := 5) rfl (hb hby d3_17) (by decide) (by decide) ?_
    refine XS.iloadN X25.here hx rfl (hb hby d3_5) rfl ?_
    refine XS.iloadN X25.here hx rfl (hb hby d3_6) rfl ?_
    refine XS.icmpNo X25.here hx rfl (hb hby d3_7) rfl (tlt (by decide : (4 : Int32) < (8 : Int32))).2.1 ?_
    refine XS.aloadN X25.here hx rfl (hb hby d3_10) rfl rfl ?_
    refine XS.iloadN X25.here hx rfl (hb hby d3_11) rfl ?_
    refine XS.aloadN X25.here hx rfl (hb hby d3_12) rfl rfl ?_
    refine st31 _ ?_
    show oS p e below T31 m 14 #[.val (.ref pR1), .val (.ref pR2), .val (.int 4), .val (.int 8)] [] _
    refine XS.iinc X31.here hx rfl (hb hby d3_14) rfl (l' := #[.val (.ref pR1), .val (.ref pR2), .val (.int 5), .val (.int 8)]) rfl ?_
    refine XS.goto X31.here hx rfl (pc0 := 17) (pc' := 5) rfl (hb hby d3_17) (by decide) (by decide) ?_
    refine XS.iloadN X31.here hx rfl (hb hby d3_5) rfl ?_
    refine XS.iloadN X31.here hx rfl (hb hby d3_6) rfl ?_
    refine XS.icmpNo X31.here hx rfl (hb hby d3_7) rfl (tlt (by decide : (5 : Int32) < (8 : Int32))).2.1 ?_
    refine XS.aloadN X31.here hx rfl (hb hby d3_10) rfl rfl ?_
    refine XS.iloadN X31.here hx rfl (hb hby d3_11) rfl ?_
    refine XS.aloadN X31.here hx rfl (hb hby d3_12) rfl rfl ?_
    show oS p e below T31 m 13 #[.val (.ref pR1), .val (.ref pR2), .val (.int 5), .val (.int 8)] [(.ref pR2), (.int 5), (.ref pR1)] _
    refine st37 _ ?_
    refine XS.iinc X37.here hx rfl (hb hby d3_14) rfl (l' := #[.val (.ref pR1), .val (.ref pR2), .val (.int 6), .val (.int 8)]) rfl ?_
    refine XS.goto X37.here hx rfl (pc0 := 17) (pc' := 5) rfl (hb hby d3_17) (by decide) (by decide) ?_
    refine XS.iloadN X37.here hx rfl (hb hby d3_5) rfl ?_
    refine XS.iloadN X37.here hx rfl (hb hby d3_6) rfl ?_
    refine XS.icmpNo X37.here hx rfl (hb hby d3_7) rfl (tlt (by decide : (6 : Int32) < (8 : Int32))).2.1 ?_
    refine XS.aloadN X37.here hx rfl (hb hby d3_10) rfl rfl ?_
    refine XS.iloadN X37.here hx rfl (hb hby d3_11) rfl ?_
    show oS p e below T37 m 12 #[.val (.ref pR1), .val (.ref pR2), .val (.int 6), .val (.int 8)] [(.int 6), (.ref pR1)] _
    refine XS.aloadN X37.here hx rfl (hb hby d3_12) rfl rfl ?_
    refine st43 _ ?_
    refine XS.iinc X43.here hx rfl (hb hby d3_14) rfl (l' := #[.val (.ref pR1), .val (.ref pR2), .val (.int 7), .val (.int 8)]) rfl ?_
    refine XS.goto X43.here hx rfl (pc0 := 17) (pc' := 5) rfl (hb hby d3_17) (by decide) (by decide) ?_
    refine XS.iloadN X43.here hx rfl (hb hby d3_5) rfl ?_
    refine XS.iloadN X43.here hx rfl (hb hby d3_6) rfl ?_
    refine XS.icmpNo X43.here hx rfl (hb hby d3_7) rfl (tlt (by decide : (7 : Int32) < (8 : Int32))).2.1 ?_
    refine XS.aloadN X43.here hx rfl (hb hby d3_10) rfl rfl ?_
    show oS p e below T43 m 11 #[.val (.ref pR1), .val (.ref pR2), .val (.int 7), .val (.int 8)] [(.ref pR1)] _
    refine XS.iloadN X43.here hx rfl (hb hby d3_11) rfl ?_
    refine XS.aloadN X43.here hx rfl (hb hby d3_12) rfl rfl ?_
    refine st49 _ ?_
    refine XS.iinc X49.here hx rfl (hb hby d3_14) rfl (l' := #[.val (.ref pR1), .val (.ref pR2), .val (.int 8), .val (.int 8)]) rfl ?_
    refine XS.goto X49.here hx rfl (pc0 := 17) (pc' := 5) rfl (hb hby d3_17) (by decide) (by decide) ?_
    refine XS.iloadN X49.here hx rfl (hb hby d3_5) rfl ?_
    refine XS.iloadN X49.here hx rfl (hb hby d3_6) rfl ?_
    refine XS.icmpYes X49.here hx rfl (pc0 := 7) (pc' := 20) rfl (hb hby d3_7) rfl (flt (by decide : ¬ ((8 : Int32) < (8 : Int32)))).2.1 (by decide) (by decide) ?_
    show oS p e below T49 m 20 #[.val (.ref pR1), .val (.ref pR2), .val (.int 8), .val (.int 8)] [] _
    exact X49.returnOut hx Bd.returns (hb hby d3_20) hr
  · show Qfill8 Z pR1 pR2 pK3 h0 n0 _ T49.heap _
    rw [e49]
    exact ⟨rfl, N49, K50, V49, O_pK3⟩
theorem ef_lfa8 (m : MethodId) (pR1 : Addr) : entryFrame m #[(.ref pR1)] 3 = mkF m 0 #[.val (.ref pR1), .unset, .unset] [] := by first | (simp [entryFrame, mkF, argsToLocals, Value.category]; done) | rfl
def Qlfa8 (Z : State) (pR1 : Addr) (pR801 : Addr) (pR802 : Addr) (pK2 : ClassId) (h0 : Heap) (n0 : Nat) (v : Option Value) (h : Heap) (L : List Loc) : Prop := ∃ bR4 : Addr, ∃ bR99 : Addr, ∃ k4 : ClassId, v = some (.ref bR99) ∧ Fr n0 L ∧ Keep h0 h [] ∧ h0.size ≤ bR4 ∧ h0.size ≤ bR99 ∧ Arv Z h bR4 k4 (.object "java/lang/Object") (8 : Int32) [(.ref pR801), (.ref pR802), (.ref pR802), (.ref pR802), (.ref pR802), (.ref pR802), (.ref pR802), (.ref pR802)] .null ∧ Ovr Z k4 "java/lang/Object" ∧ Exa Z h bR99 "java/util/ImmutableCollections$ListN" ∧ Fld Z h bR99 "java/util/ImmutableCollections$ListN" "elements" "[Ljava/lang/Object;" (.ref bR4) ∧ Fld Z h bR99 "java/util/ImmutableCollections$ListN" "allowNulls" "Z" (.int 0)
set_option maxRecDepth 65536 in
set_option maxHeartbeats 40000000 in
theorem lfa8 (l : Launch) (Z : State) (a0 : Array Value) (hw : ∀ d ∈ tables_1, d.before a0 Z = true) (ws : List Jvm.Cond) (pR1 : Addr) (pR801 : Addr) (pR802 : Addr) (pK2 : ClassId) (h0 : Heap) (n0 : Nat) (Z0 : n0 ≤ h0.size) (V_pR1 : Arv Z h0 pR1 pK2 (.object "java/lang/Integer") (8 : Int32) [(.ref pR801), (.ref pR802), (.ref pR802), (.ref pR802), (.ref pR802), (.ref pR802), (.ref pR802), (.ref pR802)] .null) (E_pR801 : Exa Z h0 pR801 "java/lang/Integer") (E_pR802 : Exa Z h0 pR802 "java/lang/Integer") :
    oM l yN15 jdk_56_method_4_code 3 (some (.object "java/util/List")) ws ({ frames := 5, cells := 2, slots := 10, locals := 63 } : Room) #[(.ref pR1)] Z h0 (Qlfa8 Z pR1 pR801 pR802 pK2 h0 n0) := by
  refine MetFree.of_bodySF (plainFor_of_name pn_11) hisR ?_
  intro p e s m args below meth c s₁ Bd hml0 hP hK
  obtain ⟨rfl, hZ, hh⟩ := hP
  have hx := Bd.exec
  have hby := Bd.bytes
  have hml : c.maxLocals = 3 := hml0
  have hown : s.vm.findClass "java/util/ImmutableCollections" = some m.cls := findClass_of_methodNamed Bd.named
  have hnm := (name_of_methodNamed Bd.named Bd.method).1
  have X0 : Stand p l e ({ frames := 5, cells := 2, slots := 10, locals := 63 } : Room) s m #[(.ref pR1)] below meth c s₁ [] 0 0 := Stand.of_body Bd
  have e0 : s₁.heap = h0 := by rw [← hh, Bd.state]; rfl
  have N0 := Fr.nil n0
  obtain ⟨clq3, Arq3, Akq3, Asq3, Anq3, Ahq3, Agq3⟩ := id V_pR1
  obtain ⟨T4, h4, k4, X4, e4, E4, A4, O4, st4⟩ := newR X0 hx hZ hown (ow hw 34 rfl) (ow hw 35 rfl) e0 (g := (mkF m 2 #[.val (.ref pR1), .unset, .unset] [(.int 8)])) rfl (hb hby d6_2) rfl (by decide) (cap := 8) (by decide) (by decide) (by decide) (by decide)
  obtain ⟨bR4, g4⟩ : ∃ z, z = h0.size := ⟨_, rfl⟩
  rw [← g4] at A4 st4
  have K5 : Keep h0 h4 [] := (Keep.refl h0 []).ext E4
  have Z6 : n0 ≤ h4.size := (Nat.le_trans Z0 E4.1)
  have V4 : Arv Z h4 bR4 k4 (.object "java/lang/Object") (8 : Int32) [.null, .null, .null, .null, .null, .null, .null, .null] .null := (Arv.new A4 (by decide)).pad (pad_rep [] .null 8)
  have c8 : Arv Z h4 pR1 pK2 (.object "java/lang/Integer") (8 : Int32) [(.ref pR801), (.ref pR802), (.ref pR802), (.ref pR802), (.ref pR802), (.ref pR802), (.ref pR802), (.ref pR802)] .null := V_pR1.ext E4
  obtain ⟨clq7, Arq7, Akq7, Asq7, Anq7, Ahq7, Agq7⟩ := id c8
  obtain ⟨clq9, Arq9, Akq9, Asq9, Anq9, Ahq9, Agq9⟩ := id c8
  have hin10 : ¬ ((0 : Int32) < 0 ∨ clq9.slots.size ≤ ((0 : Int32)).toNatClampNeg) := inb_of Asq9 ⟨by decide, by decide⟩
  obtain ⟨_, _, ⟨T11, L11, k11, n11⟩, -, X11, ⟨Lc11, hQ11, l11, y11, z11⟩, st11⟩ := Jvm.LawKit.callS X4 hx (y := yN5) hown (mvT hZ (ow hw 36 rfl)) (mvT hZ (ow hw 37 rfl)) (mvT hZ (ow hw 38 rfl)) (mvT hZ (ow hw 39 rfl)) (by decide) (backOf (W := 2) (rnn l Z a0 hw [] pR801 h4 n0 Z6 ) hZ (ow hw 39 rfl) (ow hw 38 rfl) (by decide) (by decide)) (g := (mkF m 19 #[.val (.ref pR1), .val (.ref bR4), .val (.int 0)] [(.ref pR801), (.int 0), (.ref bR4)])) rfl (by rw [hml]; rfl) (argsL := [(.ref pR801)]) (rest := [(.int 0), (.ref bR4)]) (lenOf pd_2 rfl) rfl (Nat.le_refl _) (hb hby d6_19) (fun _ _ => ⟨rfl, e4, (by decide : 1 + 0 ≤ _), (by decide : 8 + 0 ≤ _)⟩)
  dsimp only [Pt.U, Pt.locs, Pt.cells, Pt.slots] at X11 l11 y11 z11 st11 hQ11
  subst l11 y11 z11
  obtain ⟨rfl, Nq11, e11⟩ := hQ11
  have N11 := Fr.app N0 Nq11
  have g12 : n0 ≤ bR4 := Nat.le_trans Z0 (Nat.le_of_eq g4.symm)
  obtain ⟨clq13, Arq13, Akq13, Asq13, Anq13, Ahq13, Agq13⟩ := id V4
  have hin14 : ¬ ((0 : Int32) < 0 ∨ clq13.slots.size ≤ ((0 : Int32)).toNatClampNeg) := inb_of Asq13 ⟨by decide, by decide⟩
  have c15 : Exa Z h4 pR801 "java/lang/Integer" := E_pR801.ext E4
  obtain ⟨T16, h16, X16, e16, W16, st16⟩ := stR X11 hx hZ e11 Arq13 (j := (0 : Int32)) hin14 rfl (Sto.ofV Arq13 Akq13 O4 (Ins.of_exa c15 (ow hw 40 rfl))) (g := (mkF m 22 #[.val (.ref pR1), .val (.ref bR4), .val (.int 0)] [(.ref pR801), (.int 0), (.ref bR4)])) rfl rfl (hb hby d6_22)
  have K17 : Keep h0 h16 [] := K5.wr W16 (Or.inr (Nat.le_of_eq g4.symm))
  have Z18 : n0 ≤ h16.size := (Nat.le_trans Z6 (Keep.of_wr W16).1)
  have N16 := Fr.snoc X16 N11 g12
  obtain ⟨Lh16, X16, N16⟩ := own_hide X16 N16
  have V16 : Arv Z h16 bR4 k4 (.object "java/lang/Object") (8 : Int32) [(.ref pR801), .null, .null, .null, .null, .null, .null, .null] .null := Arv.set Arq13 Akq13 Asq13 Anq13 Ahq13 Agq13 rfl W16 0 rfl (Nat.le_of_ble_eq_true rfl)
  have c20 : Arv Z h16 pR1 pK2 (.object "java/lang/Integer") (8 : Int32) [(.ref pR801), (.ref pR802), (.ref pR802), (.ref pR802), (.ref pR802), (.ref pR802), (.ref pR802), (.ref pR802)] .null := c8.other W16 (Nat.ne_of_lt (Nat.lt_of_lt_of_le V_pR1.lt (Nat.le_of_eq g4.symm)))
  obtain ⟨clq19, Arq19, Akq19, Asq19, Anq19, Ahq19, Agq19⟩ := id c20
  obtain ⟨clq21, Arq21, Akq21, Asq21, Anq21, Ahq21, Agq21⟩ := id c20
  have hin22 : ¬ ((1 : Int32) < 0 ∨ clq21.slots.size ≤ ((1 : Int32)).toNatClampNeg) := inb_of Asq21 ⟨by decide, by decide⟩
  obtain ⟨_, _, ⟨T23, L23, k23, n23⟩, -, X23, ⟨Lc23, hQ23, l23, y23, z23⟩, st23⟩ := Jvm.LawKit.callS X16 hx (y := yN5) hown (mvT hZ (ow hw 36 rfl)) (mvT hZ (ow hw 37 rfl)) (mvT hZ (ow hw 38 rfl)) (mvT hZ (ow hw 39 rfl)) (by decide) (backOf (W := 2) (rnn l Z a0 hw [] pR802 h16 n0 Z18 ) hZ (ow hw 39 rfl) (ow hw 38 rfl) (by decide) (by decide)) (g := (mkF m 19 #[.val (.ref pR1), .val (.ref bR4), .val (.int 1)] [(.ref pR802), (.int 1), (.ref bR4)])) rfl (by rw [hml]; rfl) (argsL := [(.ref pR802)]) (rest := [(.int 1), (.ref bR4)]) (lenOf pd_2 rfl) rfl (Nat.le_refl _) (hb hby d6_19) (fun _ _ => ⟨rfl, e16, (by decide : 1 + 0 ≤ _), (by decide : 8 + 0 ≤ _)⟩)
  dsimp only [Pt.U, Pt.locs, Pt.cells, Pt.slots] at X23 l23 y23 z23 st23 hQ23
  subst l23 y23 z23
  obtain ⟨rfl, Nq23, e23⟩ := hQ23
  have N23 := Fr.app N16 Nq23
  obtain ⟨clq24, Arq24, Akq24, Asq24, Anq24, Ahq24, Agq24⟩ := id V16
  have hin25 : ¬ ((1 : Int32) < 0 ∨ clq24.slots.size ≤ ((1 : Int32)).toNatClampNeg) := inb_of Asq24 ⟨by decide, by decide⟩
  have c26 : Exa Z h4 pR802 "java/lang/Integer" := E_pR802.ext E4
  have c27 : Exa Z h16 pR802 "java/lang/Integer" := c26.wr W16
  obtain ⟨T28, h28, X28, e28, W28, st28⟩ := stR X23 hx hZ e23 Arq24 (j := (1 : Int32)) hin25 rfl (Sto.ofV Arq24 Akq24 O4 (Ins.of_exa c27 (ow hw 40 rfl))) (g := (mkF m 22 #[.val (.ref pR1), .val (.ref bR4), .val (.int 1)] [(.ref pR802), (.int 1), (.ref bR4)])) rfl rfl (hb hby d6_22)
  have K29 : Keep h0 h28 [] := K17.wr W28 (Or.inr (Nat.le_of_eq g4.symm))
  have Z30 : n0 ≤ h28.size := (Nat.le_trans Z18 (Keep.of_wr W28).1)
  have N28 := Fr.snoc X28 N23 g12
  obtain ⟨Lh28, X28, N28⟩ := own_hide X28 N28
  have V28 : Arv Z h28 bR4 k4 (.object "java/lang/Object") (8 : Int32) [(.ref pR801), (.ref pR802), .null, .null, .null, .null, .null, .null] .null := Arv.set Arq24 Akq24 Asq24 Anq24 Ahq24 Agq24 rfl W28 1 rfl (Nat.le_of_ble_eq_true rfl)
  have c32 : Arv Z h28 pR1 pK2 (.object "java/lang/Integer") (8 : Int32) [(.ref pR801), (.ref pR802), (.ref pR802), (.ref pR802), (.ref pR802), (.ref pR802), (.ref pR802), (.ref pR802)] .null := c20.other W28 (Nat.ne_of_lt (Nat.lt_of_lt_of_le V_pR1.lt (Nat.le_of_eq g4.symm)))
  obtain ⟨clq31, Arq31, Akq31, Asq31, Anq31, Ahq31, Agq31⟩ := id c32
  obtain ⟨clq33, Arq33, Akq33, Asq33, Anq33, Ahq33, Agq33⟩ := id c32
  have hin34 : ¬ ((2 : Int32) < 0 ∨ clq33.slots.size ≤ ((2 : Int32)).toNatClampNeg) := inb_of Asq33 ⟨by decide, by decide⟩
  obtain ⟨_, _, ⟨T35, L35, k35, n35⟩, -, X35, ⟨Lc35, hQ35, l35, y35, z35⟩, st35⟩ := Jvm.LawKit.callS X28 hx (y := yN5) hown (mvT hZ (ow hw 36 rfl)) (mvT hZ (ow hw 37 rfl)) (mvT hZ (ow hw 38 rfl)) (mvT hZ (ow hw 39 rfl)) (by decide) (backOf (W := 2) (rnn l Z a0 hw [] pR802 h28 n0 Z30 ) hZ (ow hw 39 rfl) (ow hw 38 rfl) (by decide) (by decide)) (g := (mkF m 19 #[.val (.ref pR1), .val (.ref bR4), .val (.int 2)] [(.ref pR802), (.int 2), (.ref bR4)])) rfl (by rw [hml]; rfl) (argsL := [(.ref pR802)]) (rest := [(.int 2), (.ref bR4)]) (lenOf pd_2 rfl) rfl (Nat.le_refl _) (hb hby d6_19) (fun _ _ => ⟨rfl, e28, (by decide : 1 + 0 ≤ _), (by decide : 8 + 0 ≤ _)⟩)
  dsimp only [Pt.U, Pt.locs, Pt.cells, Pt.slots] at X35 l35 y35 z35 st35 hQ35
  subst l35 y35 z35
  obtain ⟨rfl, Nq35, e35⟩ := hQ35
  have N35 := Fr.app N28 Nq35
  obtain ⟨clq36, Arq36, Akq36, Asq36, Anq36, Ahq36, Agq36⟩ := id V28
  have hin37 : ¬ ((2 : Int32) < 0 ∨ clq36.slots.size ≤ ((2 : Int32)).toNatClampNeg) := inb_of Asq36 ⟨by decide, by decide⟩
  have c38 : Exa Z h28 pR802 "java/lang/Integer" := c27.wr W28
  obtain ⟨T39, h39, X39, e39, W39, st39⟩ := stR X35 hx hZ e35 Arq36 (j := (2 : Int32)) hin37 rfl (Sto.ofV Arq36 Akq36 O4 (Ins.of_exa c38 (ow hw 40 rfl))) (g := (mkF m 22 #[.val (.ref pR1), .val (.ref bR4), .val (.int 2)] [(.ref pR802), (.int 2), (.ref bR4)])) rfl rfl (hb hby d6_22)
  have K40 : Keep h0 h39 [] := K29.wr W39 (Or.inr (Nat.le_of_eq g4.symm))
  have Z41 : n0 ≤ h39.size := (Nat.le_trans Z30 (Keep.of_wr W39).1)
  have N39 := Fr.snoc X39 N35 g12
  obtain ⟨Lh39, X39, N39⟩ := own_hide X39 N39
  have V39 : Arv Z h39 bR4 k4 (.object "java/lang/Object") (8 : Int32) [(.ref pR801), (.ref pR802), (.ref pR802), .null, .null, .null, .null, .null] .null := Arv.set Arq36 Akq36 Asq36 Anq36 Ahq36 Agq36 rfl W39 2 rfl (Nat.le_of_ble_eq_true rfl)
  have c43 : Arv Z h39 pR1 pK2 (.object "java/lang/Integer") (8 : Int32) [(.ref pR801), (.ref pR802), (.ref pR802), (.ref pR802), (.ref pR802), (.ref pR802), (.ref pR802), (.ref pR802)] .null := c32.other W39 (Nat.ne_of_lt (Nat.lt_of_lt_of_le V_pR1.lt (Nat.le_of_eq g4.symm)))
  obtain ⟨clq42, Arq42, Akq42, Asq42, Anq42, Ahq42, Agq42⟩ := id c43
  obtain ⟨clq44, Arq44, Akq44, Asq44, Anq44, Ahq44, Agq44⟩ := id c43
  have hin45 : ¬ ((3 : Int32) < 0 ∨ clq44.slots.size ≤ ((3 : Int32)).toNatClampNeg) := inb_of Asq44 ⟨by decide, by decide⟩
  obtain ⟨_, _, ⟨T46, L46, k46, n46⟩, -, X46, ⟨Lc46, hQ46, l46, y46, z46⟩, st46⟩ := Jvm.LawKit.callS X39 hx (y := yN5) hown (mvT hZ (ow hw 36 rfl)) (mvT hZ (ow hw 37 rfl)) (mvT hZ (ow hw 38 rfl)) (mvT hZ (ow hw 39 rfl)) (by decide) (backOf (W := 2) (rnn l Z a0 hw [] pR802 h39 n0 Z41 ) hZ (ow hw 39 rfl) (ow hw 38 rfl) (by decide) (by decide)) (g := (mkF m 19 #[.val (.ref pR1), .val (.ref bR4), .val (.int 3)] [(.ref pR802), (.int 3), (.ref bR4)])) rfl (by rw [hml]; rfl) (argsL := [(.ref pR802)]) (rest := [(.int 3), (.ref bR4)]) (lenOf pd_2 rfl) rfl (Nat.le_refl _) (hb hby d6_19) (fun _ _ => ⟨rfl, e39, (by decide : 1 + 0 ≤ _), (by decide : 8 + 0 ≤ _)⟩)
  dsimp only [Pt.U, Pt.locs, Pt.cells, Pt.slots] at X46 l46 y46 z46 st46 hQ46
  subst l46 y46 z46
  obtain ⟨rfl, Nq46, e46⟩ := hQ46
  have N46 := Fr.app N39 Nq46
  obtain ⟨clq47, Arq47, Akq47, Asq47, Anq47, Ahq47, Agq47⟩ := id V39
  have hin48 : ¬ ((3 : Int32) < 0 ∨ clq47.slots.size ≤ ((3 : Int32)).toNatClampNeg) := inb_of Asq47 ⟨by decide, by decide⟩
  have c49 : Exa Z h39 pR802 "java/lang/Integer" := c38.wr W39
  obtain ⟨T50, h50, X50, e50, W50, st50⟩ := stR X46 hx hZ e46 Arq47 (j := (3 : Int32)) hin48 rfl (Sto.ofV Arq47 Akq47 O4 (Ins.of_exa c49 (ow hw 40 rfl))) (g := (mkF m 22 #[.val (.ref pR1), .val (.ref bR4), .val (.int 3)] [(.ref pR802), (.int 3), (.ref bR4)])) rfl rfl (hb hby d6_22)
  have K51 : Keep h0 h50 [] := K40.wr W50 (Or.inr (Nat.le_of_eq g4.symm))
  have Z52 : n0 ≤ h50.size := (Nat.le_trans Z41 (Keep.of_wr W50).1)
  have N50 := Fr.snoc X50 N46 g12
  obtain ⟨Lh50, X50, N50⟩ := own_hide X50 N50
  have V50 : Arv Z h50 bR4 k4 (.object "java/lang/Object") (8 : Int32) [(.ref pR801), (.ref pR802), (.ref pR802), (.ref pR802), .null, .null, .null, .null] .null := Arv.set Arq47 Akq47 Asq47 Anq47 Ahq47 Agq47 rfl W50 3 rfl (Nat.le_of_ble_eq_true rfl)
  have c54 : Arv Z h50 pR1 pK2 (.object "java/lang/Integer") (8 : Int32) [(.ref pR801), (.ref pR802), (.ref pR802), (.ref pR802), (.ref pR802), (.ref pR802), (.ref pR802), (.ref pR802)] .null := c43.other W50 (Nat.ne_of_lt (Nat.lt_of_lt_of_le V_pR1.lt (Nat.le_of_eq g4.symm)))
  obtain ⟨clq53, Arq53, Akq53, Asq53, Anq53, Ahq53, Agq53⟩ := id c54
  obtain ⟨clq55, Arq55, Akq55, Asq55, Anq55, Ahq55, Agq55⟩ := id c54
  have hin56 : ¬ ((4 : Int32) < 0 ∨ clq55.slots.size ≤ ((4 : Int32)).toNatClampNeg) := inb_of Asq55 ⟨by decide, by decide⟩
  obtain ⟨_, _, ⟨T57, L57, k57, n57⟩, -, X57, ⟨Lc57, hQ57, l57, y57, z57⟩, st57⟩ := Jvm.LawKit.callS X50 hx (y := yN5) hown (mvT hZ (ow hw 36 rfl)) (mvT hZ (ow hw 37 rfl)) (mvT hZ (ow hw 38 rfl)) (mvT hZ (ow hw 39 rfl)) (by decide) (backOf (W := 2) (rnn l Z a0 hw [] pR802 h50 n0 Z52 ) hZ (ow hw 39 rfl) (ow hw 38 rfl) (by decide) (by decide)) (g := (mkF m 19 #[.val (.ref pR1), .val (.ref bR4), .val (.int 4)] [(.ref pR802), (.int 4), (.ref bR4)])) rfl (by rw [hml]; rfl) (argsL := [(.ref pR802)]) (rest := [(.int 4), (.ref bR4)]) (lenOf pd_2 rfl) rfl (Nat.le_refl _) (hb hby d6_19) (fun _ _ => ⟨rfl, e50, (by decide : 1 + 0 ≤ _), (by decide : 8 + 0 ≤ _)⟩)
  dsimp only [Pt.U, Pt.locs, Pt.cells, Pt.slots] at X57 l57 y57 z57 st57 hQ57
  subst l57 y57 z57
  obtain ⟨rfl, Nq57, e57⟩ := hQ57
  have N57 := Fr.app N50 Nq57
  obtain ⟨clq58, Arq58, Akq58, Asq58, Anq58, Ahq58, Agq58⟩ := id V50
  have hin59 : ¬ ((4 : Int32) < 0 ∨ clq58.slots.size ≤ ((4 : Int32)).toNatClampNeg) := inb_of Asq58 ⟨by decide, by decide⟩
  have c60 : Exa Z h50 pR802 "java/lang/Integer" := c49.wr W50
  obtain ⟨T61, h61, X61, e61, W61, st61⟩ := stR X57 hx hZ e57 Arq58 (j := (4 : Int32)) hin59 rfl (Sto.ofV Arq58 Akq58 O4 (Ins.of_exa c60 (ow hw 40 rfl))) (g := (mkF m 22 #[.val (.ref pR1), .val (.ref bR4), .val (.int 4)] [(.ref pR802), (.int 4), (.ref bR4)])) rfl rfl (hb hby d6_22)
  have K62 : Keep h0 h61 [] := K51.wr W61 (Or.inr (Nat.le_of_eq g4.symm))
  have Z63 : n0 ≤ h61.size := (Nat.le_trans Z52 (Keep.of_wr W61).1)
  have N61 := Fr.snoc X61 N57 g12
  obtain ⟨Lh61, X61, N61⟩ := own_hide X61 N61
  have V61 : Arv Z h61 bR4 k4 (.object "java/lang/Object") (8 : Int32) [(.ref pR801), (.ref pR802), (.ref pR802), (.ref pR802), (.ref pR802), .null, .null, .null] .null := Arv.set Arq58 Akq58 Asq58 Anq58 Ahq58 Agq58 rfl W61 4 rfl (Nat.le_of_ble_eq_true rfl)
  have c65 : Arv Z h61 pR1 pK2 (.object "java/lang/Integer") (8 : Int32) [(.ref pR801), (.ref pR802), (.ref pR802), (.ref pR802), (.ref pR802), (.ref pR802), (.ref pR802), (.ref pR802)] .null := c54.other W61 (Nat.ne_of_lt (Nat.lt_of_lt_of_le V_pR1.lt (Nat.le_of_eq g4.symm)))
  obtain ⟨clq64, Arq64, Akq64, Asq64, Anq64, Ahq64, Agq64⟩ := id c65
  obtain ⟨clq66, Arq66, Akq66, Asq66, Anq66, Ahq66, Agq66⟩ := id c65
  have hin67 : ¬ ((5 : Int32) < 0 ∨ clq66.slots.size ≤ ((5 : Int32)).toNatClampNeg) := inb_of Asq66 ⟨by decide, by decide⟩
  obtain ⟨_, _, ⟨T68, L68, k68, n68⟩, -, X68, ⟨Lc68, hQ68, l68, y68, z68⟩, st68⟩ := Jvm.LawKit.callS X61 hx (y := yN5) hown (mvT hZ (ow hw 36 rfl)) (mvT hZ (ow hw 37 rfl)) (mvT hZ (ow hw 38 rfl)) (mvT hZ (ow hw 39 rfl)) (by decide) (backOf (W := 2) (rnn l Z a0 hw [] pR802 h61 n0 Z63 ) hZ (ow hw 39 rfl) (ow hw 38 rfl) (by decide) (by decide)) (g := (mkF m 19 #[.val (.ref pR1), .val (.ref bR4), .val (.int 5)] [(.ref pR802), (.int 5), (.ref bR4)])) rfl (by rw [hml]; rfl) (argsL := [(.ref pR802)]) (rest := [(.int 5), (.ref bR4)]) (lenOf pd_2 rfl) rfl (Nat.le_refl _) (hb hby d6_19) (fun _ _ => ⟨rfl, e61, (by decide : 1 + 0 ≤ _), (by decide : 8 + 0 ≤ _)⟩)
  dsimp only [Pt.U, Pt.locs, Pt.cells, Pt.slots] at X68 l68 y68 z68 st68 hQ68
  subst l68 y68 z68
  obtain ⟨rfl, Nq68, e68⟩ := hQ68
  have N68 := Fr.app N61 Nq68
  obtain ⟨clq69, Arq69, Akq69, Asq69, Anq69, Ahq69, Agq69⟩ := id V61
  have hin70 : ¬ ((5 : Int32) < 0 ∨ clq69.slots.size ≤ ((5 : Int32)).toNatClampNeg) := inb_of Asq69 ⟨by decide, by decide⟩
  have c71 : Exa Z h61 pR802 "java/lang/Integer" := c60.wr W61
  obtain ⟨T72, h72, X72, e72, W72, st72⟩ := stR X68 hx hZ e68 Arq69 (j := (5 : Int32)) hin70 rfl (Sto.ofV Arq69 Akq69 O4 (Ins.of_exa c71 (ow hw 40 rfl))) (g := (mkF m 22 #[.val (.ref pR1), .val (.ref bR4), .val (.int 5)] [(.ref pR802), (.int 5), (.ref bR4)])) rfl rfl (hb hby d6_22)
  have K73 : Keep h0 h72 [] := K62.wr W72 (Or.inr (Nat.le_of_eq g4.symm))
  have Z74 : n0 ≤ h72.size := (Nat.le_trans Z63 (Keep.of_wr W72).1)
  have N72 := Fr.snoc X72 N68 g12
  obtain ⟨Lh72, X72, N72⟩ := own_hide X72 N72
  have V72 : Arv Z h72 bR4 k4 (.object "java/lang/Object") (8 : Int32) [(.ref pR801), (.ref pR802), (.ref pR802), (.ref pR802), (.ref pR802), (.ref pR802), .null, .null] .null := Arv.set Arq69 Akq69 Asq69 Anq69 Ahq69 Agq69 rfl W72 5 rfl (Nat.le_of_ble_eq_true rfl)
  have c76 : Arv Z h72 pR1 pK2 (.object "java/lang/Integer") (8 : Int32) [(.ref pR801), (.ref pR802), (.ref pR802), (.ref pR802), (.ref pR802), (.ref pR802), (.ref pR802), (.ref pR802)] .null := c65.other W72 (Nat.ne_of_lt (Nat.lt_of_lt_of_le V_pR1.lt (Nat.le_of_eq g4.symm)))
  obtain ⟨clq75, Arq75, Akq75, Asq75, Anq75, Ahq75, Agq75⟩ := id c76
  obtain ⟨clq77, Arq77, Akq77, Asq77, Anq77, Ahq77, Agq77⟩ := id c76
  have hin78 : ¬ ((6 : Int32) < 0 ∨ clq77.slots.size ≤ ((6 : Int32)).toNatClampNeg) := inb_of Asq77 ⟨by decide, by decide⟩
  obtain ⟨_, _, ⟨T79, L79, k79, n79⟩, -, X79, ⟨Lc79, hQ79, l79, y79, z79⟩, st79⟩ := Jvm.LawKit.callS X72 hx (y := yN5) hown (mvT hZ (ow hw 36 rfl)) (mvT hZ (ow hw 37 rfl)) (mvT hZ (ow hw 38 rfl)) (mvT hZ (ow hw 39 rfl)) (by decide) (backOf (W := 2) (rnn l Z a0 hw [] pR802 h72 n0 Z74 ) hZ (ow hw 39 rfl) (ow hw 38 rfl) (by decide) (by decide)) (g := (mkF m 19 #[.val (.ref pR1), .val (.ref bR4), .val (.int 6)] [(.ref pR802), (.int 6), (.ref bR4)])) rfl (by rw [hml]; rfl) (argsL := [(.ref pR802)]) (rest := [(.int 6), (.ref bR4)]) (lenOf pd_2 rfl) rfl (Nat.le_refl _) (hb hby d6_19) (fun _ _ => ⟨rfl, e72, (by decide : 1 + 0 ≤ _), (by decide : 8 + 0 ≤ _)⟩)
  dsimp only [Pt.U, Pt.locs, Pt.cells, Pt.slots] at X79 l79 y79 z79 st79 hQ79
  subst l79 y79 z79
  obtain ⟨rfl, Nq79, e79⟩ := hQ79
  have N79 := Fr.app N72 Nq79
  obtain ⟨clq80, Arq80, Akq80, Asq80, Anq80, Ahq80, Agq80⟩ := id V72
  have hin81 : ¬ ((6 : Int32) < 0 ∨ clq80.slots.size ≤ ((6 : Int32)).toNatClampNeg) := inb_of Asq80 ⟨by decide, by decide⟩
  have c82 : Exa Z h72 pR802 "java/lang/Integer" := c71.wr W72
  obtain ⟨T83, h83, X83, e83, W83, st83⟩ := stR X79 hx hZ e79 Arq80 (j := (6 : Int32)) hin81 rfl (Sto.ofV Arq80 Akq80 O4 (Ins.of_exa c82 (ow hw 40 rfl))) (g := (mkF m 22 #[.val (.ref pR1), .val (.ref bR4), .val (.int 6)] [(.ref pR802), (.int 6), (.ref bR4)])) rfl rfl (hb hby d6_22)
  have K84 : Keep h0 h83 [] := K73.wr W83 (Or.inr (Nat.le_of_eq g4.symm))
  have Z85 : n0 ≤ h83.size := (Nat.le_trans Z74 (Keep.of_wr W83).1)
  have N83 := Fr.snoc X83 N79 g12
  obtain ⟨Lh83, X83, N83⟩ := own_hide X83 N83
  have V83 : Arv Z h83 bR4 k4 (.object "java/lang/Object") (8 : Int32) [(.ref pR801), (.ref pR802), (.ref pR802), (.ref pR802), (.ref pR802), (.ref pR802), (.ref pR802), .null] .null := Arv.set Arq80 Akq80 Asq80 Anq80 Ahq80 Agq80 rfl W83 6 rfl (Nat.le_of_ble_eq_true rfl)
  have c87 : Arv Z h83 pR1 pK2 (.object "java/lang/Integer") (8 : Int32) [(.ref pR801), (.ref pR802), (.ref pR802), (.ref pR802), (.ref pR802), (.ref pR802), (.ref pR802), (.ref pR802)] .null := c76.other W83 (Nat.ne_of_lt (Nat.lt_of_lt_of_le V_pR1.lt (Nat.le_of_eq g4.symm)))
  obtain ⟨clq86, Arq86, Akq86, Asq86, Anq86, Ahq86, Agq86⟩ := id c87
  obtain ⟨clq88, Arq88, Akq88, Asq88, Anq88, Ahq88, Agq88⟩ := id c87
  have hin89 : ¬ ((7 : Int32) < 0 ∨ clq88.slots.size ≤ ((7 : Int32)).toNatClampNeg) := inb_of Asq88 ⟨by decide, by decide⟩
  obtain ⟨_, _, ⟨T90, L90, k90, n90⟩, -, X90, ⟨Lc90, hQ90, l90, y90, z90⟩, st90⟩ := Jvm.LawKit.callS X83 hx (y := yN5) hown (mvT hZ (ow hw 36 rfl)) (mvT hZ (ow hw 37 rfl)) (mvT hZ (ow hw 38 rfl)) (mvT hZ (ow hw 39 rfl)) (by decide) (backOf (W := 2) (rnn l Z a0 hw [] pR802 h83 n0 Z85 ) hZ (ow hw 39 rfl) (ow hw 38 rfl) (by decide) (by decide)) (g := (mkF m 19 #[.val (.ref pR1), .val (.ref bR4), .val (.int 7)] [(.ref pR802), (.int 7), (.ref bR4)])) rfl (by rw [hml]; rfl) (argsL := [(.ref pR802)]) (rest := [(.int 7), (.ref bR4)]) (lenOf pd_2 rfl) rfl (Nat.le_refl _) (hb hby d6_19) (fun _ _ => ⟨rfl, e83, (by decide : 1 + 0 ≤ _), (by decide : 8 + 0 ≤ _)⟩)
  dsimp only [Pt.U, Pt.locs, Pt.cells, Pt.slots] at X90 l90 y90 z90 st90 hQ90
  subst l90 y90 z90
  obtain ⟨rfl, Nq90, e90⟩ := hQ90
  have N90 := Fr.app N83 Nq90
  obtain ⟨clq91, Arq91, Akq91, Asq91, Anq91, Ahq91, Agq91⟩ := id V83
  have hin92 : ¬ ((7 : Int32) < 0 ∨ clq91.slots.size ≤ ((7 : Int32)).toNatClampNeg) := inb_of Asq91 ⟨by decide, by decide⟩
  have c93 : Exa Z h83 pR802 "java/lang/Integer" := c82.wr W83
  obtain ⟨T94, h94, X94, e94, W94, st94⟩ := stR X90 hx hZ e90 Arq91 (j := (7 : Int32)) hin92 rfl (Sto.ofV Arq91 Akq91 O4 (Ins.of_exa c93 (ow hw 40 rfl))) (g := (mkF m 22 #[.val (.ref pR1), .val (.ref bR4), .val (.int 7)] [(.ref pR802), (.int 7), (.ref bR4)])) rfl rfl (hb hby d6_22)
  have K95 : Keep h0 h94 [] := K84.wr W94 (Or.inr (Nat.le_of_eq g4.symm))
  have Z96 : n0 ≤ h94.size := (Nat.le_trans Z85 (Keep.of_wr W94).1)
  have N94 := Fr.snoc X94 N90 g12
  obtain ⟨Lh94, X94, N94⟩ := own_hide X94 N94
  have V94 : Arv Z h94 bR4 k4 (.object "java/lang/Object") (8 : Int32) [(.ref pR801), (.ref pR802), (.ref pR802), (.ref pR802), (.ref pR802), (.ref pR802), (.ref pR802), (.ref pR802)] .null := Arv.set Arq91 Akq91 Asq91 Anq91 Ahq91 Agq91 rfl W94 7 rfl (Nat.le_of_ble_eq_true rfl)
  have c98 : Arv Z h94 pR1 pK2 (.object "java/lang/Integer") (8 : Int32) [(.ref pR801), (.ref pR802), (.ref pR802), (.ref pR802), (.ref pR802), (.ref pR802), (.ref pR802), (.ref pR802)] .null := c87.other W94 (Nat.ne_of_lt (Nat.lt_of_lt_of_le V_pR1.lt (Nat.le_of_eq g4.symm)))
  obtain ⟨clq97, Arq97, Akq97, Asq97, Anq97, Ahq97, Agq97⟩ := id c98
  obtain ⟨T99, h99, X99, e99, E99, A99, D99, U99, st99⟩ := newO X94 hx hZ hown (ow hw 41 rfl) (ow hw 42 rfl) (ow hw 43 rfl) e94 (g := (mkF m 29 #[.val (.ref pR1), .val (.ref bR4), .val (.int 8)] [])) rfl (hb hby d6_29) (by decide) (by decide)
  obtain ⟨bR99, g99⟩ : ∃ z, z = h94.size := ⟨_, rfl⟩
  rw [← g99] at A99 D99 U99 st99
  have K100 : Keep h0 h99 [] := K95.ext E99
  have Z101 : n0 ≤ h99.size := (Nat.le_trans Z96 E99.1)
  have F102 : Fld Z h99 bR99 "java/util/ImmutableCollections$ListN" "elements" "[Ljava/lang/Object;" .null := D99 (Or.inr (ow hw 70 rfl)) (ty := (.array (.object "java/lang/Object"))) (by decide)
  have F103 : Fld Z h99 bR99 "java/util/ImmutableCollections$ListN" "allowNulls" "Z" (.int 0) := D99 (Or.inr (ow hw 72 rfl)) (ty := .boolean) (by decide)
  have g104 : n0 ≤ bR99 := Nat.le_trans Z96 (Nat.le_of_eq g99.symm)
  obtain ⟨_, _, ⟨T105, L105, k105, n105⟩, -, X105, ⟨Lc105, hQ105, l105, y105, z105⟩, st105⟩ := X99.specialBackNest hx (y := yN9) rfl hown (own_mvM hZ (ow hw 44 rfl)) (mvT hZ (ow hw 45 rfl)) (mvT hZ (ow hw 47 rfl)) (by decide) (backOf (W := 1) (lnI l Z a0 hw [] bR99 bR4 h99 n0 Z101 A99 F102 g104 F103) hZ (ow hw 47 rfl) (ow hw 43 rfl) (by decide) (by decide)) (g := (mkF m 35 #[.val (.ref pR1), .val (.ref bR4), .val (.int 8)] [(.int 0), (.ref bR4), (.ref bR99), (.ref bR99)])) rfl (by rw [hml]; rfl) (Steps.refl _) (a := bR99) (argsL := [(.ref bR4), (.int 0)]) (rest := [(.ref bR99)]) (lenOf pd_9 rfl) rfl (Nat.le_refl _) (hb hby d6_35) (fun _ _ => ⟨rfl, e99, (by decide : 2 + 0 ≤ _), (by decide : 10 + 0 ≤ _)⟩)
  dsimp only [Pt.U, Pt.locs, Pt.cells, Pt.slots] at X105 l105 y105 z105 st105 hQ105
  subst l105 y105 z105
  obtain ⟨rfl, Nq105, Kq105, x105_0, x105_1, x105_2⟩ := hQ105
  have N105 := Fr.app N94 Nq105
  obtain ⟨Lh105, X105, N105⟩ := own_hide X105 N105
  have K106 : Keep h0 T105.heap [] := K100.trans Kq105 (allS (Or.inr (Nat.le_trans K95.1 (Nat.le_of_eq g99.symm))) all0)
  have Z107 : n0 ≤ T105.heap.size := (Nat.le_trans Z101 Kq105.1)
  have c108 : Arv Z h99 bR4 k4 (.object "java/lang/Object") (8 : Int32) [(.ref pR801), (.ref pR802), (.ref pR802), (.ref pR802), (.ref pR802), (.ref pR802), (.ref pR802), (.ref pR802)] .null := V94.ext E99
  have c109 : Arv Z T105.heap bR4 k4 (.object "java/lang/Object") (8 : Int32) [(.ref pR801), (.ref pR802), (.ref pR802), (.ref pR802), (.ref pR802), (.ref pR802), (.ref pR802), (.ref pR802)] .null := c108.keep Kq105 (ninS (Nat.ne_of_lt (Nat.lt_of_lt_of_le V94.lt (Nat.le_of_eq g99.symm))) nin0)
  obtain ⟨fs, hr, hrun, hended, hW, hsame⟩ := X105.leave (v := some (.ref bR99)) (fun h => by rw [Bd.returns] at h; cases h)
  refine ⟨_, _, castTop (ef_lfa8 m pR1) ?_, hrun, hended, _, _, rfl, ?_, ⟨_, rfl⟩, hW, hsame.mono (by decide) (by decide)⟩
  · show oS p e below s₁ m 0 #[.val (.ref pR1), .unset, .unset] [] _
    refine XS.aloadN X0.here hx rfl (hb hby d6_0) rfl rfl ?_
    refine X0.arraylength hx (by rw [e0]; exact Arq3.1) (State.isArrayOf_alike hZ.alike Arq3.2.1) (g := (mkF m 1 #[.val (.ref pR1), .unset, .unset] [(.ref pR1)])) rfl rfl (hb hby d6_1) _ ?_
    rw [len_of Asq3 Anq3]
    refine st4 _ ?_
    refine XS.astoreN X4.here hx rfl (hb hby d6_5) rfl rfl (l' := #[.val (.ref pR1), .val (.ref bR4), .unset]) rfl ?_
    refine XS.iconst X4.here hx rfl (hb hby d6_6) ?_
    refine XS.istoreN X4.here hx rfl (hb hby d6_7) rfl (l' := #[.val (.ref pR1), .val (.ref bR4), .val (.int 0)]) rfl ?_
    refine XS.iloadN X4.here hx rfl (hb hby d6_8) rfl ?_
    refine XS.aloadN X4.here hx rfl (hb hby d6_9) rfl rfl ?_
    show oS p e below T4 m 10 #[.val (.ref pR1), .val (.ref bR4), .val (.int 0)] [(.ref pR1), (.int 0)] _
    refine X4.arraylength hx (by rw [e4]; exact Arq7.1) (State.isArrayOf_alike hZ.alike Arq7.2.1) (g := (mkF m 10 #[.val (.ref pR1), .val (.ref bR4), .val (.int 0)] [(.ref pR1), (.int 0)])) rfl rfl (hb hby d6_10) _ ?_
    rw [len_of Asq7 Anq7]
    refine XS.icmpNo X4.here hx rfl (hb hby d6_11) rfl (tlt (by decide : (0 : Int32) < (8 : Int32))).2.1 ?_
    refine XS.aloadN X4.here hx rfl (hb hby d6_14) rfl rfl ?_
    refine XS.iloadN X4.here hx rfl (hb hby d6_15) rfl ?_
    refine XS.aloadN X4.here hx rfl (hb hby d6_16) rfl rfl ?_
    refine XS.iloadN X4.here hx rfl (hb hby d6_17) rfl ?_
    refine X4.aaload hx (j := (0 : Int32)) (v := (.ref pR801)) (by rw [e4]; exact Arq9.1) (State.isArrayOf_alike hZ.alike Arq9.2.1) rfl Arq9.2.2 hin10 (Has.at Ahq9 hin10 rfl) (g := (mkF m 18 #[.val (.ref pR1), .val (.ref bR4), .val (.int 0)] [(.int 0), (.ref pR1), (.int 0), (.ref bR4)])) rfl rfl (hb hby d6_18) _ ?_
    refine st11 _ ?_
    show oS p e below T11 m 22 #[.val (.ref pR1), .val (.ref bR4), .val (.int 0)] [(.ref pR801), (.int 0), (.ref bR4)] _
    refine st16 _ ?_
    refine XS.iinc X16.here hx rfl (hb hby d6_23) rfl (l' := #[.val (.ref pR1), .val (.ref bR4), .val (.int 1)]) rfl ?_
    refine XS.goto X16.here hx rfl (pc0 := 26) (pc' := 8) rfl (hb hby d6_26) (by decide) (by decide) ?_
    refine XS.iloadN X16.here hx rfl (hb hby d6_8) rfl ?_
    refine XS.aloadN X16.here hx rfl (hb hby d6_9) rfl rfl ?_
    refine X16.arraylength hx (by rw [e16]; exact Arq19.1) (State.isArrayOf_alike hZ.alike Arq19.2.1) (g := (mkF m 10 #[.val (.ref pR1), .val (.ref bR4), .val (.int 1)] [(.ref pR1), (.int 1)])) rfl rfl (hb hby d6_10) _ ?_
    rw [len_of Asq19 Anq19]
    refine XS.icmpNo X16.here hx rfl (hb hby d6_11) rfl (tlt (by decide : (1 : Int32) < (8 : Int32))).2.1 ?_
    refine XS.aloadN X16.here hx rfl (hb hby d6_14) rfl rfl ?_
    show oS p e below T16 m 15 #[.val (.ref pR1), .val (.ref bR4), .val (.int 1)] [(.ref bR4)] _
    refine XS.iloadN X16.here hx rfl (hb hby d6_15) rfl ?_
    refine XS.aloadN X16.here hx rfl (hb hby d6_16) rfl rfl ?_
    refine XS.iloadN X16.here hx rfl (hb hby d6_17) rfl ?_
    refine X16.aaload hx (j := (1 : Int32)) (v := (.ref pR802)) (by rw [e16]; exact Arq21.1) (State.isArrayOf_alike hZ.alike Arq21.2.1) rfl Arq21.2.2 hin22 (Has.at Ahq21 hin22 rfl) (g := (mkF m 18 #[.val (.ref pR1), .val (.ref bR4), .val (.int 1)] [(.int 1), (.ref pR1), (.int 1), (.ref bR4)])) rfl rfl (hb hby d6_18) _ ?_
    refine st23 _ ?_
    refine st28 _ ?_
    refine XS.iinc X28.here hx rfl (hb hby d6_23) rfl (l' := #[.val (.ref pR1), .val (.ref bR4), .val (.int 2)]) rfl ?_
    refine XS.goto X28.here hx rfl (pc0 := 26) (pc' := 8) rfl (hb hby d6_26) (by decide) (by decide) ?_
    show oS p e below T28 m 8 #[.val (.ref pR1), .val (.ref bR4), .val (.int 2)] [] _
    refine XS.iloadN X28.here hx rfl (hb hby d6_8) rfl ?_
    refine XS.aloadN X28.here hx rfl (hb hby d6_9) rfl rfl ?_
    refine X28.arraylength hx (by rw [e28]; exact Arq31.1) (State.isArrayOf_alike hZ.alike Arq31.2.1) (g := (mkF m 10 #[.val (.ref pR1), .val (.ref bR4), .val (.int 2)] [(.ref pR1), (.int 2)])) rfl rfl (hb hby d6_10) _ ?_
    rw [len_of Asq31 Anq31]
    refine XS.icmpNo X28.here hx rfl (hb hby d6_11) rfl (tlt (by decide : (2 : Int32) < (8 : Int32))).2.1 ?_
    refine XS.aloadN X28.here hx rfl (hb hby d6_14) rfl rfl ?_
    refine XS.iloadN X28.here hx rfl (hb hby d6_15) rfl ?_
    refine XS.aloadN X28.here hx rfl (hb hby d6_16) rfl rfl ?_
    refine XS.iloadN X28.here hx rfl (hb hby d6_17) rfl ?_
    show oS p e below T28 m 18 #[.val (.ref pR1), .val (.ref bR4), .val (.int 2)] [(.int 2), (.ref pR1), (.int 2), (.ref bR4)] _
    refine X28.aaload hx (j := (2 : Int32)) (v := (.ref pR802)) (by rw [e28]; exact Arq33.1) (State.isArrayOf_alike hZ.alike Arq33.2.1) rfl Arq33.2.2 hin34 (Has.at Ahq33 hin34 rfl) (g := (mkF m 18 #[.val (.ref pR1), .val (.ref bR4), .val (.int 2)] [(.int 2), (.ref pR1), (.int 2), (.ref bR4)])) rfl rfl (hb hby d6_18) _ ?_
    refine st35 _ ?_
    refine st39 _ ?_
    refine XS.iinc X39.here hx rfl (hb hby d6_23) rfl (l' := #[.val (.ref pR1), .val (.ref bR4), .val (.int 3)]) rfl ?_
    refine XS.goto X39.here hx rfl (pc0 := 26) (pc' := 8) rfl (hb hby d6_26) (by decide) (by decide) ?_
    refine XS.iloadN X39.here hx rfl (hb hby d6_8) rfl ?_
    refine XS.aloadN X39.here hx rfl (hb hby d6_9) rfl rfl ?_
    refine X39.arraylength hx (by rw [e39]; exact Arq42.1) (State.isArrayOf_alike hZ.alike Arq42.2.1) (g := (mkF m 10 #[.val (.ref pR1), .val (.ref bR4), .val (.int 3)] [(.ref pR1), (.int 3)])) rfl rfl (hb hby d6_10) _ ?_
    rw [len_of Asq42 Anq42]
    show oS p e below T39 m 11 #[.val (.ref pR1), .val (.ref bR4), .val (.int 3)] [(.int 8), (.int 3)] _
    refine XS.icmpNo X39.here hx rfl (hb hby d6_11) rfl (tlt (by decide : (3 : Int32) < (8 : Int32))).2.1 ?_
    refine XS.aloadN X39.here hx rfl (hb hby d6_14) rfl rfl ?_
    refine XS.iloadN X39.here hx rfl (hb hby d6_15) rfl ?_
    refine XS.aloadN X39.here hx rfl (hb hby d6_16) rfl rfl ?_
    refine XS.iloadN X39.here hx rfl (hb hby d6_17) rfl ?_
    refine X39.aaload hx (j := (3 : Int32)) (v := (.ref pR802)) (by rw [e39]; exact Arq44.1) (State.isArrayOf_alike hZ.alike Arq44.2.1) rfl Arq44.2.2 hin45 (Has.at Ahq44 hin45 rfl) (g := (mkF m 18 #[.val (.ref pR1), .val (.ref bR4), .val (.int 3)] [(.int 3), (.ref pR1), (.int 3), (.ref bR4)])) rfl rfl (hb hby d6_18) _ ?_
    refine st46 _ ?_
    refine st50 _ ?_
    show oS p e below T50 m 23 #[.val (.ref pR1), .val (.ref bR4), .val (.int 3)] [] _
    refine XS.iinc X50.here hx rfl (hb hby d6_23) rfl (l' := #[.val (.ref pR1), .val (.ref bR4), .val (.int 4)]) rfl ?_
    refine XS.goto X50.here hx rfl (pc0 := 26) (pc' := 8) rfl (hb hby d6_26) (by decide) (by decide) ?_
    refine XS.iloadN X50.here hx rfl (hb hby d6_8) rfl ?_
    refine XS.aloadN X50.here hx rfl (hb hby d6_9) rfl rfl ?_
    refine X50.arraylength hx (by rw [e50]; exact Arq53.1) (State.isArrayOf_alike hZ.alike Arq53.2.1) (g := (mkF m 10 #[.val (.ref pR1), .val (.ref bR4), .val (.int 4)] [(.ref pR1), (.int 4)])) rfl rfl (hb hby d6_10) _ ?_
    rw [len_of Asq53 Anq53]
    refine XS.icmpNo X50.here hx rfl (hb hby d6_11) rfl (tlt (by decide : (4 : Int32) < (8 : Int32))).2.1 ?_
    refine XS.aloadN X50.here hx rfl (hb hby d6_14) rfl rfl ?_
    refine XS.iloadN X50.here hx rfl (hb hby d6_15) rfl ?_
    show oS p e below T50 m 16 #[.val (.ref pR1), .val (.ref bR4), .val (.int 4)] [(.int 4), (.ref bR4)] _
    refine XS.aloadN X50.here hx rfl (hb hby d6_16) rfl rfl ?_
    refine XS.iloadN X50.here hx rfl (hb hby d6_17) rfl ?_
    refine X50.aaload hx (j := (4 : Int32)) (v := (.ref pR802)) (by rw [e50]; exact Arq55.1) (State.isArrayOf_alike hZ.alike Arq55.2.1) rfl Arq55.2.2 hin56 (Has.at Ahq55 hin56 rfl) (g := (mkF m 18 #[.val (.ref pR1), .val (.ref bR4), .val (.int 4)] [(.int 4), (.ref pR1), (.int 4), (.ref bR4)])) rfl rfl (hb hby d6_18) _ ?_
    refine st57 _ ?_
    refine st61 _ ?_
    refine XS.iinc X61.here hx rfl (hb hby d6_23) rfl (l' := #[.val (.ref pR1), .val (.ref bR4), .val (.int 5)]) rfl ?_
    refine XS.goto X61.here hx rfl (pc0 := 26) (pc' := 8) rfl (hb hby d6_26) (by decide) (by decide) ?_
    refine XS.iloadN X61.here hx rfl (hb hby d6_8) rfl ?_
    show oS p e below T61 m 9 #[.val (.ref pR1), .val (.ref bR4), .val (.int 5)] [(.int 5)] _
    refine XS.aloadN X61.here hx rfl (hb hby d6_9) rfl rfl ?_
    refine X61.arraylength hx (by rw [e61]; exact Arq64.1) (State.isArrayOf_alike hZ.alike Arq64.2.1) (g := (mkF m 10 #[.val (.ref pR1), .val (.ref bR4), .val (.int 5)] [(.ref pR1), (.int 5)])) rfl rfl (hb hby d6_10) _ ?_
    rw [len_of Asq64 Anq64]
    refine XS.icmpNo X61.here hx rfl (hb hby d6_11) rfl (tlt (by decide : (5 : Int32) < (8 : Int32))).2.1 ?_
    refine XS.aloadN X61.here hx rfl (hb hby d6_14) rfl rfl ?_
    refine XS.iloadN X61.here hx rfl (hb hby d6_15) rfl ?_
    refine XS.aloadN X61.here hx rfl (hb hby d6_16) rfl rfl ?_
    refine XS.iloadN X61.here hx rfl (hb hby d6_17) rfl ?_
    refine X61.aaload hx (j := (5 : Int32)) (v := (.ref pR802)) (by rw [e61]; exact Arq66.1) (State.isArrayOf_alike hZ.alike Arq66.2.1) rfl Arq66.2.2 hin67 (Has.at Ahq66 hin67 rfl) (g := (mkF m 18 #[.val (.ref pR1), .val (.ref bR4), .val (.int 5)] [(.int 5), (.ref pR1), (.int 5), (.ref bR4)])) rfl rfl (hb hby d6_18) _ ?_
    show oS p e below T61 m 19 #[.val (.ref pR1), .val (.ref bR4), .val (.int 5)] [(.ref pR802), (.int 5), (.ref bR4)] _
    refine st68 _ ?_
    refine st72 _ ?_
    refine XS.iinc X72.here hx rfl (hb hby d6_23) rfl (l' := #[.val (.ref pR1), .val (.ref bR4), .val (.int 6)]) rfl ?_
    refine XS.goto X72.here hx rfl (pc0 := 26) (pc' := 8) rfl (hb hby d6_26) (by decide) (by decide) ?_
    refine XS.iloadN X72.here hx rfl (hb hby d6_8) rfl ?_
    refine XS.aloadN X72.here hx rfl (hb hby d6_9) rfl rfl ?_
    refine X72.arraylength hx (by rw [e72]; exact Arq75.1) (State.isArrayOf_alike hZ.alike Arq75.2.1) (g := (mkF m 10 #[.val (.ref pR1), .val (.ref bR4), .val (.int 6)] [(.ref pR1), (.int 6)])) rfl rfl (hb hby d6_10) _ ?_
    rw [len_of Asq75 Anq75]
    refine XS.icmpNo X72.here hx rfl (hb hby d6_11) rfl (tlt (by decide : (6 : Int32) < (8 : Int32))).2.1 ?_
    show oS p e below T72 m 14 #[.val (.ref pR1), .val (.ref bR4), .val (.int 6)] [] _
    refine XS.aloadN X72.here hx rfl (hb hby d6_14) rfl rfl ?_
    refine XS.iloadN X72.here hx rfl (hb hby d6_15) rfl ?_
    refine XS.aloadN X72.here hx rfl (hb hby d6_16) rfl rfl ?_
    refine XS.iloadN X72.here hx rfl (hb hby d6_17) rfl ?_
    refine X72.aaload hx (j := (6 : Int32)) (v := (.ref pR802)) (by rw [e72]; exact Arq77.1) (State.isArrayOf_alike hZ.alike Arq77.2.1) rfl Arq77.2.2 hin78 (Has.at Ahq77 hin78 rfl) (g := (mkF m 18 #[.val (.ref pR1), .val (.ref bR4), .val (.int 6)] [(.int 6), (.ref pR1), (.int 6), (.ref bR4)])) rfl rfl (hb hby d6_18) _ ?_
    refine st79 _ ?_
    refine st83 _ ?_
    refine XS.iinc X83.here hx rfl (hb hby d6_23) rfl (l' := #[.val (.ref pR1), .val (.ref bR4), .val (.int 7)]) rfl ?_
    show oS p e below T83 m 26 #[.val (.ref pR1), .val (.ref bR4), .val (.int 7)] [] _
    refine XS.goto X83.here hx rfl (pc0 := 26) (pc' := 8) rfl (hb hby d6_26) (by decide) (by decide) ?_
    refine XS.iloadN X83.here hx rfl (hb hby d6_8) rfl ?_
    refine XS.aloadN X83.here hx rfl (hb hby d6_9) rfl rfl ?_
    refine X83.arraylength hx (by rw [e83]; exact Arq86.1) (State.isArrayOf_alike hZ.alike Arq86.2.1) (g := (mkF m 10 #[.val (.ref pR1), .val (.ref bR4), .val (.int 7)] [(.ref pR1), (.int 7)])) rfl rfl (hb hby d6_10) _ ?_
    rw [len_of Asq86 Anq86]
    refine XS.icmpNo X83.here hx rfl (hb hby d6_11) rfl (tlt (by decide : (7 : Int32) < (8 : Int32))).2.1 ?_
    refine XS.aloadN X83.here hx rfl (hb hby d6_14) rfl rfl ?_
    refine XS.iloadN X83.here hx rfl (hb hby d6_15) rfl ?_
    refine XS.aloadN X83.here hx rfl (hb hby d6_16) rfl rfl ?_
    show oS p e below T83 m 17 #[.val (.ref pR1), .val (.ref bR4), .val (.int 7)] [(.ref pR1), (.int 7), (.ref bR4)] _
    refine XS.iloadN X83.here hx rfl (hb hby d6_17) rfl ?_
    refine X83.aaload hx (j := (7 : Int32)) (v := (.ref pR802)) (by rw [e83]; exact Arq88.1) (State.isArrayOf_alike hZ.alike Arq88.2.1) rfl Arq88.2.2 hin89 (Has.at Ahq88 hin89 rfl) (g := (mkF m 18 #[.val (.ref pR1), .val (.ref bR4), .val (.int 7)] [(.int 7), (.ref pR1), (.int 7), (.ref bR4)])) rfl rfl (hb hby d6_18) _ ?_
    refine st90 _ ?_
    refine st94 _ ?_
    refine XS.iinc X94.here hx rfl (hb hby d6_23) rfl (l' := #[.val (.ref pR1), .val (.ref bR4), .val (.int 8)]) rfl ?_
    refine XS.goto X94.here hx rfl (pc0 := 26) (pc' := 8) rfl (hb hby d6_26) (by decide) (by decide) ?_
    refine XS.iloadN X94.here hx rfl (hb hby d6_8) rfl ?_
    refine XS.aloadN X94.here hx rfl (hb hby d6_9) rfl rfl ?_
    show oS p e below T94 m 10 #[.val (.ref pR1), .val (.ref bR4), .val (.int 8)] [(.ref pR1), (.int 8)] _
    refine X94.arraylength hx (by rw [e94]; exact Arq97.1) (State.isArrayOf_alike hZ.alike Arq97.2.1) (g := (mkF m 10 #[.val (.ref pR1), .val (.ref bR4), .val (.int 8)] [(.ref pR1), (.int 8)])) rfl rfl (hb hby d6_10) _ ?_
    rw [len_of Asq97 Anq97]
    refine XS.icmpYes X94.here hx rfl (pc0 := 11) (pc' := 29) rfl (hb hby d6_11) rfl (flt (by decide : ¬ ((8 : Int32) < (8 : Int32)))).2.1 (by decide) (by decide) ?_
    refine st99 _ ?_
    refine XS.dup X99.here hx rfl (hb hby d6_32) rfl rfl ?_
    refine XS.aloadN X99.here hx rfl (hb hby d6_33) rfl rfl ?_
    refine XS.iconst X99.here hx rfl (hb hby d6_34) ?_
    refine st105.trans ?_
    exact retOut X105 hx Bd.returns rfl (Or.inr (Or.inr (Or.inr (Or.inr ⟨rfl, rfl, rfl⟩)))) (hb hby d6_38) hr
  · show Qlfa8 Z pR1 pR801 pR802 pK2 h0 n0 _ T105.heap _
    exact ⟨bR4, bR99, k4, rfl, N105, K106, (Nat.le_of_eq g4.symm), (Nat.le_trans K95.1 (Nat.le_of_eq g99.symm)), c109, O4, x105_0, x105_1, x105_2⟩
theorem ef_of8 (m : MethodId) (pR1 : Addr) : entryFrame m #[(.ref pR1)] 2 = mkF m 0 #[.val (.ref pR1), .unset] [] := by first | (simp [entryFrame, mkF, argsToLocals, Value.category]; done) | rfl
def Qof8 (Z : State) (pR1 : Addr) (pR801 : Addr) (pR802 : Addr) (pK2 : ClassId) (h0 : Heap) (n0 : Nat) (v : Option Value) (h : Heap) (L : List Loc) : Prop := ∃ bR4_0 : Addr, ∃ bR4_1 : Addr, ∃ kK4_0 : ClassId, v = some (.ref bR4_1) ∧ Fr n0 L ∧ Keep h0 h [] ∧ h0.size ≤ bR4_0 ∧ h0.size ≤ bR4_1 ∧ Arv Z h bR4_0 kK4_0 (.object "java/lang/Object") (8 : Int32) [(.ref pR801), (.ref pR802), (.ref pR802), (.ref pR802), (.ref pR802), (.ref pR802), (.ref pR802), (.ref pR802)] .null ∧ Exa Z h bR4_1 "java/util/ImmutableCollections$ListN" ∧ Fld Z h bR4_1 "java/util/ImmutableCollections$ListN" "elements" "[Ljava/lang/Object;" (.ref bR4_0) ∧ Fld Z h bR4_1 "java/util/ImmutableCollections$ListN" "allowNulls" "Z" (.int 0)
set_option maxRecDepth 65536 in
set_option maxHeartbeats 40000000 in
theorem of8 (l : Launch) (Z : State) (a0 : Array Value) (hw : ∀ d ∈ tables_1, d.before a0 Z = true) (ws : List Jvm.Cond) (pR1 : Addr) (pR801 : Addr) (pR802 : Addr) (pK2 : ClassId) (h0 : Heap) (n0 : Nat) (Z0 : n0 ≤ h0.size) (V_pR1 : Arv Z h0 pR1 pK2 (.object "java/lang/Integer") (8 : Int32) [(.ref pR801), (.ref pR802), (.ref pR802), (.ref pR802), (.ref pR802), (.ref pR802), (.ref pR802), (.ref pR802)] .null) (E_pR801 : Exa Z h0 pR801 "java/lang/Integer") (E_pR802 : Exa Z h0 pR802 "java/lang/Integer") :
    oM l yN13 jdk_40_method_47_code 2 (some (.object "java/util/List")) ws ({ frames := 6, cells := 2, slots := 10, locals := 77 } : Room) #[(.ref pR1)] Z h0 (Qof8 Z pR1 pR801 pR802 pK2 h0 n0) := by
  refine MetFree.of_bodySF (plainFor_of_name pn_9) hisR ?_
  intro p e s m args below meth c s₁ Bd hml0 hP hK
  obtain ⟨rfl, hZ, hh⟩ := hP
  have hx := Bd.exec
  have hby := Bd.bytes
  have hml : c.maxLocals = 2 := hml0
  have hown : s.vm.findClass "java/util/List" = some m.cls := findClass_of_methodNamed Bd.named
  have hnm := (name_of_methodNamed Bd.named Bd.method).1
  have X0 : Stand p l e ({ frames := 6, cells := 2, slots := 10, locals := 77 } : Room) s m #[(.ref pR1)] below meth c s₁ [] 0 0 := Stand.of_body Bd
  have e0 : s₁.heap = h0 := by rw [← hh, Bd.state]; rfl
  have N0 := Fr.nil n0
  obtain ⟨clq3, Arq3, Akq3, Asq3, Anq3, Ahq3, Agq3⟩ := id V_pR1
  obtain ⟨_, _, ⟨T4, L4, k4, n4⟩, -, X4, ⟨Lc4, hQ4, l4, y4, z4⟩, st4⟩ := Jvm.LawKit.callS X0 hx (y := yN15) hown (mvT hZ (ow hw 30 rfl)) (mvT hZ (ow hw 31 rfl)) (mvT hZ (ow hw 32 rfl)) (mvT hZ (ow hw 33 rfl)) (by decide) (backOf (W := 0) (lfa8 l Z a0 hw [] pR1 pR801 pR802 pK2 h0 n0 Z0 V_pR1 E_pR801 E_pR802) hZ (ow hw 33 rfl) (ow hw 32 rfl) (by decide) (by decide)) (g := (mkF m 60 #[.val (.ref pR1), .unset] [(.ref pR1)])) rfl (by rw [hml]; rfl) (argsL := [(.ref pR1)]) (rest := []) (lenOf pd_7 rfl) rfl (Nat.le_refl _) (hb hby d5_60) (fun _ _ => ⟨rfl, e0, (by decide : 0 + 2 ≤ _), (by decide : 0 + 10 ≤ _)⟩)
  dsimp only [Pt.U, Pt.locs, Pt.cells, Pt.slots] at X4 l4 y4 z4 st4 hQ4
  subst l4 y4 z4
  obtain ⟨bR4_0, bR4_1, kK4_0, rfl, Nq4, Kq4, sz4_0, sz4_1, x4_0, x4_1, x4_2, x4_3, x4_4⟩ := hQ4
  have N4 := Fr.app N0 Nq4
  obtain ⟨Lh4, X4, N4⟩ := own_hide X4 N4
  have K5 : Keep h0 T4.heap [] := (Keep.refl h0 []).trans Kq4 all0
  have Z6 : n0 ≤ T4.heap.size := (Nat.le_trans Z0 Kq4.1)
  obtain ⟨fs, hr, hrun, hended, hW, hsame⟩ := X4.leave (v := some (.ref bR4_1)) (fun h => by rw [Bd.returns] at h; cases h)
  refine ⟨_, _, castTop (ef_of8 m pR1) ?_, hrun, hended, _, _, rfl, ?_, ⟨_, rfl⟩, hW, hsame.mono (by decide) (by decide)⟩
  · show oS p e below s₁ m 0 #[.val (.ref pR1), .unset] [] _
    refine XS.aloadN X0.here hx rfl (hb hby d5_0) rfl rfl ?_
    refine X0.arraylength hx (by rw [e0]; exact Arq3.1) (State.isArrayOf_alike hZ.alike Arq3.2.1) (g := (mkF m 1 #[.val (.ref pR1), .unset] [(.ref pR1)])) rfl rfl (hb hby d5_1) _ ?_
    rw [len_of Asq3 Anq3]
    refine XS.tswOut X0.here hx rfl (pc0 := 2) (pc' := 59) rfl (hb hby d5_2) rfl (by decide) (by decide) (by decide) ?_
    refine XS.aloadN X0.here hx rfl (hb hby d5_59) rfl rfl ?_
    refine st4 _ ?_
    exact retOut X4 hx Bd.returns rfl (Or.inr (Or.inr (Or.inr (Or.inr ⟨rfl, rfl, rfl⟩)))) (hb hby d5_63) hr
  · show Qof8 Z pR1 pR801 pR802 pK2 h0 n0 _ T4.heap _
    exact ⟨bR4_0, bR4_1, kK4_0, rfl, N4, K5, sz4_0, sz4_1, x4_0, x4_2, x4_3, x4_4⟩
theorem ef_eqs8 (m : MethodId) (pI1 : Int32) : entryFrame m #[(.int pI1), (.int 8)] 4 = mkF m 0 #[.val (.int pI1), .val (.int 8), .unset, .unset] [] := by first | (simp [entryFrame, mkF, argsToLocals, Value.category]; done) | rfl
def Qeqs8 (Z : State) (pI1 : Int32) (pR6 : Addr) (pC8 : Cell) (h0 : Heap) (n0 : Nat) (v : Option Value) (h : Heap) (L : List Loc) : Prop := ∃ bR41_0 : Addr, ∃ bR41_1 : Addr, ∃ bR10_0 : Addr, ∃ bR29_0 : Addr, ∃ kK41_0 : ClassId, v = some (.ref bR41_1) ∧ Fr n0 L ∧ Keep h0 h [] ∧ h0.size ≤ bR41_0 ∧ h0.size ≤ bR41_1 ∧ Exa Z h bR10_0 "java/lang/Integer" ∧ Fld Z h bR10_0 "java/lang/Integer" "value" "I" (.int (pI1 / (8 : Int32))) ∧ Exa Z h bR29_0 "java/lang/Integer" ∧ Fld Z h bR29_0 "java/lang/Integer" "value" "I" (.int ((pI1 / (8 : Int32)) + (pI1 % (8 : Int32)))) ∧ Arv Z h bR41_0 kK41_0 (.object "java/lang/Object") (8 : Int32) [(.ref bR29_0), (.ref bR10_0), (.ref bR10_0), (.ref bR10_0), (.ref bR10_0), (.ref bR10_0), (.ref bR10_0), (.ref bR10_0)] .null ∧ Exa Z h bR41_1 "java/util/ImmutableCollections$ListN" ∧ Fld Z h bR41_1 "java/util/ImmutableCollections$ListN" "elements" "[Ljava/lang/Object;" (.ref bR41_0) ∧ Fld Z h bR41_1 "java/util/ImmutableCollections$ListN" "allowNulls" "Z" (.int 0)
set_option maxRecDepth 65536 in
set_option maxHeartbeats 40000000 in
theorem eqs8 (l : Launch) (Z : State) (a0 : Array Value) (hw : ∀ d ∈ tables_1, d.before a0 Z = true) (ws : List Jvm.Cond) (pI1 : Int32) (pR6 : Addr) (pC8 : Cell) (h0 : Heap) (n0 : Nat) (Z0 : n0 ≤ h0.size) (S_Integer_IntegerCache_high : Sta Z h0 "java/lang/Integer$IntegerCache" "high" "I" (.int 127)) (S_Integer_IntegerCache_cache : Sta Z h0 "java/lang/Integer$IntegerCache" "cache" "[Ljava/lang/Integer;" (.ref pR6)) (B_pR6 : Bxs Z pR6 pC8 "java/lang/Integer" "I" (256 : Int32) (fun j => .int (j - 128))) (D0 : Old Z n0 h0) :
    oM l yN14 prog_51_method_10_code 4 (some (.object "java/util/List")) ws ({ frames := 7, cells := 5, slots := 20, locals := 90 } : Room) #[(.int pI1), (.int 8)] Z h0 (Qeqs8 Z pI1 pR6 pC8 h0 n0) := by
  refine MetFree.of_bodySF (plainFor_of_name pn_10) hisR ?_
  intro p e s m args below meth c s₁ Bd hml0 hP hK
  obtain ⟨rfl, hZ, hh⟩ := hP
  have hx := Bd.exec
  have hby := Bd.bytes
  have hml : c.maxLocals = 4 := hml0
  have hown : s.vm.findClass "com/example/watchful_junction/watchfuljunction/scenario/ProportionalSpec" = some m.cls := findClass_of_methodNamed Bd.named
  have hnm := (name_of_methodNamed Bd.named Bd.method).1
  have X0 : Stand p l e ({ frames := 7, cells := 5, slots := 20, locals := 90 } : Room) s m #[(.int pI1), (.int 8)] below meth c s₁ [] 0 0 := Stand.of_body Bd
  have e0 : s₁.heap = h0 := by rw [← hh, Bd.state]; rfl
  have N0 := Fr.nil n0
  obtain ⟨T2, h2, k2, X2, e2, E2, A2, O2, st2⟩ := newR X0 hx hZ hown (ow hw 5 rfl) (ow hw 6 rfl) e0 (g := (mkF m 1 #[.val (.int pI1), .val (.int 8), .unset, .unset] [(.int 8)])) rfl (hb hby d1_1) rfl (by decide) (cap := 8) (by decide) (by decide) (by decide) (by decide)
  obtain ⟨bR2, g2⟩ : ∃ z, z = h0.size := ⟨_, rfl⟩
  rw [← g2] at A2 st2
  have K3 : Keep h0 h2 [] := (Keep.refl h0 []).ext E2
  have Z4 : n0 ≤ h2.size := (Nat.le_trans Z0 E2.1)
  have V2 : Arv Z h2 bR2 k2 (.object "java/lang/Integer") (8 : Int32) [.null, .null, .null, .null, .null, .null, .null, .null] .null := (Arv.new A2 (by decide)).pad (pad_rep [] .null 8)
  have c5 : Sta Z h2 "java/lang/Integer$IntegerCache" "high" "I" (.int 127) := S_Integer_IntegerCache_high.ext E2
  have c7 : Sta Z h2 "java/lang/Integer$IntegerCache" "cache" "[Ljava/lang/Integer;" (.ref pR6) := S_Integer_IntegerCache_cache.ext E2
  have c9 : Old Z n0 h2 := D0.ext E2
  obtain ⟨_, _, ⟨T10, L10, k10, n10⟩, -, X10, ⟨Lc10, hQ10, l10, y10, z10⟩, st10⟩ := Jvm.LawKit.callS X2 hx (y := yN2) hown (mvT hZ (ow hw 7 rfl)) (mvT hZ (ow hw 8 rfl)) (mvT hZ (ow hw 9 rfl)) (mvT hZ (ow hw 10 rfl)) (by decide) (backOf (W := 1) (vo l Z a0 hw [] (pI1 / (8 : Int32)) pR6 pC8 h2 n0 Z4 c5 c7 B_pR6 c9) hZ (ow hw 10 rfl) (ow hw 9 rfl) (by decide) (by decide)) (g := (mkF m 9 #[.val (.int pI1), .val (.int 8), .val (.ref bR2), .unset] [(.int (pI1 / (8 : Int32))), (.ref bR2)])) rfl (by rw [hml]; rfl) (argsL := [(.int (pI1 / (8 : Int32)))]) (rest := [(.ref bR2)]) (lenOf pd_4 rfl) rfl (Nat.le_refl _) (hb hby d1_9) (fun _ _ => ⟨rfl, e2, (by decide : 1 + 1 ≤ _), (by decide : 8 + 1 ≤ _)⟩)
  dsimp only [Pt.U, Pt.locs, Pt.cells, Pt.slots] at X10 l10 y10 z10 st10 hQ10
  subst l10 y10 z10
  obtain ⟨bR10_0, rfl, Nq10, Kq10, x10_0, x10_1⟩ := hQ10
  have N10 := Fr.app N0 Nq10
  obtain ⟨Lh10, X10, N10⟩ := own_hide X10 N10
  have K11 : Keep h0 T10.heap [] := K3.trans Kq10 all0
  have Z12 : n0 ≤ T10.heap.size := (Nat.le_trans Z4 Kq10.1)
  have c13 : Arv Z T10.heap bR2 k2 (.object "java/lang/Integer") (8 : Int32) [.null, .null, .null, .null, .null, .null, .null, .null] .null := V2.keep Kq10 nin0
  have g14 : n0 ≤ bR2 := Nat.le_trans Z0 (Nat.le_of_eq g2.symm)
  obtain ⟨_, _, ⟨T15, L15, k15, n15⟩, -, X15, ⟨Lc15, hQ15, l15, y15, z15⟩, st15⟩ := Jvm.LawKit.callS X10 hx (y := yN12) hown (mvT hZ (ow hw 14 rfl)) (mvT hZ (ow hw 15 rfl)) (mvT hZ (ow hw 16 rfl)) (mvT hZ (ow hw 17 rfl)) (by decide) (backOf (W := 0) (fill8 l Z a0 hw [] bR2 bR10_0 k2 T10.heap n0 Z12 c13 O2 g14 x10_0) hZ (ow hw 17 rfl) (ow hw 16 rfl) (by decide) (by decide)) (g := (mkF m 12 #[.val (.int pI1), .val (.int 8), .val (.ref bR2), .unset] [(.ref bR10_0), (.ref bR2)])) rfl (by rw [hml]; rfl) (argsL := [(.ref bR2), (.ref bR10_0)]) (rest := []) (lenOf pd_5 rfl) rfl (Nat.le_refl _) (hb hby d1_12) (fun _ _ => ⟨rfl, rfl, (by decide : 2 + 0 ≤ _), (by decide : 9 + 0 ≤ _)⟩)
  dsimp only [Pt.U, Pt.locs, Pt.cells, Pt.slots] at X15 l15 y15 z15 st15 hQ15
  subst l15 y15 z15
  obtain ⟨rfl, Nq15, Kq15, x15_0, x15_1⟩ := hQ15
  have N15 := Fr.app N10 Nq15
  obtain ⟨Lh15, X15, N15⟩ := own_hide X15 N15
  have K16 : Keep h0 T15.heap [] := K11.trans Kq15 (allS (Or.inr (Nat.le_of_eq g2.symm)) all0)
  have Z17 : n0 ≤ T15.heap.size := (Nat.le_trans Z12 Kq15.1)
  obtain ⟨clq18, Arq18, Akq18, Asq18, Anq18, Ahq18, Agq18⟩ := id x15_0
  have hin19 : ¬ ((0 : Int32) < 0 ∨ clq18.slots.size ≤ ((0 : Int32)).toNatClampNeg) := inb_of Asq18 ⟨by decide, by decide⟩
  have c20 : Exa Z T15.heap bR10_0 "java/lang/Integer" := x10_0.keep Kq15
  have c21 : Fld Z T15.heap bR10_0 "java/lang/Integer" "value" "I" (.int (pI1 / (8 : Int32))) := x10_1.keep Kq15 (ninS (own_ne_EV c20 (ow hw 132 rfl) x15_0) nin0)
  obtain ⟨cq22, kq22, q22a, q22b, q22c⟩ := isOf hZ rfl c20
  obtain ⟨_, _, ⟨T22, L22, k22, n22⟩, -, X22, ⟨Lc22, hQ22, l22, y22, z22⟩, st22⟩ := X15.virtualBack hx (y := yN3) (z := yN3) hown (mvT hZ (ow hw 19 rfl)) (mvT hZ (ow hw 20 rfl)) (notFace_of_selects (args := #[]) (mvT hZ (ow hw 22 rfl))) (mvT hZ (ow hw 22 rfl)) (mvT hZ (ow hw 21 rfl)) (by decide) (backOf (W := 2) (intV l Z a0 hw [] bR10_0 (pI1 / (8 : Int32)) T15.heap n0 Z17 c21) hZ (ow hw 23 rfl) (ow hw 9 rfl) (by decide) (by decide)) q22a q22c (g := (mkF m 22 #[.val (.int pI1), .val (.int 8), .val (.ref bR2), .val (.ref bR2)] [(.ref bR10_0), (.int 0), (.ref bR2)])) rfl (by rw [hml]; rfl) (Steps.refl _) (argsL := []) (rest := [(.int 0), (.ref bR2)]) (lenOf pd_6 rfl) rfl (Nat.le_refl _) (hb hby d1_22) (fun _ _ => ⟨rfl, rfl, (by decide : 2 + 0 ≤ _), (by decide : 9 + 0 ≤ _)⟩)
  dsimp only [Pt.U, Pt.locs, Pt.cells, Pt.slots] at X22 l22 y22 z22 st22 hQ22
  subst l22 y22 z22
  obtain ⟨rfl, Nq22, e22⟩ := hQ22
  have N22 := Fr.app N15 Nq22
  have c23 : Sta Z T10.heap "java/lang/Integer$IntegerCache" "high" "I" (.int 127) := own_sta_keep c5 Kq10 all0
  have c24 : Sta Z T15.heap "java/lang/Integer$IntegerCache" "high" "I" (.int 127) := own_sta_keep c23 Kq15 (allS (own_plain_V c13) all0)
  have c25 : Sta Z T10.heap "java/lang/Integer$IntegerCache" "cache" "[Ljava/lang/Integer;" (.ref pR6) := own_sta_keep c7 Kq10 all0
  have c26 : Sta Z T15.heap "java/lang/Integer$IntegerCache" "cache" "[Ljava/lang/Integer;" (.ref pR6) := own_sta_keep c25 Kq15 (allS (own_plain_V c13) all0)
  have c27 : Old Z n0 T10.heap := c9.keep Kq10 all0
  have c28 : Old Z n0 T15.heap := c27.keep Kq15 (allS g14 all0)
  obtain ⟨_, _, ⟨T29, L29, k29, n29⟩, -, X29, ⟨Lc29, hQ29, l29, y29, z29⟩, st29⟩ := Jvm.LawKit.callS X22 hx (y := yN2) hown (mvT hZ (ow hw 7 rfl)) (mvT hZ (ow hw 8 rfl)) (mvT hZ (ow hw 9 rfl)) (mvT hZ (ow hw 10 rfl)) (by decide) (backOf (W := 2) (vo l Z a0 hw [] ((pI1 / (8 : Int32)) + (pI1 % (8 : Int32))) pR6 pC8 T15.heap n0 Z17 c24 c26 B_pR6 c28) hZ (ow hw 10 rfl) (ow hw 9 rfl) (by decide) (by decide)) (g := (mkF m 29 #[.val (.int pI1), .val (.int 8), .val (.ref bR2), .val (.ref bR2)] [(.int ((pI1 / (8 : Int32)) + (pI1 % (8 : Int32)))), (.int 0), (.ref bR2)])) rfl (by rw [hml]; rfl) (argsL := [(.int ((pI1 / (8 : Int32)) + (pI1 % (8 : Int32))))]) (rest := [(.int 0), (.ref bR2)]) (lenOf pd_4 rfl) rfl (Nat.le_refl _) (hb hby d1_29) (fun _ _ => ⟨rfl, e22, (by decide : 2 + 1 ≤ _), (by decide : 9 + 1 ≤ _)⟩)
  dsimp only [Pt.U, Pt.locs, Pt.cells, Pt.slots] at X29 l29 y29 z29 st29 hQ29
  subst l29 y29 z29
  obtain ⟨bR29_0, rfl, Nq29, Kq29, x29_0, x29_1⟩ := hQ29
  have N29 := Fr.app N22 Nq29
  obtain ⟨Lh29, X29, N29⟩ := own_hide X29 N29
  have K30 : Keep h0 T29.heap [] := K16.trans Kq29 all0
  have Z31 : n0 ≤ T29.heap.size := (Nat.le_trans Z17 Kq29.1)
  have c33 : Arv Z T29.heap bR2 k2 (.object "java/lang/Integer") (8 : Int32) [(.ref bR10_0), (.ref bR10_0), (.ref bR10_0), (.ref bR10_0), (.ref bR10_0), (.ref bR10_0), (.ref bR10_0), (.ref bR10_0)] .null := x15_0.keep Kq29 nin0
  obtain ⟨clq32, Arq32, Akq32, Asq32, Anq32, Ahq32, Agq32⟩ := id c33
  have hin34 : ¬ ((0 : Int32) < 0 ∨ clq32.slots.size ≤ ((0 : Int32)).toNatClampNeg) := inb_of Asq32 ⟨by decide, by decide⟩
  obtain ⟨T35, h35, X35, e35, W35, st35⟩ := stR X29 hx hZ rfl Arq32 (j := (0 : Int32)) hin34 rfl (Sto.ofV Arq32 Akq32 x15_1 (Ins.self x29_0)) (g := (mkF m 33 #[.val (.int pI1), .val (.int 8), .val (.ref bR2), .val (.ref bR2)] [(.ref bR29_0), (.int 0), (.ref bR2), (.ref bR29_0)])) rfl rfl (hb hby d1_33)
  have K36 : Keep h0 h35 [] := K30.wr W35 (Or.inr (Nat.le_of_eq g2.symm))
  have Z37 : n0 ≤ h35.size := (Nat.le_trans Z31 (Keep.of_wr W35).1)
  have N35 := Fr.snoc X35 N29 g14
  obtain ⟨Lh35, X35, N35⟩ := own_hide X35 N35
  have V35 : Arv Z h35 bR2 k2 (.object "java/lang/Integer") (8 : Int32) [(.ref bR29_0), (.ref bR10_0), (.ref bR10_0), (.ref bR10_0), (.ref bR10_0), (.ref bR10_0), (.ref bR10_0), (.ref bR10_0)] .null := Arv.set Arq32 Akq32 Asq32 Anq32 Ahq32 Agq32 rfl W35 0 rfl (Nat.le_of_ble_eq_true rfl)
  have c38 : Exa Z h35 bR29_0 "java/lang/Integer" := x29_0.wr W35
  have c39 : Exa Z T29.heap bR10_0 "java/lang/Integer" := c20.keep Kq29
  have c40 : Exa Z h35 bR10_0 "java/lang/Integer" := c39.wr W35
  obtain ⟨_, _, ⟨T41, L41, k41, n41⟩, -, X41, ⟨Lc41, hQ41, l41, y41, z41⟩, st41⟩ := Jvm.LawKit.callS X35 hx (y := yN13) hown (mvT hZ (ow hw 26 rfl)) (mvT hZ (ow hw 27 rfl)) (mvT hZ (ow hw 28 rfl)) (mvT hZ (ow hw 29 rfl)) (by decide) (backOf (W := 0) (of8 l Z a0 hw [] bR2 bR29_0 bR10_0 k2 h35 n0 Z37 V35 c38 c40) hZ (ow hw 29 rfl) (ow hw 28 rfl) (by decide) (by decide)) (g := (mkF m 36 #[.val (.int pI1), .val (.int 8), .val (.ref bR2), .val (.ref bR2)] [(.ref bR2)])) rfl (by rw [hml]; rfl) (argsL := [(.ref bR2)]) (rest := []) (lenOf pd_7 rfl) rfl (Nat.le_refl _) (hb hby d1_36) (fun _ _ => ⟨rfl, e35, (by decide : 3 + 2 ≤ _), (by decide : 10 + 10 ≤ _)⟩)
  dsimp only [Pt.U, Pt.locs, Pt.cells, Pt.slots] at X41 l41 y41 z41 st41 hQ41
  subst l41 y41 z41
  obtain ⟨bR41_0, bR41_1, kK41_0, rfl, Nq41, Kq41, sz41_0, sz41_1, x41_0, x41_1, x41_2, x41_3⟩ := hQ41
  have N41 := Fr.app N35 Nq41
  obtain ⟨Lh41, X41, N41⟩ := own_hide X41 N41
  have K42 : Keep h0 T41.heap [] := K36.trans Kq41 all0
  have Z43 : n0 ≤ T41.heap.size := (Nat.le_trans Z37 Kq41.1)
  have c44 : Exa Z T41.heap bR10_0 "java/lang/Integer" := c40.keep Kq41
  have c45 : Fld Z T29.heap bR10_0 "java/lang/Integer" "value" "I" (.int (pI1 / (8 : Int32))) := c21.keep Kq29 nin0
  have c46 : Fld Z h35 bR10_0 "java/lang/Integer" "value" "I" (.int (pI1 / (8 : Int32))) := c45.other W35 (Or.inl (own_ne_EV c20 (ow hw 132 rfl) x15_0))
  have c47 : Fld Z T41.heap bR10_0 "java/lang/Integer" "value" "I" (.int (pI1 / (8 : Int32))) := c46.keep Kq41 nin0
  have c48 : Exa Z T41.heap bR29_0 "java/lang/Integer" := c38.keep Kq41
  have c49 : Fld Z h35 bR29_0 "java/lang/Integer" "value" "I" (.int ((pI1 / (8 : Int32)) + (pI1 % (8 : Int32)))) := x29_1.other W35 (Or.inl (own_ne_EV c38 (ow hw 132 rfl) V35))
  have c50 : Fld Z T41.heap bR29_0 "java/lang/Integer" "value" "I" (.int ((pI1 / (8 : Int32)) + (pI1 % (8 : Int32)))) := c49.keep Kq41 nin0
  obtain ⟨fs, hr, hrun, hended, hW, hsame⟩ := X41.leave (v := some (.ref bR41_1)) (fun h => by rw [Bd.returns] at h; cases h)
  refine ⟨_, _, castTop (ef_eqs8 m pI1) ?_, hrun, hended, _, _, rfl, ?_, ⟨_, rfl⟩, hW, hsame.mono (by decide) (by decide)⟩
  · show oS p e below s₁ m 0 #[.val (.int pI1), .val (.int 8), .unset, .unset] [] _
    refine XS.iloadN X0.here hx rfl (hb hby d1_0) rfl ?_
    refine st2 _ ?_
    refine XS.astoreN X2.here hx rfl (hb hby d1_4) rfl rfl (l' := #[.val (.int pI1), .val (.int 8), .val (.ref bR2), .unset]) rfl ?_
    refine XS.aloadN X2.here hx rfl (hb hby d1_5) rfl rfl ?_
    refine XS.iloadN X2.here hx rfl (hb hby d1_6) rfl ?_
    refine XS.iloadN X2.here hx rfl (hb hby d1_7) rfl ?_
    refine XS.idiv X2.here hx rfl (hb hby d1_8) rfl (by decide) ?_
    refine st10 _ ?_
    show oS p e below T10 m 12 #[.val (.int pI1), .val (.int 8), .val (.ref bR2), .unset] [(.ref bR10_0), (.ref bR2)] _
    refine st15 _ ?_
    refine XS.aloadN X15.here hx rfl (hb hby d1_15) rfl rfl ?_
    refine XS.astoreN X15.here hx rfl (hb hby d1_16) rfl rfl (l' := #[.val (.int pI1), .val (.int 8), .val (.ref bR2), .val (.ref bR2)]) rfl ?_
    refine XS.aloadN X15.here hx rfl (hb hby d1_17) rfl rfl ?_
    refine XS.iconst X15.here hx rfl (hb hby d1_18) ?_
    refine XS.aloadN X15.here hx rfl (hb hby d1_19) rfl rfl ?_
    refine XS.iconst X15.here hx rfl (hb hby d1_20) ?_
    refine X15.aaload hx (j := (0 : Int32)) (v := (.ref bR10_0)) Arq18.1 (State.isArrayOf_alike hZ.alike Arq18.2.1) rfl Arq18.2.2 hin19 (Has.at Ahq18 hin19 rfl) (g := (mkF m 21 #[.val (.int pI1), .val (.int 8), .val (.ref bR2), .val (.ref bR2)] [(.int 0), (.ref bR2), (.int 0), (.ref bR2)])) rfl rfl (hb hby d1_21) _ ?_
    show oS p e below T15 m 22 #[.val (.int pI1), .val (.int 8), .val (.ref bR2), .val (.ref bR2)] [(.ref bR10_0), (.int 0), (.ref bR2)] _
    refine st22.trans ?_
    refine XS.iloadN X22.here hx rfl (hb hby d1_25) rfl ?_
    refine XS.iloadN X22.here hx rfl (hb hby d1_26) rfl ?_
    show Steps p.tables e below (T22.setTop (mkF m 27 #[.val (.int pI1), .val (.int 8), .val (.ref bR2), .val (.ref bR2)] [(.int 8), (.int pI1), (.int (pI1 / (8 : Int32))), (.int 0), (.ref bR2)])) _
    refine iremM (g := (mkF m 27 #[.val (.int pI1), .val (.int 8), .val (.ref bR2), .val (.ref bR2)] [(.int 8), (.int pI1), (.int (pI1 / (8 : Int32))), (.int 0), (.ref bR2)])) X22 hx rfl (hb hby d1_27) rfl (by decide) ?_
    refine XS.iadd X22.here hx rfl (hb hby d1_28) rfl ?_
    refine st29 _ ?_
    show Steps p.tables e below (T29.setTop (mkF m 32 #[.val (.int pI1), .val (.int 8), .val (.ref bR2), .val (.ref bR2)] [(.ref bR29_0), (.int 0), (.ref bR2)])) _
    jvm_step X29.here [X29.here.top, hx, (hb hby d1_32), Value.category]
    refine st35 _ ?_
    show oS p e below T35 m 34 #[.val (.int pI1), .val (.int 8), .val (.ref bR2), .val (.ref bR2)] [(.ref bR29_0)] _
    refine XS.pop X35.here hx rfl (hb hby d1_34) rfl rfl ?_
    refine XS.aloadN X35.here hx rfl (hb hby d1_35) rfl rfl ?_
    refine st41 _ ?_
    exact retOut X41 hx Bd.returns rfl (Or.inr (Or.inr (Or.inr (Or.inr ⟨rfl, rfl, rfl⟩)))) (hb hby d1_39) hr
  · show Qeqs8 Z pI1 pR6 pC8 h0 n0 _ T41.heap _
    exact ⟨bR41_0, bR41_1, bR10_0, bR29_0, kK41_0, rfl, N41, K42, (Nat.le_trans K36.1 sz41_0), (Nat.le_trans K36.1 sz41_1), c44, c47, c48, c50, x41_0, x41_1, x41_2, x41_3⟩
theorem d13_0 : decode jdk_45_method_3_code 0 = .ok (.aload_n 0, 1) := by decide +kernel
theorem d13_1 : decode jdk_45_method_3_code 1 = .ok (.getfield 7, 3) := by decide +kernel
theorem d13_4 : decode jdk_45_method_3_code 4 = .ok (.arraylength, 1) := by decide +kernel
theorem d13_5 : decode jdk_45_method_3_code 5 = .ok (.ireturn, 1) := by decide +kernel
theorem ef_lnS3 (m : MethodId) (pR1 : Addr) : entryFrame m #[(.ref pR1)] 1 = mkF m 0 #[.val (.ref pR1)] [] := by first | (simp [entryFrame, mkF, argsToLocals, Value.category]; done) | rfl
def QlnS3 (Z : State) (pR1 : Addr) (pR2 : Addr) (pR801 : Addr) (pR802 : Addr) (pK4 : ClassId) (h0 : Heap) (n0 : Nat) (v : Option Value) (h : Heap) (L : List Loc) : Prop := v = some (.int 3) ∧ Fr n0 L ∧ h = h0
set_option maxRecDepth 65536 in
set_option maxHeartbeats 40000000 in
theorem lnS3 (l : Launch) (Z : State) (a0 : Array Value) (hw : ∀ d ∈ tables_1, d.before a0 Z = true) (ws : List Jvm.Cond) (pR1 : Addr) (pR2 : Addr) (pR801 : Addr) (pR802 : Addr) (pK4 : ClassId) (h0 : Heap) (n0 : Nat) (Z0 : n0 ≤ h0.size) (F_elements_pR1 : Fld Z h0 pR1 "java/util/ImmutableCollections$ListN" "elements" "[Ljava/lang/Object;" (.ref pR2)) (V_pR2 : Arv Z h0 pR2 pK4 (.object "java/lang/Object") (3 : Int32) [(.ref pR801), (.ref pR802), (.ref pR802)] .null) :
    oM l yN16 jdk_45_method_3_code 1 (some .int) ws ({ frames := 0, cells := 0, slots := 0, locals := 0 } : Room) #[(.ref pR1)] Z h0 (QlnS3 Z pR1 pR2 pR801 pR802 pK4 h0 n0) := by
  refine MetFree.of_bodySF (plainFor_of_name pn_6) hisR ?_
  intro p e s m args below meth c s₁ Bd hml0 hP hK
  obtain ⟨rfl, hZ, hh⟩ := hP
  have hx := Bd.exec
  have hby := Bd.bytes
  have hml : c.maxLocals = 1 := hml0
  have hown : s.vm.findClass "java/util/ImmutableCollections$ListN" = some m.cls := findClass_of_methodNamed Bd.named
  have hnm := (name_of_methodNamed Bd.named Bd.method).1
  have X0 : Stand p l e ({ frames := 0, cells := 0, slots := 0, locals := 0 } : Room) s m #[(.ref pR1)] below meth c s₁ [] 0 0 := Stand.of_body Bd
  have e0 : s₁.heap = h0 := by rw [← hh, Bd.state]; rfl
  have N0 := Fr.nil n0
  obtain ⟨T3, X3, e3, st3⟩ := getF X0 hx hZ hown (host := "") (Or.inl (ow hw 69 rfl)) Via.refl e0 F_elements_pR1 (g := (mkF m 1 #[.val (.ref pR1)] [(.ref pR1)])) rfl rfl (hb hby d13_1)
  obtain ⟨clq5, Arq5, Akq5, Asq5, Anq5, Ahq5, Agq5⟩ := id V_pR2
  obtain ⟨fs, hr, hrun, hended, hW, hsame⟩ := X3.leave (v := some (.int 3)) (fun h => by rw [Bd.returns] at h; cases h)
  refine ⟨_, _, castTop (ef_lnS3 m pR1) ?_, hrun, hended, _, _, rfl, ?_, ⟨_, rfl⟩, hW, hsame.mono (by decide) (by decide)⟩
  · show oS p e below s₁ m 0 #[.val (.ref pR1)] [] _
    refine XS.aloadN X0.here hx rfl (hb hby d13_0) rfl rfl ?_
    refine st3 _ ?_
    refine X3.arraylength hx (by rw [e3]; exact Arq5.1) (State.isArrayOf_alike hZ.alike Arq5.2.1) (g := (mkF m 4 #[.val (.ref pR1)] [(.ref pR2)])) rfl rfl (hb hby d13_4) _ ?_
    rw [len_of Asq5 Anq5]
    exact retI X3 hx Bd.returns (hb hby d13_5) hr
  · show QlnS3 Z pR1 pR2 pR801 pR802 pK4 h0 n0 _ T3.heap _
    rw [e3]
    exact ⟨rfl, N0, rfl⟩
theorem ef_lnS4 (m : MethodId) (pR1 : Addr) : entryFrame m #[(.ref pR1)] 1 = mkF m 0 #[.val (.ref pR1)] [] := by first | (simp [entryFrame, mkF, argsToLocals, Value.category]; done) | rfl
def QlnS4 (Z : State) (pR1 : Addr) (pR2 : Addr) (pR801 : Addr) (pR802 : Addr) (pK4 : ClassId) (h0 : Heap) (n0 : Nat) (v : Option Value) (h : Heap) (L : List Loc) : Prop := v = some (.int 4) ∧ Fr n0 L ∧ h = h0
set_option maxRecDepth 65536 in
set_option maxHeartbeats 40000000 in
theorem lnS4 (l : Launch) (Z : State) (a0 : Array Value) (hw : ∀ d ∈ tables_1, d.before a0 Z = true) (ws : List Jvm.Cond) (pR1 : Addr) (pR2 : Addr) (pR801 : Addr) (pR802 : Addr) (pK4 : ClassId) (h0 : Heap) (n0 : Nat) (Z0 : n0 ≤ h0.size) (F_elements_pR1 : Fld Z h0 pR1 "java/util/ImmutableCollections$ListN" "elements" "[Ljava/lang/Object;" (.ref pR2)) (V_pR2 : Arv Z h0 pR2 pK4 (.object "java/lang/Object") (4 : Int32) [(.ref pR801), (.ref pR802), (.ref pR802), (.ref pR802)] .null) :
    oM l yN16 jdk_45_method_3_code 1 (some .int) ws ({ frames := 0, cells := 0, slots := 0, locals := 0 } : Room) #[(.ref pR1)] Z h0 (QlnS4 Z pR1 pR2 pR801 pR802 pK4 h0 n0) := by
  refine MetFree.of_bodySF (plainFor_of_name pn_6) hisR ?_
  intro p e s m args below meth c s₁ Bd hml0 hP hK
  obtain ⟨rfl, hZ, hh⟩ := hP
  have hx := Bd.exec
  have hby := Bd.bytes
  have hml : c.maxLocals = 1 := hml0
  have hown : s.vm.findClass "java/util/ImmutableCollections$ListN" = some m.cls := findClass_of_methodNamed Bd.named
  have hnm := (name_of_methodNamed Bd.named Bd.method).1
  have X0 : Stand p l e ({ frames := 0, cells := 0, slots := 0, locals := 0 } : Room) s m #[(.ref pR1)] below meth c s₁ [] 0 0 := Stand.of_body Bd
  have e0 : s₁.heap = h0 := by rw [← hh, Bd.state]; rfl
  have N0 := Fr.nil n0
  obtain ⟨T3, X3, e3, st3⟩ := getF X0 hx hZ hown (host := "") (Or.inl (ow hw 69 rfl)) Via.refl e0 F_elements_pR1 (g := (mkF m 1 #[.val (.ref pR1)] [(.ref pR1)])) rfl rfl (hb hby d13_1)
  obtain ⟨clq5, Arq5, Akq5, Asq5, Anq5, Ahq5, Agq5⟩ := id V_pR2
  obtain ⟨fs, hr, hrun, hended, hW, hsame⟩ := X3.leave (v := some (.int 4)) (fun h => by rw [Bd.returns] at h; cases h)
  refine ⟨_, _, castTop (ef_lnS4 m pR1) ?_, hrun, hended, _, _, rfl, ?_, ⟨_, rfl⟩, hW, hsame.mono (by decide) (by decide)⟩
  · show oS p e below s₁ m 0 #[.val (.ref pR1)] [] _
    refine XS.aloadN X0.here hx rfl (hb hby d13_0) rfl rfl ?_
    refine st3 _ ?_
    refine X3.arraylength hx (by rw [e3]; exact Arq5.1) (State.isArrayOf_alike hZ.alike Arq5.2.1) (g := (mkF m 4 #[.val (.ref pR1)] [(.ref pR2)])) rfl rfl (hb hby d13_4) _ ?_
    rw [len_of Asq5 Anq5]
    exact retI X3 hx Bd.returns (hb hby d13_5) hr
  · show QlnS4 Z pR1 pR2 pR801 pR802 pK4 h0 n0 _ T3.heap _
    rw [e3]
    exact ⟨rfl, N0, rfl⟩
theorem ef_lnS5 (m : MethodId) (pR1 : Addr) : entryFrame m #[(.ref pR1)] 1 = mkF m 0 #[.val (.ref pR1)] [] := by first | (simp [entryFrame, mkF, argsToLocals, Value.category]; done) | rfl
def QlnS5 (Z : State) (pR1 : Addr) (pR2 : Addr) (pR801 : Addr) (pR802 : Addr) (pK4 : ClassId) (h0 : Heap) (n0 : Nat) (v : Option Value) (h : Heap) (L : List Loc) : Prop := v = some (.int 5) ∧ Fr n0 L ∧ h = h0
set_option maxRecDepth 65536 in
set_option maxHeartbeats 40000000 in
theorem lnS5 (l : Launch) (Z : State) (a0 : Array Value) (hw : ∀ d ∈ tables_1, d.before a0 Z = true) (ws : List Jvm.Cond) (pR1 : Addr) (pR2 : Addr) (pR801 : Addr) (pR802 : Addr) (pK4 : ClassId) (h0 : Heap) (n0 : Nat) (Z0 : n0 ≤ h0.size) (F_elements_pR1 : Fld Z h0 pR1 "java/util/ImmutableCollections$ListN" "elements" "[Ljava/lang/Object;" (.ref pR2)) (V_pR2 : Arv Z h0 pR2 pK4 (.object "java/lang/Object") (5 : Int32) [(.ref pR801), (.ref pR802), (.ref pR802), (.ref pR802), (.ref pR802)] .null) :
    oM l yN16 jdk_45_method_3_code 1 (some .int) ws ({ frames := 0, cells := 0, slots := 0, locals := 0 } : Room) #[(.ref pR1)] Z h0 (QlnS5 Z pR1 pR2 pR801 pR802 pK4 h0 n0) := by
  refine MetFree.of_bodySF (plainFor_of_name pn_6) hisR ?_
  intro p e s m args below meth c s₁ Bd hml0 hP hK
  obtain ⟨rfl, hZ, hh⟩ := hP
  have hx := Bd.exec
  have hby := Bd.bytes
  have hml : c.maxLocals = 1 := hml0
  have hown : s.vm.findClass "java/util/ImmutableCollections$ListN" = some m.cls := findClass_of_methodNamed Bd.named
  have hnm := (name_of_methodNamed Bd.named Bd.method).1
  have X0 : Stand p l e ({ frames := 0, cells := 0, slots := 0, locals := 0 } : Room) s m #[(.ref pR1)] below meth c s₁ [] 0 0 := Stand.of_body Bd
  have e0 : s₁.heap = h0 := by rw [← hh, Bd.state]; rfl
  have N0 := Fr.nil n0
  obtain ⟨T3, X3, e3, st3⟩ := getF X0 hx hZ hown (host := "") (Or.inl (ow hw 69 rfl)) Via.refl e0 F_elements_pR1 (g := (mkF m 1 #[.val (.ref pR1)] [(.ref pR1)])) rfl rfl (hb hby d13_1)
  obtain ⟨clq5, Arq5, Akq5, Asq5, Anq5, Ahq5, Agq5⟩ := id V_pR2
  obtain ⟨fs, hr, hrun, hended, hW, hsame⟩ := X3.leave (v := some (.int 5)) (fun h => by rw [Bd.returns] at h; cases h)
  refine ⟨_, _, castTop (ef_lnS5 m pR1) ?_, hrun, hended, _, _, rfl, ?_, ⟨_, rfl⟩, hW, hsame.mono (by decide) (by decide)⟩
  · show oS p e below s₁ m 0 #[.val (.ref pR1)] [] _
    refine XS.aloadN X0.here hx rfl (hb hby d13_0) rfl rfl ?_
    refine st3 _ ?_
    refine X3.arraylength hx (by rw [e3]; exact Arq5.1) (State.isArrayOf_alike hZ.alike Arq5.2.1) (g := (mkF m 4 #[.val (.ref pR1)] [(.ref pR2)])) rfl rfl (hb hby d13_4) _ ?_
    rw [len_of Asq5 Anq5]
    exact retI X3 hx Bd.returns (hb hby d13_5) hr
  · show QlnS5 Z pR1 pR2 pR801 pR802 pK4 h0 n0 _ T3.heap _
    rw [e3]
    exact ⟨rfl, N0, rfl⟩
theorem ef_lnS6 (m : MethodId) (pR1 : Addr) : entryFrame m #[(.ref pR1)] 1 = mkF m 0 #[.val (.ref pR1)] [] := by first | (simp [entryFrame, mkF, argsToLocals, Value.category]; done) | rfl
def QlnS6 (Z : State) (pR1 : Addr) (pR2 : Addr) (pR801 : Addr) (pR802 : Addr) (pK4 : ClassId) (h0 : Heap) (n0 : Nat) (v : Option Value) (h : Heap) (L : List Loc) : Prop := v = some (.int 6) ∧ Fr n0 L ∧ h = h0
set_option maxRecDepth 65536 in
set_option maxHeartbeats 40000000 in
theorem lnS6 (l : Launch) (Z : State) (a0 : Array Value) (hw : ∀ d ∈ tables_1, d.before a0 Z = true) (ws : List Jvm.Cond) (pR1 : Addr) (pR2 : Addr) (pR801 : Addr) (pR802 : Addr) (pK4 : ClassId) (h0 : Heap) (n0 : Nat) (Z0 : n0 ≤ h0.size) (F_elements_pR1 : Fld Z h0 pR1 "java/util/ImmutableCollections$ListN" "elements" "[Ljava/lang/Object;" (.ref pR2)) (V_pR2 : Arv Z h0 pR2 pK4 (.object "java/lang/Object") (6 : Int32) [(.ref pR801), (.ref pR802), (.ref pR802), (.ref pR802), (.ref pR802), (.ref pR802)] .null) :
    oM l yN16 jdk_45_method_3_code 1 (some .int) ws ({ frames := 0, cells := 0, slots := 0, locals := 0 } : Room) #[(.ref pR1)] Z h0 (QlnS6 Z pR1 pR2 pR801 pR802 pK4 h0 n0) := by
  refine MetFree.of_bodySF (plainFor_of_name pn_6) hisR ?_
  intro p e s m args below meth c s₁ Bd hml0 hP hK
  obtain ⟨rfl, hZ, hh⟩ := hP
  have hx := Bd.exec
  have hby := Bd.bytes
  have hml : c.maxLocals = 1 := hml0
  have hown : s.vm.findClass "java/util/ImmutableCollections$ListN" = some m.cls := findClass_of_methodNamed Bd.named
  have hnm := (name_of_methodNamed Bd.named Bd.method).1
  have X0 : Stand p l e ({ frames := 0, cells := 0, slots := 0, locals := 0 } : Room) s m #[(.ref pR1)] below meth c s₁ [] 0 0 := Stand.of_body Bd
  have e0 : s₁.heap = h0 := by rw [← hh, Bd.state]; rfl
  have N0 := Fr.nil n0
  obtain ⟨T3, X3, e3, st3⟩ := getF X0 hx hZ hown (host := "") (Or.inl (ow hw 69 rfl)) Via.refl e0 F_elements_pR1 (g := (mkF m 1 #[.val (.ref pR1)] [(.ref pR1)])) rfl rfl (hb hby d13_1)
  obtain ⟨clq5, Arq5, Akq5, Asq5, Anq5, Ahq5, Agq5⟩ := id V_pR2
  obtain ⟨fs, hr, hrun, hended, hW, hsame⟩ := X3.leave (v := some (.int 6)) (fun h => by rw [Bd.returns] at h; cases h)
  refine ⟨_, _, castTop (ef_lnS6 m pR1) ?_, hrun, hended, _, _, rfl, ?_, ⟨_, rfl⟩, hW, hsame.mono (by decide) (by decide)⟩
  · show oS p e below s₁ m 0 #[.val (.ref pR1)] [] _
    refine XS.aloadN X0.here hx rfl (hb hby d13_0) rfl rfl ?_
    refine st3 _ ?_
    refine X3.arraylength hx (by rw [e3]; exact Arq5.1) (State.isArrayOf_alike hZ.alike Arq5.2.1) (g := (mkF m 4 #[.val (.ref pR1)] [(.ref pR2)])) rfl rfl (hb hby d13_4) _ ?_
    rw [len_of Asq5 Anq5]
    exact retI X3 hx Bd.returns (hb hby d13_5) hr
  · show QlnS6 Z pR1 pR2 pR801 pR802 pK4 h0 n0 _ T3.heap _
    rw [e3]
    exact ⟨rfl, N0, rfl⟩
theorem ef_lnS7 (m : MethodId) (pR1 : Addr) : entryFrame m #[(.ref pR1)] 1 = mkF m 0 #[.val (.ref pR1)] [] := by first | (simp [entryFrame, mkF, argsToLocals, Value.category]; done) | rfl
def QlnS7 (Z : State) (pR1 : Addr) (pR2 : Addr) (pR801 : Addr) (pR802 : Addr) (pK4 : ClassId) (h0 : Heap) (n0 : Nat) (v : Option Value) (h : Heap) (L : List Loc) : Prop := v = some (.int 7) ∧ Fr n0 L ∧ h = h0
set_option maxRecDepth 65536 in
set_option maxHeartbeats 40000000 in
theorem lnS7 (l : Launch) (Z : State) (a0 : Array Value) (hw : ∀ d ∈ tables_1, d.before a0 Z = true) (ws : List Jvm.Cond) (pR1 : Addr) (pR2 : Addr) (pR801 : Addr) (pR802 : Addr) (pK4 : ClassId) (h0 : Heap) (n0 : Nat) (Z0 : n0 ≤ h0.size) (F_elements_pR1 : Fld Z h0 pR1 "java/util/ImmutableCollections$ListN" "elements" "[Ljava/lang/Object;" (.ref pR2)) (V_pR2 : Arv Z h0 pR2 pK4 (.object "java/lang/Object") (7 : Int32) [(.ref pR801), (.ref pR802), (.ref pR802), (.ref pR802), (.ref pR802), (.ref pR802), (.ref pR802)] .null) :
    oM l yN16 jdk_45_method_3_code 1 (some .int) ws ({ frames := 0, cells := 0, slots := 0, locals := 0 } : Room) #[(.ref pR1)] Z h0 (QlnS7 Z pR1 pR2 pR801 pR802 pK4 h0 n0) := by
  refine MetFree.of_bodySF (plainFor_of_name pn_6) hisR ?_
  intro p e s m args below meth c s₁ Bd hml0 hP hK
  obtain ⟨rfl, hZ, hh⟩ := hP
  have hx := Bd.exec
  have hby := Bd.bytes
  have hml : c.maxLocals = 1 := hml0
  have hown : s.vm.findClass "java/util/ImmutableCollections$ListN" = some m.cls := findClass_of_methodNamed Bd.named
  have hnm := (name_of_methodNamed Bd.named Bd.method).1
  have X0 : Stand p l e ({ frames := 0, cells := 0, slots := 0, locals := 0 } : Room) s m #[(.ref pR1)] below meth c s₁ [] 0 0 := Stand.of_body Bd
  have e0 : s₁.heap = h0 := by rw [← hh, Bd.state]; rfl
  have N0 := Fr.nil n0
  obtain ⟨T3, X3, e3, st3⟩ := getF X0 hx hZ hown (host := "") (Or.inl (ow hw 69 rfl)) Via.refl e0 F_elements_pR1 (g := (mkF m 1 #[.val (.ref pR1)] [(.ref pR1)])) rfl rfl (hb hby d13_1)
  obtain ⟨clq5, Arq5, Akq5, Asq5, Anq5, Ahq5, Agq5⟩ := id V_pR2
  obtain ⟨fs, hr, hrun, hended, hW, hsame⟩ := X3.leave (v := some (.int 7)) (fun h => by rw [Bd.returns] at h; cases h)
  refine ⟨_, _, castTop (ef_lnS7 m pR1) ?_, hrun, hended, _, _, rfl, ?_, ⟨_, rfl⟩, hW, hsame.mono (by decide) (by decide)⟩
  · show oS p e below s₁ m 0 #[.val (.ref pR1)] [] _
    refine XS.aloadN X0.here hx rfl (hb hby d13_0) rfl rfl ?_
    refine st3 _ ?_
    refine X3.arraylength hx (by rw [e3]; exact Arq5.1) (State.isArrayOf_alike hZ.alike Arq5.2.1) (g := (mkF m 4 #[.val (.ref pR1)] [(.ref pR2)])) rfl rfl (hb hby d13_4) _ ?_
    rw [len_of Asq5 Anq5]
    exact retI X3 hx Bd.returns (hb hby d13_5) hr
  · show QlnS7 Z pR1 pR2 pR801 pR802 pK4 h0 n0 _ T3.heap _
    rw [e3]
    exact ⟨rfl, N0, rfl⟩
theorem ef_lnS8 (m : MethodId) (pR1 : Addr) : entryFrame m #[(.ref pR1)] 1 = mkF m 0 #[.val (.ref pR1)] [] := by first | (simp [entryFrame, mkF, argsToLocals, Value.category]; done) | rfl
def QlnS8 (Z : State) (pR1 : Addr) (pR2 : Addr) (pR801 : Addr) (pR802 : Addr) (pK4 : ClassId) (h0 : Heap) (n0 : Nat) (v : Option Value) (h : Heap) (L : List Loc) : Prop := v = some (.int 8) ∧ Fr n0 L ∧ h = h0
set_option maxRecDepth 65536 in
set_option maxHeartbeats 40000000 in
theorem lnS8 (l : Launch) (Z : State) (a0 : Array Value) (hw : ∀ d ∈ tables_1, d.before a0 Z = true) (ws : List Jvm.Cond) (pR1 : Addr) (pR2 : Addr) (pR801 : Addr) (pR802 : Addr) (pK4 : ClassId) (h0 : Heap) (n0 : Nat) (Z0 : n0 ≤ h0.size) (F_elements_pR1 : Fld Z h0 pR1 "java/util/ImmutableCollections$ListN" "elements" "[Ljava/lang/Object;" (.ref pR2)) (V_pR2 : Arv Z h0 pR2 pK4 (.object "java/lang/Object") (8 : Int32) [(.ref pR801), (.ref pR802), (.ref pR802), (.ref pR802), (.ref pR802), (.ref pR802), (.ref pR802), (.ref pR802)] .null) :
    oM l yN16 jdk_45_method_3_code 1 (some .int) ws ({ frames := 0, cells := 0, slots := 0, locals := 0 } : Room) #[(.ref pR1)] Z h0 (QlnS8 Z pR1 pR2 pR801 pR802 pK4 h0 n0) := by
  refine MetFree.of_bodySF (plainFor_of_name pn_6) hisR ?_
  intro p e s m args below meth c s₁ Bd hml0 hP hK
  obtain ⟨rfl, hZ, hh⟩ := hP
  have hx := Bd.exec
  have hby := Bd.bytes
  have hml : c.maxLocals = 1 := hml0
  have hown : s.vm.findClass "java/util/ImmutableCollections$ListN" = some m.cls := findClass_of_methodNamed Bd.named
  have hnm := (name_of_methodNamed Bd.named Bd.method).1
  have X0 : Stand p l e ({ frames := 0, cells := 0, slots := 0, locals := 0 } : Room) s m #[(.ref pR1)] below meth c s₁ [] 0 0 := Stand.of_body Bd
  have e0 : s₁.heap = h0 := by rw [← hh, Bd.state]; rfl
  have N0 := Fr.nil n0
  obtain ⟨T3, X3, e3, st3⟩ := getF X0 hx hZ hown (host := "") (Or.inl (ow hw 69 rfl)) Via.refl e0 F_elements_pR1 (g := (mkF m 1 #[.val (.ref pR1)] [(.ref pR1)])) rfl rfl (hb hby d13_1)
  obtain ⟨clq5, Arq5, Akq5, Asq5, Anq5, Ahq5, Agq5⟩ := id V_pR2
  obtain ⟨fs, hr, hrun, hended, hW, hsame⟩ := X3.leave (v := some (.int 8)) (fun h => by rw [Bd.returns] at h; cases h)
  refine ⟨_, _, castTop (ef_lnS8 m pR1) ?_, hrun, hended, _, _, rfl, ?_, ⟨_, rfl⟩, hW, hsame.mono (by decide) (by decide)⟩
  · show oS p e below s₁ m 0 #[.val (.ref pR1)] [] _
    refine XS.aloadN X0.here hx rfl (hb hby d13_0) rfl rfl ?_
    refine st3 _ ?_
    refine X3.arraylength hx (by rw [e3]; exact Arq5.1) (State.isArrayOf_alike hZ.alike Arq5.2.1) (g := (mkF m 4 #[.val (.ref pR1)] [(.ref pR2)])) rfl rfl (hb hby d13_4) _ ?_
    rw [len_of Asq5 Anq5]
    exact retI X3 hx Bd.returns (hb hby d13_5) hr
  · show QlnS8 Z pR1 pR2 pR801 pR802 pK4 h0 n0 _ T3.heap _
    rw [e3]
    exact ⟨rfl, N0, rfl⟩
theorem d19_0 : decode jdk_44_method_3_code 0 = .ok (.aload_n 0, 1) := by decide +kernel
theorem d19_1 : decode jdk_44_method_3_code 1 = .ok (.getfield 24, 3) := by decide +kernel
theorem d19_4 : decode jdk_44_method_3_code 4 = .ok (.getstatic 19, 3) := by decide +kernel
theorem d19_7 : decode jdk_44_method_3_code 7 = .ok (.if_acmp .eq 7, 3) := by decide +kernel
theorem d19_14 : decode jdk_44_method_3_code 14 = .ok (.iconst 1, 1) := by decide +kernel
theorem d19_15 : decode jdk_44_method_3_code 15 = .ok (.ireturn, 1) := by decide +kernel
theorem ef_l1S (m : MethodId) (pR1 : Addr) : entryFrame m #[(.ref pR1)] 1 = mkF m 0 #[.val (.ref pR1)] [] := by first | (simp [entryFrame, mkF, argsToLocals, Value.category]; done) | rfl
def Ql1S (Z : State) (pR1 : Addr) (pR2 : Addr) (pR4 : Addr) (h0 : Heap) (n0 : Nat) (v : Option Value) (h : Heap) (L : List Loc) : Prop := v = some (.int 1) ∧ Fr n0 L ∧ h = h0
set_option maxRecDepth 65536 in
set_option maxHeartbeats 40000000 in
theorem l1S (l : Launch) (Z : State) (a0 : Array Value) (hw : ∀ d ∈ tables_1, d.before a0 Z = true) (ws : List Jvm.Cond) (pR1 : Addr) (pR2 : Addr) (pR4 : Addr) (h0 : Heap) (n0 : Nat) (Z0 : n0 ≤ h0.size) (F_e1_pR1 : Fld Z h0 pR1 "java/util/ImmutableCollections$List12" "e1" "Ljava/lang/Object;" (.ref pR2)) (S_ImmutableCollections_EMPTY : Sta Z h0 "java/util/ImmutableCollections" "EMPTY" "Ljava/lang/Object;" (.ref pR4)) (hc7 : pR2 = pR4) :
    oM l yN17 jdk_44_method_3_code 1 (some .int) ws ({ frames := 0, cells := 0, slots := 0, locals := 0 } : Room) #[(.ref pR1)] Z h0 (Ql1S Z pR1 pR2 pR4 h0 n0) := by
  refine MetFree.of_bodySF (plainFor_of_name pn_7) hisR ?_
  intro p e s m args below meth c s₁ Bd hml0 hP hK
  obtain ⟨rfl, hZ, hh⟩ := hP
  have hx := Bd.exec
  have hby := Bd.bytes
  have hml : c.maxLocals = 1 := hml0
  have hown : s.vm.findClass "java/util/ImmutableCollections$List12" = some m.cls := findClass_of_methodNamed Bd.named
  have hnm := (name_of_methodNamed Bd.named Bd.method).1
  have X0 : Stand p l e ({ frames := 0, cells := 0, slots := 0, locals := 0 } : Room) s m #[(.ref pR1)] below meth c s₁ [] 0 0 := Stand.of_body Bd
  have e0 : s₁.heap = h0 := by rw [← hh, Bd.state]; rfl
  have N0 := Fr.nil n0
  obtain ⟨T3, X3, e3, st3⟩ := getF X0 hx hZ hown (host := "") (Or.inl (ow hw 117 rfl)) Via.refl e0 F_e1_pR1 (g := (mkF m 1 #[.val (.ref pR1)] [(.ref pR1)])) rfl rfl (hb hby d19_1)
  obtain ⟨T5, X5, e5, st5⟩ := getS2 X3 hx hZ hown (Or.inr (ow hw 125 rfl)) Via.refl e3 S_ImmutableCollections_EMPTY (g := (mkF m 4 #[.val (.ref pR1)] [(.ref pR2)])) rfl (hb hby d19_4)
  obtain ⟨fs, hr, hrun, hended, hW, hsame⟩ := X5.leave (v := some (.int 1)) (fun h => by rw [Bd.returns] at h; cases h)
  refine ⟨_, _, castTop (ef_l1S m pR1) ?_, hrun, hended, _, _, rfl, ?_, ⟨_, rfl⟩, hW, hsame.mono (by decide) (by decide)⟩
  · show oS p e below s₁ m 0 #[.val (.ref pR1)] [] _
    refine XS.aloadN X0.here hx rfl (hb hby d19_0) rfl rfl ?_
    refine st3 _ ?_
    refine st5 _ ?_
    refine Jvm.RoadKit.acmp (g := (mkF m 7 #[.val (.ref pR1)] [(.ref pR4), (.ref pR2)])) X5 hx rfl rfl rfl (pc0 := 7) (pc' := 14) (same := true) rfl (hb hby d19_7) rfl (decide_eq_true (congrArg Value.ref hc7)) (by decide) (by decide) ?_
    refine XS.iconst X5.here hx rfl (hb hby d19_14) ?_
    exact retI X5 hx Bd.returns (hb hby d19_15) hr
  · show Ql1S Z pR1 pR2 pR4 h0 n0 _ T5.heap _
    rw [e5]
    exact ⟨rfl, N0, rfl⟩
theorem d19_10 : decode jdk_44_method_3_code 10 = .ok (.iconst 2, 1) := by decide +kernel
theorem d19_11 : decode jdk_44_method_3_code 11 = .ok (.goto 4, 3) := by decide +kernel
theorem ef_l2S (m : MethodId) (pR1 : Addr) : entryFrame m #[(.ref pR1)] 1 = mkF m 0 #[.val (.ref pR1)] [] := by first | (simp [entryFrame, mkF, argsToLocals, Value.category]; done) | rfl
def Ql2S (Z : State) (pR1 : Addr) (pR2 : Addr) (pR4 : Addr) (h0 : Heap) (n0 : Nat) (v : Option Value) (h : Heap) (L : List Loc) : Prop := v = some (.int 2) ∧ Fr n0 L ∧ h = h0
set_option maxRecDepth 65536 in
set_option maxHeartbeats 40000000 in
theorem l2S (l : Launch) (Z : State) (a0 : Array Value) (hw : ∀ d ∈ tables_1, d.before a0 Z = true) (ws : List Jvm.Cond) (pR1 : Addr) (pR2 : Addr) (pR4 : Addr) (h0 : Heap) (n0 : Nat) (Z0 : n0 ≤ h0.size) (F_e1_pR1 : Fld Z h0 pR1 "java/util/ImmutableCollections$List12" "e1" "Ljava/lang/Object;" (.ref pR2)) (S_ImmutableCollections_EMPTY : Sta Z h0 "java/util/ImmutableCollections" "EMPTY" "Ljava/lang/Object;" (.ref pR4)) (hc7 : pR2 ≠ pR4) :
    oM l yN17 jdk_44_method_3_code 1 (some .int) ws ({ frames := 0, cells := 0, slots := 0, locals := 0 } : Room) #[(.ref pR1)] Z h0 (Ql2S Z pR1 pR2 pR4 h0 n0) := by
  refine MetFree.of_bodySF (plainFor_of_name pn_7) hisR ?_
  intro p e s m args below meth c s₁ Bd hml0 hP hK
  obtain ⟨rfl, hZ, hh⟩ := hP
  have hx := Bd.exec
  have hby := Bd.bytes
  have hml : c.maxLocals = 1 := hml0
  have hown : s.vm.findClass "java/util/ImmutableCollections$List12" = some m.cls := findClass_of_methodNamed Bd.named
  have hnm := (name_of_methodNamed Bd.named Bd.method).1
  have X0 : Stand p l e ({ frames := 0, cells := 0, slots := 0, locals := 0 } : Room) s m #[(.ref pR1)] below meth c s₁ [] 0 0 := Stand.of_body Bd
  have e0 : s₁.heap = h0 := by rw [← hh, Bd.state]; rfl
  have N0 := Fr.nil n0
  obtain ⟨T3, X3, e3, st3⟩ := getF X0 hx hZ hown (host := "") (Or.inl (ow hw 117 rfl)) Via.refl e0 F_e1_pR1 (g := (mkF m 1 #[.val (.ref pR1)] [(.ref pR1)])) rfl rfl (hb hby d19_1)
  obtain ⟨T5, X5, e5, st5⟩ := getS2 X3 hx hZ hown (Or.inr (ow hw 125 rfl)) Via.refl e3 S_ImmutableCollections_EMPTY (g := (mkF m 4 #[.val (.ref pR1)] [(.ref pR2)])) rfl (hb hby d19_4)
  obtain ⟨fs, hr, hrun, hended, hW, hsame⟩ := X5.leave (v := some (.int 2)) (fun h => by rw [Bd.returns] at h; cases h)
  refine ⟨_, _, castTop (ef_l2S m pR1) ?_, hrun, hended, _, _, rfl, ?_, ⟨_, rfl⟩, hW, hsame.mono (by decide) (by decide)⟩
  · show oS p e below s₁ m 0 #[.val (.ref pR1)] [] _
    refine XS.aloadN X0.here hx rfl (hb hby d19_0) rfl rfl ?_
    refine st3 _ ?_
    refine st5 _ ?_
    refine Jvm.RoadKit.acmp (g := (mkF m 7 #[.val (.ref pR1)] [(.ref pR4), (.ref pR2)])) X5 hx rfl rfl rfl (pc0 := 7) (pc' := 10) (same := false) rfl (hb hby d19_7) rfl (decide_eq_false fun q => hc7 (Value.ref.inj q)) (by decide) (by decide) ?_
    refine XS.iconst X5.here hx rfl (hb hby d19_10) ?_
    refine XS.goto X5.here hx rfl (pc0 := 11) (pc' := 15) rfl (hb hby d19_11) (by decide) (by decide) ?_
    exact retI X5 hx Bd.returns (hb hby d19_15) hr
  · show Ql2S Z pR1 pR2 pR4 h0 n0 _ T5.heap _
    rw [e5]
    exact ⟨rfl, N0, rfl⟩
theorem d15_0 : decode jdk_45_method_4_code 0 = .ok (.aload_n 0, 1) := by decide +kernel
theorem d15_1 : decode jdk_45_method_4_code 1 = .ok (.getfield 7, 3) := by decide +kernel
theorem d15_4 : decode jdk_45_method_4_code 4 = .ok (.iload_n 1, 1) := by decide +kernel
theorem d15_5 : decode jdk_45_method_4_code 5 = .ok (.aaload, 1) := by decide +kernel
theorem d15_6 : decode jdk_45_method_4_code 6 = .ok (.areturn, 1) := by decide +kernel
theorem ef_lnG (m : MethodId) (pR1 : Addr) (pI2 : Int32) : entryFrame m #[(.ref pR1), (.int pI2)] 2 = mkF m 0 #[.val (.ref pR1), .val (.int pI2)] [] := by first | (simp [entryFrame, mkF, argsToLocals, Value.category]; done) | rfl
def QlnG (Z : State) (pR1 : Addr) (pI2 : Int32) (pR3 : Addr) (pC5 : Cell) (pR6 : Addr) (h0 : Heap) (n0 : Nat) (v : Option Value) (h : Heap) (L : List Loc) : Prop := v = some (.ref pR6) ∧ Fr n0 L ∧ h = h0
set_option maxRecDepth 65536 in
set_option maxHeartbeats 40000000 in
theorem lnG (l : Launch) (Z : State) (a0 : Array Value) (hw : ∀ d ∈ tables_1, d.before a0 Z = true) (ws : List Jvm.Cond) (pR1 : Addr) (pI2 : Int32) (pR3 : Addr) (pC5 : Cell) (pR6 : Addr) (h0 : Heap) (n0 : Nat) (Z0 : n0 ≤ h0.size) (F_elements_pR1 : Fld Z h0 pR1 "java/util/ImmutableCollections$ListN" "elements" "[Ljava/lang/Object;" (.ref pR3)) (Ar_pR3 : Arr Z h0 pR3 pC5 (.object "java/lang/Object")) (hat_pC5_5 : pC5.slots[(pI2).toNatClampNeg]? = some (.ref pR6)) (hc5 : ¬ (pI2 < 0 ∨ pC5.slots.size ≤ (pI2).toNatClampNeg)) :
    oM l yN18 jdk_45_method_4_code 2 (some (.object "java/lang/Object")) ws ({ frames := 0, cells := 0, slots := 0, locals := 0 } : Room) #[(.ref pR1), (.int pI2)] Z h0 (QlnG Z pR1 pI2 pR3 pC5 pR6 h0 n0) := by
  refine MetFree.of_bodySF (plainFor_of_name pn_6) hisR ?_
  intro p e s m args below meth c s₁ Bd hml0 hP hK
  obtain ⟨rfl, hZ, hh⟩ := hP
  have hx := Bd.exec
  have hby := Bd.bytes
  have hml : c.maxLocals = 2 := hml0
  have hown : s.vm.findClass "java/util/ImmutableCollections$ListN" = some m.cls := findClass_of_methodNamed Bd.named
  have hnm := (name_of_methodNamed Bd.named Bd.method).1
  have X0 : Stand p l e ({ frames := 0, cells := 0, slots := 0, locals := 0 } : Room) s m #[(.ref pR1), (.int pI2)] below meth c s₁ [] 0 0 := Stand.of_body Bd
  have e0 : s₁.heap = h0 := by rw [← hh, Bd.state]; rfl
  have N0 := Fr.nil n0
  obtain ⟨T4, X4, e4, st4⟩ := getF X0 hx hZ hown (host := "") (Or.inl (ow hw 69 rfl)) Via.refl e0 F_elements_pR1 (g := (mkF m 1 #[.val (.ref pR1), .val (.int pI2)] [(.ref pR1)])) rfl rfl (hb hby d15_1)
  obtain ⟨fs, hr, hrun, hended, hW, hsame⟩ := X4.leave (v := some (.ref pR6)) (fun h => by rw [Bd.returns] at h; cases h)
  refine ⟨_, _, castTop (ef_lnG m pR1 pI2) ?_, hrun, hended, _, _, rfl, ?_, ⟨_, rfl⟩, hW, hsame.mono (by decide) (by decide)⟩
  · show oS p e below s₁ m 0 #[.val (.ref pR1), .val (.int pI2)] [] _
    refine XS.aloadN X0.here hx rfl (hb hby d15_0) rfl rfl ?_
    refine st4 _ ?_
    refine XS.iloadN X4.here hx rfl (hb hby d15_4) rfl ?_
    refine X4.aaload hx (j := pI2) (v := (.ref pR6)) (by rw [e4]; exact Ar_pR3.1) (State.isArrayOf_alike hZ.alike Ar_pR3.2.1) rfl Ar_pR3.2.2 hc5 hat_pC5_5 (g := (mkF m 5 #[.val (.ref pR1), .val (.int pI2)] [(.int pI2), (.ref pR3)])) rfl rfl (hb hby d15_5) _ ?_
    exact retOut X4 hx Bd.returns rfl (Or.inr (Or.inr (Or.inr (Or.inr ⟨rfl, rfl, rfl⟩)))) (hb hby d15_6) hr
  · show QlnG Z pR1 pI2 pR3 pC5 pR6 h0 n0 _ T4.heap _
    rw [e4]
    exact ⟨rfl, N0, rfl⟩
theorem d20_0 : decode jdk_44_method_5_code 0 = .ok (.iload_n 1, 1) := by decide +kernel
theorem d20_1 : decode jdk_44_method_5_code 1 = .ok (.ifCond .ne 8, 3) := by decide +kernel
theorem d20_4 : decode jdk_44_method_5_code 4 = .ok (.aload_n 0, 1) := by decide +kernel
theorem d20_5 : decode jdk_44_method_5_code 5 = .ok (.getfield 13, 3) := by decide +kernel
theorem d20_8 : decode jdk_44_method_5_code 8 = .ok (.areturn, 1) := by decide +kernel
theorem ef_l12G0 (m : MethodId) (pR1 : Addr) : entryFrame m #[(.ref pR1), (.int 0)] 2 = mkF m 0 #[.val (.ref pR1), .val (.int 0)] [] := by first | (simp [entryFrame, mkF, argsToLocals, Value.category]; done) | rfl
def Ql12G0 (Z : State) (pR1 : Addr) (pR2 : Addr) (h0 : Heap) (n0 : Nat) (v : Option Value) (h : Heap) (L : List Loc) : Prop := v = some (.ref pR2) ∧ Fr n0 L ∧ h = h0
set_option maxRecDepth 65536 in
set_option maxHeartbeats 40000000 in
theorem l12G0 (l : Launch) (Z : State) (a0 : Array Value) (hw : ∀ d ∈ tables_1, d.before a0 Z = true) (ws : List Jvm.Cond) (pR1 : Addr) (pR2 : Addr) (h0 : Heap) (n0 : Nat) (Z0 : n0 ≤ h0.size) (F_e0_pR1 : Fld Z h0 pR1 "java/util/ImmutableCollections$List12" "e0" "Ljava/lang/Object;" (.ref pR2)) :
    oM l yN19 jdk_44_method_5_code 2 (some (.object "java/lang/Object")) ws ({ frames := 0, cells := 0, slots := 0, locals := 0 } : Room) #[(.ref pR1), (.int 0)] Z h0 (Ql12G0 Z pR1 pR2 h0 n0) := by
  refine MetFree.of_bodySF (plainFor_of_name pn_7) hisR ?_
  intro p e s m args below meth c s₁ Bd hml0 hP hK
  obtain ⟨rfl, hZ, hh⟩ := hP
  have hx := Bd.exec
  have hby := Bd.bytes
  have hml : c.maxLocals = 2 := hml0
  have hown : s.vm.findClass "java/util/ImmutableCollections$List12" = some m.cls := findClass_of_methodNamed Bd.named
  have hnm := (name_of_methodNamed Bd.named Bd.method).1
  have X0 : Stand p l e ({ frames := 0, cells := 0, slots := 0, locals := 0 } : Room) s m #[(.ref pR1), (.int 0)] below meth c s₁ [] 0 0 := Stand.of_body Bd
  have e0 : s₁.heap = h0 := by rw [← hh, Bd.state]; rfl
  have N0 := Fr.nil n0
  obtain ⟨T3, X3, e3, st3⟩ := getF X0 hx hZ hown (host := "") (Or.inl (ow hw 115 rfl)) Via.refl e0 F_e0_pR1 (g := (mkF m 5 #[.val (.ref pR1), .val (.int 0)] [(.ref pR1)])) rfl rfl (hb hby d20_5)
  obtain ⟨fs, hr, hrun, hended, hW, hsame⟩ := X3.leave (v := some (.ref pR2)) (fun h => by rw [Bd.returns] at h; cases h)
  refine ⟨_, _, castTop (ef_l12G0 m pR1) ?_, hrun, hended, _, _, rfl, ?_, ⟨_, rfl⟩, hW, hsame.mono (by decide) (by decide)⟩
  · show oS p e below s₁ m 0 #[.val (.ref pR1), .val (.int 0)] [] _
    refine XS.iloadN X0.here hx rfl (hb hby d20_0) rfl ?_
    refine XS.ifNo X0.here hx rfl (hb hby d20_1) rfl ((if0 _ _).trans (teq (by decide : (0 : Int32) = (0 : Int32))).2) ?_
    refine XS.aloadN X0.here hx rfl (hb hby d20_4) rfl rfl ?_
    refine st3 _ ?_
    exact retOut X3 hx Bd.returns rfl (Or.inr (Or.inr (Or.inr (Or.inr ⟨rfl, rfl, rfl⟩)))) (hb hby d20_8) hr
  · show Ql12G0 Z pR1 pR2 h0 n0 _ T3.heap _
    rw [e3]
    exact ⟨rfl, N0, rfl⟩
theorem d20_9 : decode jdk_44_method_5_code 9 = .ok (.iload_n 1, 1) := by decide +kernel
theorem d20_10 : decode jdk_44_method_5_code 10 = .ok (.iconst 1, 1) := by decide +kernel
theorem d20_11 : decode jdk_44_method_5_code 11 = .ok (.if_icmp .ne 18, 3) := by decide +kernel
theorem d20_14 : decode jdk_44_method_5_code 14 = .ok (.aload_n 0, 1) := by decide +kernel
theorem d20_15 : decode jdk_44_method_5_code 15 = .ok (.getfield 24, 3) := by decide +kernel
theorem d20_18 : decode jdk_44_method_5_code 18 = .ok (.getstatic 19, 3) := by decide +kernel
theorem d20_21 : decode jdk_44_method_5_code 21 = .ok (.if_acmp .eq 8, 3) := by decide +kernel
theorem d20_24 : decode jdk_44_method_5_code 24 = .ok (.aload_n 0, 1) := by decide +kernel
theorem d20_25 : decode jdk_44_method_5_code 25 = .ok (.getfield 24, 3) := by decide +kernel
theorem d20_28 : decode jdk_44_method_5_code 28 = .ok (.areturn, 1) := by decide +kernel
theorem ef_l12G1 (m : MethodId) (pR1 : Addr) : entryFrame m #[(.ref pR1), (.int 1)] 2 = mkF m 0 #[.val (.ref pR1), .val (.int 1)] [] := by first | (simp [entryFrame, mkF, argsToLocals, Value.category]; done) | rfl
def Ql12G1 (Z : State) (pR1 : Addr) (pR2 : Addr) (pR4 : Addr) (h0 : Heap) (n0 : Nat) (v : Option Value) (h : Heap) (L : List Loc) : Prop := v = some (.ref pR2) ∧ Fr n0 L ∧ h = h0
set_option maxRecDepth 65536 in
set_option maxHeartbeats 40000000 in
theorem l12G1 (l : Launch) (Z : State) (a0 : Array Value) (hw : ∀ d ∈ tables_1, d.before a0 Z = true) (ws : List Jvm.Cond) (pR1 : Addr) (pR2 : Addr) (pR4 : Addr) (h0 : Heap) (n0 : Nat) (Z0 : n0 ≤ h0.size) (F_e1_pR1 : Fld Z h0 pR1 "java/util/ImmutableCollections$List12" "e1" "Ljava/lang/Object;" (.ref pR2)) (S_ImmutableCollections_EMPTY : Sta Z h0 "java/util/ImmutableCollections" "EMPTY" "Ljava/lang/Object;" (.ref pR4)) (hc21 : pR2 ≠ pR4) :
    oM l yN19 jdk_44_method_5_code 2 (some (.object "java/lang/Object")) ws ({ frames := 0, cells := 0, slots := 0, locals := 0 } : Room) #[(.ref pR1), (.int 1)] Z h0 (Ql12G1 Z pR1 pR2 pR4 h0 n0) := by
  refine MetFree.of_bodySF (plainFor_of_name pn_7) hisR ?_
  intro p e s m args below meth c s₁ Bd hml0 hP hK
  obtain ⟨rfl, hZ, hh⟩ := hP
  have hx := Bd.exec
  have hby := Bd.bytes
  have hml : c.maxLocals = 2 := hml0
  have hown : s.vm.findClass "java/util/ImmutableCollections$List12" = some m.cls := findClass_of_methodNamed Bd.named
  have hnm := (name_of_methodNamed Bd.named Bd.method).1
  have X0 : Stand p l e ({ frames := 0, cells := 0, slots := 0, locals := 0 } : Room) s m #[(.ref pR1), (.int 1)] below meth c s₁ [] 0 0 := Stand.of_body Bd
  have e0 : s₁.heap = h0 := by rw [← hh, Bd.state]; rfl
  have N0 := Fr.nil n0
  obtain ⟨T3, X3, e3, st3⟩ := getF X0 hx hZ hown (host := "") (Or.inl (ow hw 117 rfl)) Via.refl e0 F_e1_pR1 (g := (mkF m 15 #[.val (.ref pR1), .val (.int 1)] [(.ref pR1)])) rfl rfl (hb hby d20_15)
  obtain ⟨T5, X5, e5, st5⟩ := getS2 X3 hx hZ hown (Or.inr (ow hw 125 rfl)) Via.refl e3 S_ImmutableCollections_EMPTY (g := (mkF m 18 #[.val (.ref pR1), .val (.int 1)] [(.ref pR2)])) rfl (hb hby d20_18)
  obtain ⟨T6, X6, e6, st6⟩ := getF X5 hx hZ hown (host := "") (Or.inl (ow hw 117 rfl)) Via.refl e5 F_e1_pR1 (g := (mkF m 25 #[.val (.ref pR1), .val (.int 1)] [(.ref pR1)])) rfl rfl (hb hby d20_25)
  obtain ⟨fs, hr, hrun, hended, hW, hsame⟩ := X6.leave (v := some (.ref pR2)) (fun h => by rw [Bd.returns] at h; cases h)
  refine ⟨_, _, castTop (ef_l12G1 m pR1) ?_, hrun, hended, _, _, rfl, ?_, ⟨_, rfl⟩, hW, hsame.mono (by decide) (by decide)⟩
  · show oS p e below s₁ m 0 #[.val (.ref pR1), .val (.int 1)] [] _
    refine XS.iloadN X0.here hx rfl (hb hby d20_0) rfl ?_
    refine XS.ifYes X0.here hx rfl (pc0 := 1) (pc' := 9) rfl (hb hby d20_1) rfl ((if0 _ _).trans (feq (by decide : ¬ ((1 : Int32) = (0 : Int32)))).2) (by decide) (by decide) ?_
    refine XS.iloadN X0.here hx rfl (hb hby d20_9) rfl ?_
    refine XS.iconst X0.here hx rfl (hb hby d20_10) ?_
    refine XS.icmpNo X0.here hx rfl (hb hby d20_11) rfl (teq (by decide : (1 : Int32) = (1 : Int32))).2 ?_
    refine XS.aloadN X0.here hx rfl (hb hby d20_14) rfl rfl ?_
    refine st3 _ ?_
    refine st5 _ ?_
    show oS p e below T5 m 21 #[.val (.ref pR1), .val (.int 1)] [(.ref pR4), (.ref pR2)] _
    refine Jvm.RoadKit.acmp (g := (mkF m 21 #[.val (.ref pR1), .val (.int 1)] [(.ref pR4), (.ref pR2)])) X5 hx rfl rfl rfl (pc0 := 21) (pc' := 24) (same := false) rfl (hb hby d20_21) rfl (decide_eq_false fun q => hc21 (Value.ref.inj q)) (by decide) (by decide) ?_
    refine XS.aloadN X5.here hx rfl (hb hby d20_24) rfl rfl ?_
    refine st6 _ ?_
    exact retOut X6 hx Bd.returns rfl (Or.inr (Or.inr (Or.inr (Or.inr ⟨rfl, rfl, rfl⟩)))) (hb hby d20_28) hr
  · show Ql12G1 Z pR1 pR2 pR4 h0 n0 _ T6.heap _
    rw [e6]
    exact ⟨rfl, N0, rfl⟩
theorem d14_0 : decode method_3_code 0 = .ok (.iload_n 1, 1) := by decide +kernel
theorem d14_1 : decode method_3_code 1 = .ok (.iload_n 2, 1) := by decide +kernel
theorem d14_2 : decode method_3_code 2 = .ok (.if_icmp .lt 5, 3) := by decide +kernel
theorem d14_5 : decode method_3_code 5 = .ok (.lconst 0, 1) := by decide +kernel
theorem d14_6 : decode method_3_code 6 = .ok (.lreturn, 1) := by decide +kernel
theorem pn_12 : plainName "com/example/watchful_junction/watchfuljunction/scenario/ProportionalSpecEqualSharesPinLaw" = true := by first | (simp [plainName, overriddenIn]; done) | decide +kernel
theorem ef_atE (m : MethodId) (pR1 : Addr) (pI2 : Int32) (pI3 : Int32) : entryFrame m #[(.ref pR1), (.int pI2), (.int pI3)] 3 = mkF m 0 #[.val (.ref pR1), .val (.int pI2), .val (.int pI3)] [] := by first | (simp [entryFrame, mkF, argsToLocals, Value.category]; done) | rfl
def QatE (Z : State) (pR1 : Addr) (pI2 : Int32) (pI3 : Int32) (h0 : Heap) (n0 : Nat) (v : Option Value) (h : Heap) (L : List Loc) : Prop := v = some (.long 0) ∧ Fr n0 L ∧ h = h0
set_option maxRecDepth 65536 in
set_option maxHeartbeats 40000000 in
theorem atE (l : Launch) (Z : State) (a0 : Array Value) (hw : ∀ d ∈ tables_1, d.before a0 Z = true) (ws : List Jvm.Cond) (pR1 : Addr) (pI2 : Int32) (pI3 : Int32) (h0 : Heap) (n0 : Nat) (Z0 : n0 ≤ h0.size) (hc2 : ¬ (pI2 < pI3)) :
    oM l yN20 method_3_code 3 (some .long) ws ({ frames := 0, cells := 0, slots := 0, locals := 0 } : Room) #[(.ref pR1), (.int pI2), (.int pI3)] Z h0 (QatE Z pR1 pI2 pI3 h0 n0) := by
  refine MetFree.of_bodySF (plainFor_of_name pn_12) hisR ?_
  intro p e s m args below meth c s₁ Bd hml0 hP hK
  obtain ⟨rfl, hZ, hh⟩ := hP
  have hx := Bd.exec
  have hby := Bd.bytes
  have hml : c.maxLocals = 3 := hml0
  have hown : s.vm.findClass "com/example/watchful_junction/watchfuljunction/scenario/ProportionalSpecEqualSharesPinLaw" = some m.cls := findClass_of_methodNamed Bd.named
  have hnm := (name_of_methodNamed Bd.named Bd.method).1
  have X0 : Stand p l e ({ frames := 0, cells := 0, slots := 0, locals := 0 } : Room) s m #[(.ref pR1), (.int pI2), (.int pI3)] below meth c s₁ [] 0 0 := Stand.of_body Bd
  have e0 : s₁.heap = h0 := by rw [← hh, Bd.state]; rfl
  have N0 := Fr.nil n0
  obtain ⟨fs, hr, hrun, hended, hW, hsame⟩ := X0.leave (v := some (.long 0)) (fun h => by rw [Bd.returns] at h; cases h)
  refine ⟨_, _, castTop (ef_atE m pR1 pI2 pI3) ?_, hrun, hended, _, _, rfl, ?_, ⟨_, rfl⟩, hW, hsame.mono (by decide) (by decide)⟩
  · show oS p e below s₁ m 0 #[.val (.ref pR1), .val (.int pI2), .val (.int pI3)] [] _
    refine XS.iloadN X0.here hx rfl (hb hby d14_0) rfl ?_
    refine XS.iloadN X0.here hx rfl (hb hby d14_1) rfl ?_
    refine XS.icmpNo X0.here hx rfl (hb hby d14_2) rfl (flt hc2).1 ?_
    refine XS.lconst X0.here hx rfl (hb hby d14_5) ?_
    exact retOut X0 hx Bd.returns rfl (Or.inr (Or.inl ⟨rfl, rfl, _, rfl⟩)) (hb hby d14_6) hr
  · show QatE Z pR1 pI2 pI3 h0 n0 _ s₁.heap _
    rw [e0]
    exact ⟨rfl, N0, rfl⟩
theorem d14_7 : decode method_3_code 7 = .ok (.aload_n 0, 1) := by decide +kernel
theorem d14_8 : decode method_3_code 8 = .ok (.iload_n 1, 1) := by decide +kernel
theorem d14_9 : decode method_3_code 9 = .ok (.invokeinterface 30 2, 5) := by decide +kernel
theorem pd_10 : parseMethodDescriptor "(I)Ljava/lang/Object;" = some ⟨[.int], some (.object "java/lang/Object")⟩ := by decide +kernel
theorem d14_14 : decode method_3_code 14 = .ok (.checkcast 34, 3) := by decide +kernel
theorem d14_17 : decode method_3_code 17 = .ok (.invokevirtual 36, 3) := by decide +kernel
theorem pd_11 : parseMethodDescriptor "()J" = some ⟨[], some .long⟩ := by decide +kernel
theorem d14_20 : decode method_3_code 20 = .ok (.lreturn, 1) := by decide +kernel
theorem ef_atN (m : MethodId) (pR1 : Addr) (pI2 : Int32) (pI3 : Int32) : entryFrame m #[(.ref pR1), (.int pI2), (.int pI3)] 3 = mkF m 0 #[.val (.ref pR1), .val (.int pI2), .val (.int pI3)] [] := by first | (simp [entryFrame, mkF, argsToLocals, Value.category]; done) | rfl
def QatN (Z : State) (pR1 : Addr) (pI2 : Int32) (pI3 : Int32) (pR4 : Addr) (pC5 : Cell) (pR6 : Addr) (pI9 : Int32) (h0 : Heap) (n0 : Nat) (v : Option Value) (h : Heap) (L : List Loc) : Prop := v = some (.long (pI9.toInt64)) ∧ Fr n0 L ∧ h = h0
set_option maxRecDepth 65536 in
set_option maxHeartbeats 40000000 in
theorem atN (l : Launch) (Z : State) (a0 : Array Value) (hw : ∀ d ∈ tables_1, d.before a0 Z = true) (ws : List Jvm.Cond) (pR1 : Addr) (pI2 : Int32) (pI3 : Int32) (pR4 : Addr) (pC5 : Cell) (pR6 : Addr) (pI9 : Int32) (h0 : Heap) (n0 : Nat) (Z0 : n0 ≤ h0.size) (F_elements_pR1 : Fld Z h0 pR1 "java/util/ImmutableCollections$ListN" "elements" "[Ljava/lang/Object;" (.ref pR4)) (Ar_pR4 : Arr Z h0 pR4 pC5 (.object "java/lang/Object")) (hat_pC5_2 : pC5.slots[(pI2).toNatClampNeg]? = some (.ref pR6)) (E_pR1 : Exa Z h0 pR1 "java/util/ImmutableCollections$ListN") (E_pR6 : Exa Z h0 pR6 "java/lang/Integer") (F_value_pR6 : Fld Z h0 pR6 "java/lang/Integer" "value" "I" (.int pI9)) (hc2 : pI2 < pI3) (hc9 : ¬ (pI2 < 0 ∨ pC5.slots.size ≤ (pI2).toNatClampNeg)) :
    oM l yN20 method_3_code 3 (some .long) ws ({ frames := 1, cells := 0, slots := 0, locals := 13 } : Room) #[(.ref pR1), (.int pI2), (.int pI3)] Z h0 (QatN Z pR1 pI2 pI3 pR4 pC5 pR6 pI9 h0 n0) := by
  refine MetFree.of_bodySF (plainFor_of_name pn_12) hisR ?_
  intro p e s m args below meth c s₁ Bd hml0 hP hK
  obtain ⟨rfl, hZ, hh⟩ := hP
  have hx := Bd.exec
  have hby := Bd.bytes
  have hml : c.maxLocals = 3 := hml0
  have hown : s.vm.findClass "com/example/watchful_junction/watchfuljunction/scenario/ProportionalSpecEqualSharesPinLaw" = some m.cls := findClass_of_methodNamed Bd.named
  have hnm := (name_of_methodNamed Bd.named Bd.method).1
  have X0 : Stand p l e ({ frames := 1, cells := 0, slots := 0, locals := 13 } : Room) s m #[(.ref pR1), (.int pI2), (.int pI3)] below meth c s₁ [] 0 0 := Stand.of_body Bd
  have e0 : s₁.heap = h0 := by rw [← hh, Bd.state]; rfl
  have N0 := Fr.nil n0
  obtain ⟨cq7, kq7, q7a, q7b, q7c⟩ := isOf hZ e0 E_pR1
  obtain ⟨_, _, ⟨T7, L7, k7, n7⟩, -, X7, ⟨Lc7, hQ7, l7, y7, z7⟩, st7⟩ := X0.interfaceBack hx (xi := yN21) (y := yN18) hown (mvT hZ (ow hw 86 rfl)) (mvT hZ (ow hw 87 rfl)) (mvT hZ (ow hw 88 rfl)) (mvT hZ (ow hw 89 rfl)) (mvT hZ (ow hw 90 rfl)) (mvT hZ (ow hw 91 rfl)) (mvT hZ (ow hw 92 rfl)) (mvT hZ (ow hw 80 rfl)) (by decide) (backOf (W := 0) (lnG l Z a0 hw [] pR1 pI2 pR4 pC5 pR6 h0 n0 Z0 F_elements_pR1 Ar_pR4 hat_pC5_2 hc9) hZ (ow hw 93 rfl) (ow hw 43 rfl) (by decide) (by decide)) q7a q7b q7c (g := (mkF m 9 #[.val (.ref pR1), .val (.int pI2), .val (.int pI3)] [(.int pI2), (.ref pR1)])) rfl (by rw [hml]; rfl) (Steps.refl _) (argsL := [(.int pI2)]) (rest := []) (lenOf pd_10 rfl) rfl (Nat.le_refl _) (hb hby d14_9) (fun _ _ => ⟨rfl, e0, (by decide : 0 + 0 ≤ _), (by decide : 0 + 0 ≤ _)⟩)
  dsimp only [Pt.U, Pt.locs, Pt.cells, Pt.slots] at X7 l7 y7 z7 st7 hQ7
  subst l7 y7 z7
  obtain ⟨rfl, Nq7, e7⟩ := hQ7
  have N7 := Fr.app N0 Nq7
  obtain ⟨T8, X8, e8, st8⟩ := castY X7 hx hZ hown (ow hw 94 rfl) e7 (Ins.self E_pR6) (g := (mkF m 14 #[.val (.ref pR1), .val (.int pI2), .val (.int pI3)] [(.ref pR6)])) rfl rfl (hb hby d14_14)
  obtain ⟨cq10, kq10, q10a, q10b, q10c⟩ := isOf hZ e8 E_pR6
  obtain ⟨_, _, ⟨T10, L10, k10, n10⟩, -, X10, ⟨Lc10, hQ10, l10, y10, z10⟩, st10⟩ := X8.virtualBack hx (y := yN4) (z := yN4) hown (mvT hZ (ow hw 95 rfl)) (mvT hZ (ow hw 96 rfl)) (notFace_of_selects (args := #[]) (mvT hZ (ow hw 98 rfl))) (mvT hZ (ow hw 98 rfl)) (mvT hZ (ow hw 97 rfl)) (by decide) (backOf (W := 0) (longV l Z a0 hw [] pR6 pI9 h0 n0 Z0 F_value_pR6) hZ (ow hw 99 rfl) (ow hw 9 rfl) (by decide) (by decide)) q10a q10c (g := (mkF m 17 #[.val (.ref pR1), .val (.int pI2), .val (.int pI3)] [(.ref pR6)])) rfl (by rw [hml]; rfl) (Steps.refl _) (argsL := []) (rest := []) (lenOf pd_11 rfl) rfl (Nat.le_refl _) (hb hby d14_17) (fun _ _ => ⟨rfl, e8, (by decide : 0 + 0 ≤ _), (by decide : 0 + 0 ≤ _)⟩)
  dsimp only [Pt.U, Pt.locs, Pt.cells, Pt.slots] at X10 l10 y10 z10 st10 hQ10
  subst l10 y10 z10
  obtain ⟨rfl, Nq10, e10⟩ := hQ10
  have N10 := Fr.app N7 Nq10
  obtain ⟨fs, hr, hrun, hended, hW, hsame⟩ := X10.leave (v := some (.long (pI9.toInt64))) (fun h => by rw [Bd.returns] at h; cases h)
  refine ⟨_, _, castTop (ef_atN m pR1 pI2 pI3) ?_, hrun, hended, _, _, rfl, ?_, ⟨_, rfl⟩, hW, hsame.mono (by decide) (by decide)⟩
  · show oS p e below s₁ m 0 #[.val (.ref pR1), .val (.int pI2), .val (.int pI3)] [] _
    refine XS.iloadN X0.here hx rfl (hb hby d14_0) rfl ?_
    refine XS.iloadN X0.here hx rfl (hb hby d14_1) rfl ?_
    refine XS.icmpYes X0.here hx rfl (pc0 := 2) (pc' := 7) rfl (hb hby d14_2) rfl (tlt hc2).1 (by decide) (by decide) ?_
    refine XS.aloadN X0.here hx rfl (hb hby d14_7) rfl rfl ?_
    refine XS.iloadN X0.here hx rfl (hb hby d14_8) rfl ?_
    refine st7.trans ?_
    refine st8 _ ?_
    refine st10.trans ?_
    show oS p e below T10 m 20 #[.val (.ref pR1), .val (.int pI2), .val (.int pI3)] [(.long (pI9.toInt64))] _
    exact retOut X10 hx Bd.returns rfl (Or.inr (Or.inl ⟨rfl, rfl, _, rfl⟩)) (hb hby d14_20) hr
  · show QatN Z pR1 pI2 pI3 pR4 pC5 pR6 pI9 h0 n0 _ T10.heap _
    rw [e10]
    exact ⟨rfl, N10, rfl⟩
theorem ef_at12_0 (m : MethodId) (pR1 : Addr) (pI2 : Int32) : entryFrame m #[(.ref pR1), (.int 0), (.int pI2)] 3 = mkF m 0 #[.val (.ref pR1), .val (.int 0), .val (.int pI2)] [] := by first | (simp [entryFrame, mkF, argsToLocals, Value.category]; done) | rfl
def Qat12_0 (Z : State) (pR1 : Addr) (pI2 : Int32) (pR3 : Addr) (pI6 : Int32) (h0 : Heap) (n0 : Nat) (v : Option Value) (h : Heap) (L : List Loc) : Prop := v = some (.long (pI6.toInt64)) ∧ Fr n0 L ∧ h = h0
set_option maxRecDepth 65536 in
set_option maxHeartbeats 40000000 in
theorem at12_0 (l : Launch) (Z : State) (a0 : Array Value) (hw : ∀ d ∈ tables_1, d.before a0 Z = true) (ws : List Jvm.Cond) (pR1 : Addr) (pI2 : Int32) (pR3 : Addr) (pI6 : Int32) (h0 : Heap) (n0 : Nat) (Z0 : n0 ≤ h0.size) (F_e0_pR1 : Fld Z h0 pR1 "java/util/ImmutableCollections$List12" "e0" "Ljava/lang/Object;" (.ref pR3)) (E_pR1 : Exa Z h0 pR1 "java/util/ImmutableCollections$List12") (E_pR3 : Exa Z h0 pR3 "java/lang/Integer") (F_value_pR3 : Fld Z h0 pR3 "java/lang/Integer" "value" "I" (.int pI6)) (hc2 : (0 : Int32) < pI2) :
    oM l yN20 method_3_code 3 (some .long) ws ({ frames := 1, cells := 0, slots := 0, locals := 13 } : Room) #[(.ref pR1), (.int 0), (.int pI2)] Z h0 (Qat12_0 Z pR1 pI2 pR3 pI6 h0 n0) := by
  refine MetFree.of_bodySF (plainFor_of_name pn_12) hisR ?_
  intro p e s m args below meth c s₁ Bd hml0 hP hK
  obtain ⟨rfl, hZ, hh⟩ := hP
  have hx := Bd.exec
  have hby := Bd.bytes
  have hml : c.maxLocals = 3 := hml0
  have hown : s.vm.findClass "com/example/watchful_junction/watchfuljunction/scenario/ProportionalSpecEqualSharesPinLaw" = some m.cls := findClass_of_methodNamed Bd.named
  have hnm := (name_of_methodNamed Bd.named Bd.method).1
  have X0 : Stand p l e ({ frames := 1, cells := 0, slots := 0, locals := 13 } : Room) s m #[(.ref pR1), (.int 0), (.int pI2)] below meth c s₁ [] 0 0 := Stand.of_body Bd
  have e0 : s₁.heap = h0 := by rw [← hh, Bd.state]; rfl
  have N0 := Fr.nil n0
  obtain ⟨cq4, kq4, q4a, q4b, q4c⟩ := isOf hZ e0 E_pR1
  obtain ⟨_, _, ⟨T4, L4, k4, n4⟩, -, X4, ⟨Lc4, hQ4, l4, y4, z4⟩, st4⟩ := X0.interfaceBack hx (xi := yN21) (y := yN19) hown (mvT hZ (ow hw 86 rfl)) (mvT hZ (ow hw 87 rfl)) (mvT hZ (ow hw 88 rfl)) (mvT hZ (ow hw 126 rfl)) (mvT hZ (ow hw 127 rfl)) (mvT hZ (ow hw 128 rfl)) (mvT hZ (ow hw 129 rfl)) (mvT hZ (ow hw 123 rfl)) (by decide) (backOf (W := 0) (l12G0 l Z a0 hw [] pR1 pR3 h0 n0 Z0 F_e0_pR1) hZ (ow hw 130 rfl) (ow hw 105 rfl) (by decide) (by decide)) q4a q4b q4c (g := (mkF m 9 #[.val (.ref pR1), .val (.int 0), .val (.int pI2)] [(.int 0), (.ref pR1)])) rfl (by rw [hml]; rfl) (Steps.refl _) (argsL := [(.int 0)]) (rest := []) (lenOf pd_10 rfl) rfl (Nat.le_refl _) (hb hby d14_9) (fun _ _ => ⟨rfl, e0, (by decide : 0 + 0 ≤ _), (by decide : 0 + 0 ≤ _)⟩)
  dsimp only [Pt.U, Pt.locs, Pt.cells, Pt.slots] at X4 l4 y4 z4 st4 hQ4
  subst l4 y4 z4
  obtain ⟨rfl, Nq4, e4⟩ := hQ4
  have N4 := Fr.app N0 Nq4
  obtain ⟨T5, X5, e5, st5⟩ := castY X4 hx hZ hown (ow hw 94 rfl) e4 (Ins.self E_pR3) (g := (mkF m 14 #[.val (.ref pR1), .val (.int 0), .val (.int pI2)] [(.ref pR3)])) rfl rfl (hb hby d14_14)
  obtain ⟨cq7, kq7, q7a, q7b, q7c⟩ := isOf hZ e5 E_pR3
  obtain ⟨_, _, ⟨T7, L7, k7, n7⟩, -, X7, ⟨Lc7, hQ7, l7, y7, z7⟩, st7⟩ := X5.virtualBack hx (y := yN4) (z := yN4) hown (mvT hZ (ow hw 95 rfl)) (mvT hZ (ow hw 96 rfl)) (notFace_of_selects (args := #[]) (mvT hZ (ow hw 98 rfl))) (mvT hZ (ow hw 98 rfl)) (mvT hZ (ow hw 97 rfl)) (by decide) (backOf (W := 0) (longV l Z a0 hw [] pR3 pI6 h0 n0 Z0 F_value_pR3) hZ (ow hw 99 rfl) (ow hw 9 rfl) (by decide) (by decide)) q7a q7c (g := (mkF m 17 #[.val (.ref pR1), .val (.int 0), .val (.int pI2)] [(.ref pR3)])) rfl (by rw [hml]; rfl) (Steps.refl _) (argsL := []) (rest := []) (lenOf pd_11 rfl) rfl (Nat.le_refl _) (hb hby d14_17) (fun _ _ => ⟨rfl, e5, (by decide : 0 + 0 ≤ _), (by decide : 0 + 0 ≤ _)⟩)
  dsimp only [Pt.U, Pt.locs, Pt.cells, Pt.slots] at X7 l7 y7 z7 st7 hQ7
  subst l7 y7 z7
  obtain ⟨rfl, Nq7, e7⟩ := hQ7
  have N7 := Fr.app N4 Nq7
  obtain ⟨fs, hr, hrun, hended, hW, hsame⟩ := X7.leave (v := some (.long (pI6.toInt64))) (fun h => by rw [Bd.returns] at h; cases h)
  refine ⟨_, _, castTop (ef_at12_0 m pR1 pI2) ?_, hrun, hended, _, _, rfl, ?_, ⟨_, rfl⟩, hW, hsame.mono (by decide) (by decide)⟩
  · show oS p e below s₁ m 0 #[.val (.ref pR1), .val (.int 0), .val (.int pI2)] [] _
    refine XS.iloadN X0.here hx rfl (hb hby d14_0) rfl ?_
    refine XS.iloadN X0.here hx rfl (hb hby d14_1) rfl ?_
    refine XS.icmpYes X0.here hx rfl (pc0 := 2) (pc' := 7) rfl (hb hby d14_2) rfl (tlt hc2).1 (by decide) (by decide) ?_
    refine XS.aloadN X0.here hx rfl (hb hby d14_7) rfl rfl ?_
    refine XS.iloadN X0.here hx rfl (hb hby d14_8) rfl ?_
    refine st4.trans ?_
    refine st5 _ ?_
    refine st7.trans ?_
    show oS p e below T7 m 20 #[.val (.ref pR1), .val (.int 0), .val (.int pI2)] [(.long (pI6.toInt64))] _
    exact retOut X7 hx Bd.returns rfl (Or.inr (Or.inl ⟨rfl, rfl, _, rfl⟩)) (hb hby d14_20) hr
  · show Qat12_0 Z pR1 pI2 pR3 pI6 h0 n0 _ T7.heap _
    rw [e7]
    exact ⟨rfl, N7, rfl⟩
theorem ef_at12_1 (m : MethodId) (pR1 : Addr) (pI2 : Int32) : entryFrame m #[(.ref pR1), (.int 1), (.int pI2)] 3 = mkF m 0 #[.val (.ref pR1), .val (.int 1), .val (.int pI2)] [] := by first | (simp [entryFrame, mkF, argsToLocals, Value.category]; done) | rfl
def Qat12_1 (Z : State) (pR1 : Addr) (pI2 : Int32) (pR3 : Addr) (pR4 : Addr) (pI7 : Int32) (h0 : Heap) (n0 : Nat) (v : Option Value) (h : Heap) (L : List Loc) : Prop := v = some (.long (pI7.toInt64)) ∧ Fr n0 L ∧ h = h0
set_option maxRecDepth 65536 in
set_option maxHeartbeats 40000000 in
theorem at12_1 (l : Launch) (Z : State) (a0 : Array Value) (hw : ∀ d ∈ tables_1, d.before a0 Z = true) (ws : List Jvm.Cond) (pR1 : Addr) (pI2 : Int32) (pR3 : Addr) (pR4 : Addr) (pI7 : Int32) (h0 : Heap) (n0 : Nat) (Z0 : n0 ≤ h0.size) (F_e1_pR1 : Fld Z h0 pR1 "java/util/ImmutableCollections$List12" "e1" "Ljava/lang/Object;" (.ref pR3)) (S_ImmutableCollections_EMPTY : Sta Z h0 "java/util/ImmutableCollections" "EMPTY" "Ljava/lang/Object;" (.ref pR4)) (ne_pR3_pR4 : pR3 ≠ pR4) (E_pR1 : Exa Z h0 pR1 "java/util/ImmutableCollections$List12") (E_pR3 : Exa Z h0 pR3 "java/lang/Integer") (F_value_pR3 : Fld Z h0 pR3 "java/lang/Integer" "value" "I" (.int pI7)) (hc2 : (1 : Int32) < pI2) :
    oM l yN20 method_3_code 3 (some .long) ws ({ frames := 1, cells := 0, slots := 0, locals := 13 } : Room) #[(.ref pR1), (.int 1), (.int pI2)] Z h0 (Qat12_1 Z pR1 pI2 pR3 pR4 pI7 h0 n0) := by
  refine MetFree.of_bodySF (plainFor_of_name pn_12) hisR ?_
  intro p e s m args below meth c s₁ Bd hml0 hP hK
  obtain ⟨rfl, hZ, hh⟩ := hP
  have hx := Bd.exec
  have hby := Bd.bytes
  have hml : c.maxLocals = 3 := hml0
  have hown : s.vm.findClass "com/example/watchful_junction/watchfuljunction/scenario/ProportionalSpecEqualSharesPinLaw" = some m.cls := findClass_of_methodNamed Bd.named
  have hnm := (name_of_methodNamed Bd.named Bd.method).1
  have X0 : Stand p l e ({ frames := 1, cells := 0, slots := 0, locals := 13 } : Room) s m #[(.ref pR1), (.int 1), (.int pI2)] below meth c s₁ [] 0 0 := Stand.of_body Bd
  have e0 : s₁.heap = h0 := by rw [← hh, Bd.state]; rfl
  have N0 := Fr.nil n0
  obtain ⟨cq5, kq5, q5a, q5b, q5c⟩ := isOf hZ e0 E_pR1
  obtain ⟨_, _, ⟨T5, L5, k5, n5⟩, -, X5, ⟨Lc5, hQ5, l5, y5, z5⟩, st5⟩ := X0.interfaceBack hx (xi := yN21) (y := yN19) hown (mvT hZ (ow hw 86 rfl)) (mvT hZ (ow hw 87 rfl)) (mvT hZ (ow hw 88 rfl)) (mvT hZ (ow hw 126 rfl)) (mvT hZ (ow hw 127 rfl)) (mvT hZ (ow hw 128 rfl)) (mvT hZ (ow hw 129 rfl)) (mvT hZ (ow hw 123 rfl)) (by decide) (backOf (W := 0) (l12G1 l Z a0 hw [] pR1 pR3 pR4 h0 n0 Z0 F_e1_pR1 S_ImmutableCollections_EMPTY ne_pR3_pR4) hZ (ow hw 130 rfl) (ow hw 105 rfl) (by decide) (by decide)) q5a q5b q5c (g := (mkF m 9 #[.val (.ref pR1), .val (.int 1), .val (.int pI2)] [(.int 1), (.ref pR1)])) rfl (by rw [hml]; rfl) (Steps.refl _) (argsL := [(.int 1)]) (rest := []) (lenOf pd_10 rfl) rfl (Nat.le_refl _) (hb hby d14_9) (fun _ _ => ⟨rfl, e0, (by decide : 0 + 0 ≤ _), (by decide : 0 + 0 ≤ _)⟩)
  dsimp only [Pt.U, Pt.locs, Pt.cells, Pt.slots] at X5 l5 y5 z5 st5 hQ5
  subst l5 y5 z5
  obtain ⟨rfl, Nq5, e5⟩ := hQ5
  have N5 := Fr.app N0 Nq5
  obtain ⟨T6, X6, e6, st6⟩ := castY X5 hx hZ hown (ow hw 94 rfl) e5 (Ins.self E_pR3) (g := (mkF m 14 #[.val (.ref pR1), .val (.int 1), .val (.int pI2)] [(.ref pR3)])) rfl rfl (hb hby d14_14)
  obtain ⟨cq8, kq8, q8a, q8b, q8c⟩ := isOf hZ e6 E_pR3
  obtain ⟨_, _, ⟨T8, L8, k8, n8⟩, -, X8, ⟨Lc8, hQ8, l8, y8, z8⟩, st8⟩ := X6.virtualBack hx (y := yN4) (z := yN4) hown (mvT hZ (ow hw 95 rfl)) (mvT hZ (ow hw 96 rfl)) (notFace_of_selects (args := #[]) (mvT hZ (ow hw 98 rfl))) (mvT hZ (ow hw 98 rfl)) (mvT hZ (ow hw 97 rfl)) (by decide) (backOf (W := 0) (longV l Z a0 hw [] pR3 pI7 h0 n0 Z0 F_value_pR3) hZ (ow hw 99 rfl) (ow hw 9 rfl) (by decide) (by decide)) q8a q8c (g := (mkF m 17 #[.val (.ref pR1), .val (.int 1), .val (.int pI2)] [(.ref pR3)])) rfl (by rw [hml]; rfl) (Steps.refl _) (argsL := []) (rest := []) (lenOf pd_11 rfl) rfl (Nat.le_refl _) (hb hby d14_17) (fun _ _ => ⟨rfl, e6, (by decide : 0 + 0 ≤ _), (by decide : 0 + 0 ≤ _)⟩)
  dsimp only [Pt.U, Pt.locs, Pt.cells, Pt.slots] at X8 l8 y8 z8 st8 hQ8
  subst l8 y8 z8
  obtain ⟨rfl, Nq8, e8⟩ := hQ8
  have N8 := Fr.app N5 Nq8
  obtain ⟨fs, hr, hrun, hended, hW, hsame⟩ := X8.leave (v := some (.long (pI7.toInt64))) (fun h => by rw [Bd.returns] at h; cases h)
  refine ⟨_, _, castTop (ef_at12_1 m pR1 pI2) ?_, hrun, hended, _, _, rfl, ?_, ⟨_, rfl⟩, hW, hsame.mono (by decide) (by decide)⟩
  · show oS p e below s₁ m 0 #[.val (.ref pR1), .val (.int 1), .val (.int pI2)] [] _
    refine XS.iloadN X0.here hx rfl (hb hby d14_0) rfl ?_
    refine XS.iloadN X0.here hx rfl (hb hby d14_1) rfl ?_
    refine XS.icmpYes X0.here hx rfl (pc0 := 2) (pc' := 7) rfl (hb hby d14_2) rfl (tlt hc2).1 (by decide) (by decide) ?_
    refine XS.aloadN X0.here hx rfl (hb hby d14_7) rfl rfl ?_
    refine XS.iloadN X0.here hx rfl (hb hby d14_8) rfl ?_
    refine st5.trans ?_
    refine st6 _ ?_
    refine st8.trans ?_
    show oS p e below T8 m 20 #[.val (.ref pR1), .val (.int 1), .val (.int pI2)] [(.long (pI7.toInt64))] _
    exact retOut X8 hx Bd.returns rfl (Or.inr (Or.inl ⟨rfl, rfl, _, rfl⟩)) (hb hby d14_20) hr
  · show Qat12_1 Z pR1 pI2 pR3 pR4 pI7 h0 n0 _ T8.heap _
    rw [e8]
    exact ⟨rfl, N8, rfl⟩
theorem d17_0 : decode method_4_code 0 = .ok (.iload_n 1, 1) := by decide +kernel
theorem d17_1 : decode method_4_code 1 = .ok (.iload_n 2, 1) := by decide +kernel
theorem d17_2 : decode method_4_code 2 = .ok (.if_icmp .lt 5, 3) := by decide +kernel
theorem d17_5 : decode method_4_code 5 = .ok (.iconst 1, 1) := by decide +kernel
theorem d17_6 : decode method_4_code 6 = .ok (.ireturn, 1) := by decide +kernel
theorem ef_laE (m : MethodId) (pR1 : Addr) (pI2 : Int32) (pI3 : Int32) (pI4 : Int32) : entryFrame m #[(.ref pR1), (.int pI2), (.int pI3), (.int pI4)] 10 = mkF m 0 #[.val (.ref pR1), .val (.int pI2), .val (.int pI3), .val (.int pI4), .unset, .unset, .unset, .unset, .unset, .unset] [] := by first | (simp [entryFrame, mkF, argsToLocals, Value.category]; done) | rfl
def QlaE (Z : State) (pR1 : Addr) (pI2 : Int32) (pI3 : Int32) (pI4 : Int32) (h0 : Heap) (n0 : Nat) (v : Option Value) (h : Heap) (L : List Loc) : Prop := v = some (.int 1) ∧ Fr n0 L ∧ h = h0
set_option maxRecDepth 65536 in
set_option maxHeartbeats 40000000 in
theorem laE (l : Launch) (Z : State) (a0 : Array Value) (hw : ∀ d ∈ tables_1, d.before a0 Z = true) (ws : List Jvm.Cond) (pR1 : Addr) (pI2 : Int32) (pI3 : Int32) (pI4 : Int32) (h0 : Heap) (n0 : Nat) (Z0 : n0 ≤ h0.size) (hc2 : ¬ (pI2 < pI3)) :
    oM l yN22 method_4_code 10 (some .boolean) ws ({ frames := 0, cells := 0, slots := 0, locals := 0 } : Room) #[(.ref pR1), (.int pI2), (.int pI3), (.int pI4)] Z h0 (QlaE Z pR1 pI2 pI3 pI4 h0 n0) := by
  refine MetFree.of_bodySF (plainFor_of_name pn_12) hisR ?_
  intro p e s m args below meth c s₁ Bd hml0 hP hK
  obtain ⟨rfl, hZ, hh⟩ := hP
  have hx := Bd.exec
  have hby := Bd.bytes
  have hml : c.maxLocals = 10 := hml0
  have hown : s.vm.findClass "com/example/watchful_junction/watchfuljunction/scenario/ProportionalSpecEqualSharesPinLaw" = some m.cls := findClass_of_methodNamed Bd.named
  have hnm := (name_of_methodNamed Bd.named Bd.method).1
  have X0 : Stand p l e ({ frames := 0, cells := 0, slots := 0, locals := 0 } : Room) s m #[(.ref pR1), (.int pI2), (.int pI3), (.int pI4)] below meth c s₁ [] 0 0 := Stand.of_body Bd
  have e0 : s₁.heap = h0 := by rw [← hh, Bd.state]; rfl
  have N0 := Fr.nil n0
  obtain ⟨fs, hr, hrun, hended, hW, hsame⟩ := X0.leave (v := some (.int 1)) (fun h => by rw [Bd.returns] at h; cases h)
  refine ⟨_, _, castTop (ef_laE m pR1 pI2 pI3 pI4) ?_, hrun, hended, _, _, rfl, ?_, ⟨_, rfl⟩, hW, hsame.mono (by decide) (by decide)⟩
  · show oS p e below s₁ m 0 #[.val (.ref pR1), .val (.int pI2), .val (.int pI3), .val (.int pI4), .unset, .unset, .unset, .unset, .unset, .unset] [] _
    refine XS.iloadN X0.here hx rfl (hb hby d17_0) rfl ?_
    refine XS.iloadN X0.here hx rfl (hb hby d17_1) rfl ?_
    refine XS.icmpNo X0.here hx rfl (hb hby d17_2) rfl (flt hc2).1 ?_
    refine XS.iconst X0.here hx rfl (hb hby d17_5) ?_
    exact retN X0 hx (t := .boolean) Bd.returns (by simp) (hb hby d17_6) hr
  · show QlaE Z pR1 pI2 pI3 pI4 h0 n0 _ s₁.heap _
    rw [e0]
    exact ⟨rfl, N0, rfl⟩
theorem d17_7 : decode method_4_code 7 = .ok (.aload_n 0, 1) := by decide +kernel
theorem d17_8 : decode method_4_code 8 = .ok (.iload_n 1, 1) := by decide +kernel
theorem d17_9 : decode method_4_code 9 = .ok (.invokeinterface 30 2, 5) := by decide +kernel
theorem d17_14 : decode method_4_code 14 = .ok (.checkcast 34, 3) := by decide +kernel
theorem d17_17 : decode method_4_code 17 = .ok (.invokevirtual 36, 3) := by decide +kernel
theorem d17_20 : decode method_4_code 20 = .ok (.lstore 4, 2) := by decide +kernel
theorem d17_22 : decode method_4_code 22 = .ok (.iload_n 2, 1) := by decide +kernel
theorem d17_23 : decode method_4_code 23 = .ok (.i2l, 1) := by decide +kernel
theorem d17_24 : decode method_4_code 24 = .ok (.lstore 6, 2) := by decide +kernel
theorem d17_26 : decode method_4_code 26 = .ok (.iload_n 3, 1) := by decide +kernel
theorem d17_27 : decode method_4_code 27 = .ok (.i2l, 1) := by decide +kernel
theorem d17_28 : decode method_4_code 28 = .ok (.lstore 8, 2) := by decide +kernel
theorem d17_30 : decode method_4_code 30 = .ok (.lload 4, 2) := by decide +kernel
theorem d17_32 : decode method_4_code 32 = .ok (.lload 6, 2) := by decide +kernel
theorem d17_34 : decode method_4_code 34 = .ok (.lmul, 1) := by decide +kernel
theorem d17_35 : decode method_4_code 35 = .ok (.lload 8, 2) := by decide +kernel
theorem d17_37 : decode method_4_code 37 = .ok (.lcmp, 1) := by decide +kernel
theorem d17_38 : decode method_4_code 38 = .ok (.ifCond .gt 20, 3) := by decide +kernel
theorem d17_41 : decode method_4_code 41 = .ok (.lload 8, 2) := by decide +kernel
theorem d17_43 : decode method_4_code 43 = .ok (.lload 4, 2) := by decide +kernel
theorem d17_45 : decode method_4_code 45 = .ok (.lconst 1, 1) := by decide +kernel
theorem d17_46 : decode method_4_code 46 = .ok (.ladd, 1) := by decide +kernel
theorem d17_47 : decode method_4_code 47 = .ok (.lload 6, 2) := by decide +kernel
theorem d17_49 : decode method_4_code 49 = .ok (.lmul, 1) := by decide +kernel
theorem d17_50 : decode method_4_code 50 = .ok (.lcmp, 1) := by decide +kernel
theorem d17_51 : decode method_4_code 51 = .ok (.ifCond .ge 7, 3) := by decide +kernel
theorem d17_54 : decode method_4_code 54 = .ok (.iconst 1, 1) := by decide +kernel
theorem d17_55 : decode method_4_code 55 = .ok (.goto 4, 3) := by decide +kernel
theorem d17_59 : decode method_4_code 59 = .ok (.ireturn, 1) := by decide +kernel
theorem ef_laN (m : MethodId) (pR1 : Addr) (pI2 : Int32) (pI3 : Int32) (pI4 : Int32) : entryFrame m #[(.ref pR1), (.int pI2), (.int pI3), (.int pI4)] 10 = mkF m 0 #[.val (.ref pR1), .val (.int pI2), .val (.int pI3), .val (.int pI4), .unset, .unset, .unset, .unset, .unset, .unset] [] := by first | (simp [entryFrame, mkF, argsToLocals, Value.category]; done) | rfl
def QlaN (Z : State) (pR1 : Addr) (pI2 : Int32) (pI3 : Int32) (pI4 : Int32) (pR5 : Addr) (pC6 : Cell) (pR7 : Addr) (pI10 : Int32) (h0 : Heap) (n0 : Nat) (v : Option Value) (h : Heap) (L : List Loc) : Prop := v = some (.int 1) ∧ Fr n0 L ∧ h = h0
set_option maxRecDepth 65536 in
set_option maxHeartbeats 40000000 in
theorem laN (l : Launch) (Z : State) (a0 : Array Value) (hw : ∀ d ∈ tables_1, d.before a0 Z = true) (ws : List Jvm.Cond) (pR1 : Addr) (pI2 : Int32) (pI3 : Int32) (pI4 : Int32) (pR5 : Addr) (pC6 : Cell) (pR7 : Addr) (pI10 : Int32) (h0 : Heap) (n0 : Nat) (Z0 : n0 ≤ h0.size) (F_elements_pR1 : Fld Z h0 pR1 "java/util/ImmutableCollections$ListN" "elements" "[Ljava/lang/Object;" (.ref pR5)) (Ar_pR5 : Arr Z h0 pR5 pC6 (.object "java/lang/Object")) (hat_pC6_2 : pC6.slots[(pI2).toNatClampNeg]? = some (.ref pR7)) (E_pR1 : Exa Z h0 pR1 "java/util/ImmutableCollections$ListN") (E_pR7 : Exa Z h0 pR7 "java/lang/Integer") (F_value_pR7 : Fld Z h0 pR7 "java/lang/Integer" "value" "I" (.int pI10)) (hc2 : pI2 < pI3) (hc9 : ¬ (pI2 < 0 ∨ pC6.slots.size ≤ (pI2).toNatClampNeg)) (hc38 : ¬ ((0 : Int32) < (lcmpW ((pI10.toInt64) * (pI3.toInt64)) (pI4.toInt64)))) (hc51 : (lcmpW (pI4.toInt64) (((pI10.toInt64) + (1 : Int64)) * (pI3.toInt64))) < (0 : Int32)) :
    oM l yN22 method_4_code 10 (some .boolean) ws ({ frames := 1, cells := 0, slots := 0, locals := 13 } : Room) #[(.ref pR1), (.int pI2), (.int pI3), (.int pI4)] Z h0 (QlaN Z pR1 pI2 pI3 pI4 pR5 pC6 pR7 pI10 h0 n0) := by
  refine MetFree.of_bodySF (plainFor_of_name pn_12) hisR ?_
  intro p e s m args below meth c s₁ Bd hml0 hP hK
  obtain ⟨rfl, hZ, hh⟩ := hP
  have hx := Bd.exec
  have hby := Bd.bytes
  have hml : c.maxLocals = 10 := hml0
  have hown : s.vm.findClass "com/example/watchful_junction/watchfuljunction/scenario/ProportionalSpecEqualSharesPinLaw" = some m.cls := findClass_of_methodNamed Bd.named
  have hnm := (name_of_methodNamed Bd.named Bd.method).1
  have X0 : Stand p l e ({ frames := 1, cells := 0, slots := 0, locals := 13 } : Room) s m #[(.ref pR1), (.int pI2), (.int pI3), (.int pI4)] below meth c s₁ [] 0 0 := Stand.of_body Bd
  have e0 : s₁.heap = h0 := by rw [← hh, Bd.state]; rfl
  have N0 := Fr.nil n0
  obtain ⟨cq8, kq8, q8a, q8b, q8c⟩ := isOf hZ e0 E_pR1
  obtain ⟨_, _, ⟨T8, L8, k8, n8⟩, -, X8, ⟨Lc8, hQ8, l8, y8, z8⟩, st8⟩ := X0.interfaceBack hx (xi := yN21) (y := yN18) hown (mvT hZ (ow hw 86 rfl)) (mvT hZ (ow hw 87 rfl)) (mvT hZ (ow hw 88 rfl)) (mvT hZ (ow hw 89 rfl)) (mvT hZ (ow hw 90 rfl)) (mvT hZ (ow hw 91 rfl)) (mvT hZ (ow hw 92 rfl)) (mvT hZ (ow hw 80 rfl)) (by decide) (backOf (W := 0) (lnG l Z a0 hw [] pR1 pI2 pR5 pC6 pR7 h0 n0 Z0 F_elements_pR1 Ar_pR5 hat_pC6_2 hc9) hZ (ow hw 93 rfl) (ow hw 43 rfl) (by decide) (by decide)) q8a q8b q8c (g := (mkF m 9 #[.val (.ref pR1), .val (.int pI2), .val (.int pI3), .val (.int pI4), .unset, .unset, .unset, .unset, .unset, .unset] [(.int pI2), (.ref pR1)])) rfl (by rw [hml]; rfl) (Steps.refl _) (argsL := [(.int pI2)]) (rest := []) (lenOf pd_10 rfl) rfl (Nat.le_refl _) (hb hby d17_9) (fun _ _ => ⟨rfl, e0, (by decide : 0 + 0 ≤ _), (by decide : 0 + 0 ≤ _)⟩)
  dsimp only [Pt.U, Pt.locs, Pt.cells, Pt.slots] at X8 l8 y8 z8 st8 hQ8
  subst l8 y8 z8
  obtain ⟨rfl, Nq8, e8⟩ := hQ8
  have N8 := Fr.app N0 Nq8
  obtain ⟨T9, X9, e9, st9⟩ := castY X8 hx hZ hown (ow hw 94 rfl) e8 (Ins.self E_pR7) (g := (mkF m 14 #[.val (.ref pR1), .val (.int pI2), .val (.int pI3), .val (.int pI4), .unset, .unset, .unset, .unset, .unset, .unset] [(.ref pR7)])) rfl rfl (hb hby d17_14)
  obtain ⟨cq11, kq11, q11a, q11b, q11c⟩ := isOf hZ e9 E_pR7
  obtain ⟨_, _, ⟨T11, L11, k11, n11⟩, -, X11, ⟨Lc11, hQ11, l11, y11, z11⟩, st11⟩ := X9.virtualBack hx (y := yN4) (z := yN4) hown (mvT hZ (ow hw 95 rfl)) (mvT hZ (ow hw 96 rfl)) (notFace_of_selects (args := #[]) (mvT hZ (ow hw 98 rfl))) (mvT hZ (ow hw 98 rfl)) (mvT hZ (ow hw 97 rfl)) (by decide) (backOf (W := 0) (longV l Z a0 hw [] pR7 pI10 h0 n0 Z0 F_value_pR7) hZ (ow hw 99 rfl) (ow hw 9 rfl) (by decide) (by decide)) q11a q11c (g := (mkF m 17 #[.val (.ref pR1), .val (.int pI2), .val (.int pI3), .val (.int pI4), .unset, .unset, .unset, .unset, .unset, .unset] [(.ref pR7)])) rfl (by rw [hml]; rfl) (Steps.refl _) (argsL := []) (rest := []) (lenOf pd_11 rfl) rfl (Nat.le_refl _) (hb hby d17_17) (fun _ _ => ⟨rfl, e9, (by decide : 0 + 0 ≤ _), (by decide : 0 + 0 ≤ _)⟩)
  dsimp only [Pt.U, Pt.locs, Pt.cells, Pt.slots] at X11 l11 y11 z11 st11 hQ11
  subst l11 y11 z11
  obtain ⟨rfl, Nq11, e11⟩ := hQ11
  have N11 := Fr.app N8 Nq11
  obtain ⟨fs, hr, hrun, hended, hW, hsame⟩ := X11.leave (v := some (.int 1)) (fun h => by rw [Bd.returns] at h; cases h)
  refine ⟨_, _, castTop (ef_laN m pR1 pI2 pI3 pI4) ?_, hrun, hended, _, _, rfl, ?_, ⟨_, rfl⟩, hW, hsame.mono (by decide) (by decide)⟩
  · show oS p e below s₁ m 0 #[.val (.ref pR1), .val (.int pI2), .val (.int pI3), .val (.int pI4), .unset, .unset, .unset, .unset, .unset, .unset] [] _
    refine XS.iloadN X0.here hx rfl (hb hby d17_0) rfl ?_
    refine XS.iloadN X0.here hx rfl (hb hby d17_1) rfl ?_
    refine XS.icmpYes X0.here hx rfl (pc0 := 2) (pc' := 7) rfl (hb hby d17_2) rfl (tlt hc2).1 (by decide) (by decide) ?_
    refine XS.aloadN X0.here hx rfl (hb hby d17_7) rfl rfl ?_
    refine XS.iloadN X0.here hx rfl (hb hby d17_8) rfl ?_
    refine st8.trans ?_
    refine st9 _ ?_
    refine st11.trans ?_
    show oS p e below T11 m 20 #[.val (.ref pR1), .val (.int pI2), .val (.int pI3), .val (.int pI4), .unset, .unset, .unset, .unset, .unset, .unset] [(.long (pI10.toInt64))] _
    refine XS.lstore X11.here hx rfl (hb hby d17_20) rfl (l' := #[.val (.ref pR1), .val (.int pI2), .val (.int pI3), .val (.int pI4), .val (.long (pI10.toInt64)), .second, .unset, .unset, .unset, .unset]) rfl ?_
    refine XS.iloadN X11.here hx rfl (hb hby d17_22) rfl ?_
    refine XS.i2l X11.here hx rfl (hb hby d17_23) rfl ?_
    refine XS.lstore X11.here hx rfl (hb hby d17_24) rfl (l' := #[.val (.ref pR1), .val (.int pI2), .val (.int pI3), .val (.int pI4), .val (.long (pI10.toInt64)), .second, .val (.long (pI3.toInt64)), .second, .unset, .unset]) rfl ?_
    refine XS.iloadN X11.here hx rfl (hb hby d17_26) rfl ?_
    refine XS.i2l X11.here hx rfl (hb hby d17_27) rfl ?_
    refine XS.lstore X11.here hx rfl (hb hby d17_28) rfl (l' := #[.val (.ref pR1), .val (.int pI2), .val (.int pI3), .val (.int pI4), .val (.long (pI10.toInt64)), .second, .val (.long (pI3.toInt64)), .second, .val (.long (pI4.toInt64)), .second]) rfl ?_
    refine XS.lload X11.here hx rfl (hb hby d17_30) rfl ?_
    show oS p e below T11 m 32 #[.val (.ref pR1), .val (.int pI2), .val (.int pI3), .val (.int pI4), .val (.long (pI10.toInt64)), .second, .val (.long (pI3.toInt64)), .second, .val (.long (pI4.toInt64)), .second] [(.long (pI10.toInt64))] _
    refine XS.lload X11.here hx rfl (hb hby d17_32) rfl ?_
    refine XS.lmul X11.here hx rfl (hb hby d17_34) rfl ?_
    refine XS.lload X11.here hx rfl (hb hby d17_35) rfl ?_
    refine XS.lcmp X11.here hx rfl (hb hby d17_37) rfl ?_
    refine XS.ifNo X11.here hx rfl (hb hby d17_38) rfl ((if0 _ _).trans (flt hc38).2.2.1) ?_
    refine XS.lload X11.here hx rfl (hb hby d17_41) rfl ?_
    refine XS.lload X11.here hx rfl (hb hby d17_43) rfl ?_
    refine XS.lconst X11.here hx rfl (hb hby d17_45) ?_
    show oS p e below T11 m 46 #[.val (.ref pR1), .val (.int pI2), .val (.int pI3), .val (.int pI4), .val (.long (pI10.toInt64)), .second, .val (.long (pI3.toInt64)), .second, .val (.long (pI4.toInt64)), .second] [(.long 1), (.long (pI10.toInt64)), (.long (pI4.toInt64))] _
    refine XS.ladd X11.here hx rfl (hb hby d17_46) rfl ?_
    refine XS.lload X11.here hx rfl (hb hby d17_47) rfl ?_
    refine XS.lmul X11.here hx rfl (hb hby d17_49) rfl ?_
    refine XS.lcmp X11.here hx rfl (hb hby d17_50) rfl ?_
    refine XS.ifNo X11.here hx rfl (hb hby d17_51) rfl ((if0 _ _).trans (tlt hc51).2.1) ?_
    refine XS.iconst X11.here hx rfl (hb hby d17_54) ?_
    refine XS.goto X11.here hx rfl (pc0 := 55) (pc' := 59) rfl (hb hby d17_55) (by decide) (by decide) ?_
    exact retN X11 hx (t := .boolean) Bd.returns (by simp) (hb hby d17_59) hr
  · show QlaN Z pR1 pI2 pI3 pI4 pR5 pC6 pR7 pI10 h0 n0 _ T11.heap _
    rw [e11]
    exact ⟨rfl, N11, rfl⟩
theorem ef_la12 (m : MethodId) (pR1 : Addr) (pI2 : Int32) (pI3 : Int32) : entryFrame m #[(.ref pR1), (.int 1), (.int pI2), (.int pI3)] 10 = mkF m 0 #[.val (.ref pR1), .val (.int 1), .val (.int pI2), .val (.int pI3), .unset, .unset, .unset, .unset, .unset, .unset] [] := by first | (simp [entryFrame, mkF, argsToLocals, Value.category]; done) | rfl
def Qla12 (Z : State) (pR1 : Addr) (pI2 : Int32) (pI3 : Int32) (pR4 : Addr) (pR5 : Addr) (pI8 : Int32) (h0 : Heap) (n0 : Nat) (v : Option Value) (h : Heap) (L : List Loc) : Prop := v = some (.int 1) ∧ Fr n0 L ∧ h = h0
set_option maxRecDepth 65536 in
set_option maxHeartbeats 40000000 in
theorem la12 (l : Launch) (Z : State) (a0 : Array Value) (hw : ∀ d ∈ tables_1, d.before a0 Z = true) (ws : List Jvm.Cond) (pR1 : Addr) (pI2 : Int32) (pI3 : Int32) (pR4 : Addr) (pR5 : Addr) (pI8 : Int32) (h0 : Heap) (n0 : Nat) (Z0 : n0 ≤ h0.size) (F_e1_pR1 : Fld Z h0 pR1 "java/util/ImmutableCollections$List12" "e1" "Ljava/lang/Object;" (.ref pR4)) (S_ImmutableCollections_EMPTY : Sta Z h0 "java/util/ImmutableCollections" "EMPTY" "Ljava/lang/Object;" (.ref pR5)) (ne_pR4_pR5 : pR4 ≠ pR5) (E_pR1 : Exa Z h0 pR1 "java/util/ImmutableCollections$List12") (E_pR4 : Exa Z h0 pR4 "java/lang/Integer") (F_value_pR4 : Fld Z h0 pR4 "java/lang/Integer" "value" "I" (.int pI8)) (hc2 : (1 : Int32) < pI2) (hc38 : ¬ ((0 : Int32) < (lcmpW ((pI8.toInt64) * (pI2.toInt64)) (pI3.toInt64)))) (hc51 : (lcmpW (pI3.toInt64) (((pI8.toInt64) + (1 : Int64)) * (pI2.toInt64))) < (0 : Int32)) :
    oM l yN22 method_4_code 10 (some .boolean) ws ({ frames := 1, cells := 0, slots := 0, locals := 13 } : Room) #[(.ref pR1), (.int 1), (.int pI2), (.int pI3)] Z h0 (Qla12 Z pR1 pI2 pI3 pR4 pR5 pI8 h0 n0) := by
  refine MetFree.of_bodySF (plainFor_of_name pn_12) hisR ?_
  intro p e s m args below meth c s₁ Bd hml0 hP hK
  obtain ⟨rfl, hZ, hh⟩ := hP
  have hx := Bd.exec
  have hby := Bd.bytes
  have hml : c.maxLocals = 10 := hml0
  have hown : s.vm.findClass "com/example/watchful_junction/watchfuljunction/scenario/ProportionalSpecEqualSharesPinLaw" = some m.cls := findClass_of_methodNamed Bd.named
  have hnm := (name_of_methodNamed Bd.named Bd.method).1
  have X0 : Stand p l e ({ frames := 1, cells := 0, slots := 0, locals := 13 } : Room) s m #[(.ref pR1), (.int 1), (.int pI2), (.int pI3)] below meth c s₁ [] 0 0 := Stand.of_body Bd
  have e0 : s₁.heap = h0 := by rw [← hh, Bd.state]; rfl
  have N0 := Fr.nil n0
  obtain ⟨cq6, kq6, q6a, q6b, q6c⟩ := isOf hZ e0 E_pR1
  obtain ⟨_, _, ⟨T6, L6, k6, n6⟩, -, X6, ⟨Lc6, hQ6, l6, y6, z6⟩, st6⟩ := X0.interfaceBack hx (xi := yN21) (y := yN19) hown (mvT hZ (ow hw 86 rfl)) (mvT hZ (ow hw 87 rfl)) (mvT hZ (ow hw 88 rfl)) (mvT hZ (ow hw 126 rfl)) (mvT hZ (ow hw 127 rfl)) (mvT hZ (ow hw 128 rfl)) (mvT hZ (ow hw 129 rfl)) (mvT hZ (ow hw 123 rfl)) (by decide) (backOf (W := 0) (l12G1 l Z a0 hw [] pR1 pR4 pR5 h0 n0 Z0 F_e1_pR1 S_ImmutableCollections_EMPTY ne_pR4_pR5) hZ (ow hw 130 rfl) (ow hw 105 rfl) (by decide) (by decide)) q6a q6b q6c (g := (mkF m 9 #[.val (.ref pR1), .val (.int 1), .val (.int pI2), .val (.int pI3), .unset, .unset, .unset, .unset, .unset, .unset] [(.int 1), (.ref pR1)])) rfl (by rw [hml]; rfl) (Steps.refl _) (argsL := [(.int 1)]) (rest := []) (lenOf pd_10 rfl) rfl (Nat.le_refl _) (hb hby d17_9) (fun _ _ => ⟨rfl, e0, (by decide : 0 + 0 ≤ _), (by decide : 0 + 0 ≤ _)⟩)
  dsimp only [Pt.U, Pt.locs, Pt.cells, Pt.slots] at X6 l6 y6 z6 st6 hQ6
  subst l6 y6 z6
  obtain ⟨rfl, Nq6, e6⟩ := hQ6
  have N6 := Fr.app N0 Nq6
  obtain ⟨T7, X7, e7, st7⟩ := castY X6 hx hZ hown (ow hw 94 rfl) e6 (Ins.self E_pR4) (g := (mkF m 14 #[.val (.ref pR1), .val (.int 1), .val (.int pI2), .val (.int pI3), .unset, .unset, .unset, .unset, .unset, .unset] [(.ref pR4)])) rfl rfl (hb hby d17_14)
  obtain ⟨cq9, kq9, q9a, q9b, q9c⟩ := isOf hZ e7 E_pR4
  obtain ⟨_, _, ⟨T9, L9, k9, n9⟩, -, X9, ⟨Lc9, hQ9, l9, y9, z9⟩, st9⟩ := X7.virtualBack hx (y := yN4) (z := yN4) hown (mvT hZ (ow hw 95 rfl)) (mvT hZ (ow hw 96 rfl)) (notFace_of_selects (args := #[]) (mvT hZ (ow hw 98 rfl))) (mvT hZ (ow hw 98 rfl)) (mvT hZ (ow hw 97 rfl)) (by decide) (backOf (W := 0) (longV l Z a0 hw [] pR4 pI8 h0 n0 Z0 F_value_pR4) hZ (ow hw 99 rfl) (ow hw 9 rfl) (by decide) (by decide)) q9a q9c (g := (mkF m 17 #[.val (.ref pR1), .val (.int 1), .val (.int pI2), .val (.int pI3), .unset, .unset, .unset, .unset, .unset, .unset] [(.ref pR4)])) rfl (by rw [hml]; rfl) (Steps.refl _) (argsL := []) (rest := []) (lenOf pd_11 rfl) rfl (Nat.le_refl _) (hb hby d17_17) (fun _ _ => ⟨rfl, e7, (by decide : 0 + 0 ≤ _), (by decide : 0 + 0 ≤ _)⟩)
  dsimp only [Pt.U, Pt.locs, Pt.cells, Pt.slots] at X9 l9 y9 z9 st9 hQ9
  subst l9 y9 z9
  obtain ⟨rfl, Nq9, e9⟩ := hQ9
  have N9 := Fr.app N6 Nq9
  obtain ⟨fs, hr, hrun, hended, hW, hsame⟩ := X9.leave (v := some (.int 1)) (fun h => by rw [Bd.returns] at h; cases h)
  refine ⟨_, _, castTop (ef_la12 m pR1 pI2 pI3) ?_, hrun, hended, _, _, rfl, ?_, ⟨_, rfl⟩, hW, hsame.mono (by decide) (by decide)⟩
  · show oS p e below s₁ m 0 #[.val (.ref pR1), .val (.int 1), .val (.int pI2), .val (.int pI3), .unset, .unset, .unset, .unset, .unset, .unset] [] _
    refine XS.iloadN X0.here hx rfl (hb hby d17_0) rfl ?_
    refine XS.iloadN X0.here hx rfl (hb hby d17_1) rfl ?_
    refine XS.icmpYes X0.here hx rfl (pc0 := 2) (pc' := 7) rfl (hb hby d17_2) rfl (tlt hc2).1 (by decide) (by decide) ?_
    refine XS.aloadN X0.here hx rfl (hb hby d17_7) rfl rfl ?_
    refine XS.iloadN X0.here hx rfl (hb hby d17_8) rfl ?_
    refine st6.trans ?_
    refine st7 _ ?_
    refine st9.trans ?_
    show oS p e below T9 m 20 #[.val (.ref pR1), .val (.int 1), .val (.int pI2), .val (.int pI3), .unset, .unset, .unset, .unset, .unset, .unset] [(.long (pI8.toInt64))] _
    refine XS.lstore X9.here hx rfl (hb hby d17_20) rfl (l' := #[.val (.ref pR1), .val (.int 1), .val (.int pI2), .val (.int pI3), .val (.long (pI8.toInt64)), .second, .unset, .unset, .unset, .unset]) rfl ?_
    refine XS.iloadN X9.here hx rfl (hb hby d17_22) rfl ?_
    refine XS.i2l X9.here hx rfl (hb hby d17_23) rfl ?_
    refine XS.lstore X9.here hx rfl (hb hby d17_24) rfl (l' := #[.val (.ref pR1), .val (.int 1), .val (.int pI2), .val (.int pI3), .val (.long (pI8.toInt64)), .second, .val (.long (pI2.toInt64)), .second, .unset, .unset]) rfl ?_
    refine XS.iloadN X9.here hx rfl (hb hby d17_26) rfl ?_
    refine XS.i2l X9.here hx rfl (hb hby d17_27) rfl ?_
    refine XS.lstore X9.here hx rfl (hb hby d17_28) rfl (l' := #[.val (.ref pR1), .val (.int 1), .val (.int pI2), .val (.int pI3), .val (.long (pI8.toInt64)), .second, .val (.long (pI2.toInt64)), .second, .val (.long (pI3.toInt64)), .second]) rfl ?_
    refine XS.lload X9.here hx rfl (hb hby d17_30) rfl ?_
    show oS p e below T9 m 32 #[.val (.ref pR1), .val (.int 1), .val (.int pI2), .val (.int pI3), .val (.long (pI8.toInt64)), .second, .val (.long (pI2.toInt64)), .second, .val (.long (pI3.toInt64)), .second] [(.long (pI8.toInt64))] _
    refine XS.lload X9.here hx rfl (hb hby d17_32) rfl ?_
    refine XS.lmul X9.here hx rfl (hb hby d17_34) rfl ?_
    refine XS.lload X9.here hx rfl (hb hby d17_35) rfl ?_
    refine XS.lcmp X9.here hx rfl (hb hby d17_37) rfl ?_
    refine XS.ifNo X9.here hx rfl (hb hby d17_38) rfl ((if0 _ _).trans (flt hc38).2.2.1) ?_
    refine XS.lload X9.here hx rfl (hb hby d17_41) rfl ?_
    refine XS.lload X9.here hx rfl (hb hby d17_43) rfl ?_
    refine XS.lconst X9.here hx rfl (hb hby d17_45) ?_
    show oS p e below T9 m 46 #[.val (.ref pR1), .val (.int 1), .val (.int pI2), .val (.int pI3), .val (.long (pI8.toInt64)), .second, .val (.long (pI2.toInt64)), .second, .val (.long (pI3.toInt64)), .second] [(.long 1), (.long (pI8.toInt64)), (.long (pI3.toInt64))] _
    refine XS.ladd X9.here hx rfl (hb hby d17_46) rfl ?_
    refine XS.lload X9.here hx rfl (hb hby d17_47) rfl ?_
    refine XS.lmul X9.here hx rfl (hb hby d17_49) rfl ?_
    refine XS.lcmp X9.here hx rfl (hb hby d17_50) rfl ?_
    refine XS.ifNo X9.here hx rfl (hb hby d17_51) rfl ((if0 _ _).trans (tlt hc51).2.1) ?_
    refine XS.iconst X9.here hx rfl (hb hby d17_54) ?_
    refine XS.goto X9.here hx rfl (pc0 := 55) (pc' := 59) rfl (hb hby d17_55) (by decide) (by decide) ?_
    exact retN X9 hx (t := .boolean) Bd.returns (by simp) (hb hby d17_59) hr
  · show Qla12 Z pR1 pI2 pI3 pR4 pR5 pI8 h0 n0 _ T9.heap _
    rw [e9]
    exact ⟨rfl, N9, rfl⟩
theorem pd_12 : parseMethodDescriptor "(II)Ljava/util/List;" = some ⟨[.int, .int], some (.object "java/util/List")⟩ := by decide +kernel
theorem pd_13 : parseMethodDescriptor "(Ljava/util/List;II)J" = some ⟨[(.object "java/util/List"), .int, .int], some .long⟩ := by decide +kernel
theorem pd_14 : parseMethodDescriptor "(Ljava/util/List;III)Z" = some ⟨[(.object "java/util/List"), .int, .int, .int], some .boolean⟩ := by decide +kernel
theorem ef_law1 (m : MethodId) (pI1 : Int32) (pI2 : Int32) : entryFrame m #[(.int pI1), (.int pI2)] maxLocals = mkF m 0 #[.val (.int pI1), .val (.int pI2), .unset, .unset, .unset, .unset, .unset] [] := by first | (simp [entryFrame, mkF, argsToLocals, Value.category, maxLocals]; done) | rfl
def Qlaw1 (Z : State) (pI1 : Int32) (pI2 : Int32) (pI900 : Int32) (pR3 : Addr) (pC4 : Cell) (pR5 : Addr) (pJ911 : Int64) (pJ912 : Int64) (pJ913 : Int64) (pJ914 : Int64) (pJ915 : Int64) (pJ916 : Int64) (pJ917 : Int64) (h0 : Heap) (n0 : Nat) (v : Option Value) (h : Heap) (L : List Loc) : Prop := v = some (.int 1) ∧ Fr n0 L
set_option maxRecDepth 65536 in
set_option maxHeartbeats 40000000 in
theorem law1 (l : Launch) (Z : State) (a0 : Array Value) (hw : ∀ d ∈ tables_1, d.before a0 Z = true) (ws : List Jvm.Cond) (pI1 : Int32) (pI2 : Int32) (pI900 : Int32) (pR3 : Addr) (pC4 : Cell) (pR5 : Addr) (pJ911 : Int64) (pJ912 : Int64) (pJ913 : Int64) (pJ914 : Int64) (pJ915 : Int64) (pJ916 : Int64) (pJ917 : Int64) (h0 : Heap) (n0 : Nat) (Z0 : n0 ≤ h0.size) (S_Integer_IntegerCache_high : Sta Z h0 "java/lang/Integer$IntegerCache" "high" "I" (.int 127)) (S_Integer_IntegerCache_cache : Sta Z h0 "java/lang/Integer$IntegerCache" "cache" "[Ljava/lang/Integer;" (.ref pR3)) (B_pR3 : Bxs Z pR3 pC4 "java/lang/Integer" "I" (256 : Int32) (fun j => .int (j - 128))) (D0 : Old Z n0 h0) (S_ImmutableCollections_EMPTY : Sta Z h0 "java/util/ImmutableCollections" "EMPTY" "Ljava/lang/Object;" (.ref pR5)) (hr3 : (pI1 &&& (2147483647 : Int32)) = pI900) (hc8 : (pI2 &&& (7 : Int32)) = (0 : Int32)) (hr46 : ((((pI900 / (1 : Int32)) + (pI900 % (1 : Int32))).toInt64) + (0 : Int64)) = pJ911) (hr54 : (pJ911 + (0 : Int64)) = pJ912) (hr62 : (pJ912 + (0 : Int64)) = pJ913) (hr70 : (pJ913 + (0 : Int64)) = pJ914) (hr78 : (pJ914 + (0 : Int64)) = pJ915) (hr87 : (pJ915 + (0 : Int64)) = pJ916) (hr96 : (pJ916 + (0 : Int64)) = pJ917) (hc104 : (lcmpW pJ917 (pI900.toInt64)) = (0 : Int32)) :
    oM l x code maxLocals ret ws room_1 #[(.int pI1), (.int pI2)] Z h0 (Qlaw1 Z pI1 pI2 pI900 pR3 pC4 pR5 pJ911 pJ912 pJ913 pJ914 pJ915 pJ916 pJ917 h0 n0) := by
  refine MetFree.of_bodySF (plainFor_of_name pn_12) hisR ?_
  intro p e s m args below meth c s₁ Bd hml0 hP hK
  obtain ⟨rfl, hZ, hh⟩ := hP
  have hx := Bd.exec
  have hby := Bd.bytes
  have hml : c.maxLocals = 7 := hml0
  have hown : s.vm.findClass "com/example/watchful_junction/watchfuljunction/scenario/ProportionalSpecEqualSharesPinLaw" = some m.cls := findClass_of_methodNamed Bd.named
  have hnm := (name_of_methodNamed Bd.named Bd.method).1
  have X0 : Stand p l e room_1 s m #[(.int pI1), (.int pI2)] below meth c s₁ [] 0 0 := Stand.of_body Bd
  have e0 : s₁.heap = h0 := by rw [← hh, Bd.state]; rfl
  have N0 := Fr.nil n0
  obtain ⟨_, _, ⟨T6, L6, k6, n6⟩, -, X6, ⟨Lc6, hQ6, l6, y6, z6⟩, st6⟩ := Jvm.LawKit.callS X0 hx (y := yN14) hown (mvT hZ (ow hw 1 rfl)) (mvT hZ (ow hw 2 rfl)) (mvT hZ (ow hw 3 rfl)) (mvT hZ (ow hw 4 rfl)) (by decide) (backOf (W := 0) (eqs1 l Z a0 hw [] pI900 pR3 pC4 pR5 h0 n0 Z0 S_Integer_IntegerCache_high S_Integer_IntegerCache_cache B_pR3 D0 S_ImmutableCollections_EMPTY) hZ (ow hw 4 rfl) (ow hw 3 rfl) (by decide) (by decide)) (g := (mkF m 14 #[.val (.int pI1), .val (.int pI2), .val (.int pI900), .val (.int 1), .unset, .unset, .unset] [(.int 1), (.int pI900)])) rfl (by rw [hml]; rfl) (argsL := [(.int pI900), (.int 1)]) (rest := []) (lenOf pd_12 rfl) rfl (Nat.le_refl _) (hb hby at_14) (fun _ _ => ⟨rfl, e0, (by decide : 0 + 4 ≤ _), (by decide : 0 + 5 ≤ _)⟩)
  dsimp only [Pt.U, Pt.locs, Pt.cells, Pt.slots] at X6 l6 y6 z6 st6 hQ6
  subst l6 y6 z6
  obtain ⟨bR6_0, bR6_1, rfl, Nq6, Kq6, sz6_0, x6_0, x6_1, x6_2, x6_3, x6_4⟩ := hQ6
  have N6 := Fr.app N0 Nq6
  obtain ⟨Lh6, X6, N6⟩ := own_hide X6 N6
  have Z8 : n0 ≤ T6.heap.size := (Nat.le_trans Z0 Kq6.1)
  have c9 : Sta Z T6.heap "java/util/ImmutableCollections" "EMPTY" "Ljava/lang/Object;" (.ref pR5) := own_sta_keep S_ImmutableCollections_EMPTY Kq6 all0
  obtain ⟨cq10, kq10, q10a, q10b, q10c⟩ := isOf hZ rfl x6_2
  obtain ⟨_, _, ⟨T10, L10, k10, n10⟩, -, X10, ⟨Lc10, hQ10, l10, y10, z10⟩, st10⟩ := X6.interfaceBack hx (xi := yN23) (y := yN17) hown (mvT hZ (ow hw 73 rfl)) (mvT hZ (ow hw 74 rfl)) (mvT hZ (ow hw 75 rfl)) (mvT hZ (ow hw 119 rfl)) (mvT hZ (ow hw 120 rfl)) (mvT hZ (ow hw 121 rfl)) (mvT hZ (ow hw 122 rfl)) (mvT hZ (ow hw 123 rfl)) (by decide) (backOf (W := 0) (l1S l Z a0 hw [] bR6_0 pR5 pR5 T6.heap n0 Z8 x6_4 c9 rfl) hZ (ow hw 124 rfl) (ow hw 105 rfl) (by decide) (by decide)) q10a q10b q10c (g := (mkF m 21 #[.val (.int pI1), .val (.int pI2), .val (.int pI900), .val (.int 1), .val (.ref bR6_0), .unset, .unset] [(.ref bR6_0)])) rfl (by rw [hml]; rfl) (Steps.refl _) (argsL := []) (rest := []) (lenOf pd_6 rfl) rfl (Nat.le_refl _) (hb hby at_21) (fun _ _ => ⟨rfl, rfl, (by decide : 4 + 0 ≤ _), (by decide : 5 + 0 ≤ _)⟩)
  dsimp only [Pt.U, Pt.locs, Pt.cells, Pt.slots] at X10 l10 y10 z10 st10 hQ10
  subst l10 y10 z10
  obtain ⟨rfl, Nq10, e10⟩ := hQ10
  have N10 := Fr.app N6 Nq10
  obtain ⟨_, _, ⟨T11, L11, k11, n11⟩, -, X11, ⟨Lc11, hQ11, l11, y11, z11⟩, st11⟩ := Jvm.LawKit.callS X10 hx (y := yN20) hown (mvT hZ (ow hw 82 rfl)) (mvT hZ (ow hw 83 rfl)) (mvT hZ (ow hw 84 rfl)) (mvT hZ (ow hw 85 rfl)) (by decide) (backOf (W := 0) (at12_0 l Z a0 hw [] bR6_0 (1 : Int32) bR6_1 ((pI900 / (1 : Int32)) + (pI900 % (1 : Int32))) T6.heap n0 Z8 x6_3 x6_2 x6_0 x6_1 (by decide)) hZ (ow hw 85 rfl) (ow hw 84 rfl) (by decide) (by decide)) (g := (mkF m 36 #[.val (.int pI1), .val (.int pI2), .val (.int pI900), .val (.int 1), .val (.ref bR6_0), .unset, .unset] [(.int 1), (.int 0), (.ref bR6_0)])) rfl (by rw [hml]; rfl) (argsL := [(.ref bR6_0), (.int 0), (.int 1)]) (rest := []) (lenOf pd_13 rfl) rfl (Nat.le_refl _) (hb hby at_36) (fun _ _ => ⟨rfl, e10, (by decide : 4 + 0 ≤ _), (by decide : 5 + 0 ≤ _)⟩)
  dsimp only [Pt.U, Pt.locs, Pt.cells, Pt.slots] at X11 l11 y11 z11 st11 hQ11
  subst l11 y11 z11
  obtain ⟨rfl, Nq11, e11⟩ := hQ11
  have N11 := Fr.app N10 Nq11
  obtain ⟨_, _, ⟨T12, L12, k12, n12⟩, -, X12, ⟨Lc12, hQ12, l12, y12, z12⟩, st12⟩ := Jvm.LawKit.callS X11 hx (y := yN20) hown (mvT hZ (ow hw 82 rfl)) (mvT hZ (ow hw 83 rfl)) (mvT hZ (ow hw 84 rfl)) (mvT hZ (ow hw 85 rfl)) (by decide) (backOf (W := 2) (atE l Z a0 hw [] bR6_0 (1 : Int32) (1 : Int32) T6.heap n0 Z8 (by decide)) hZ (ow hw 85 rfl) (ow hw 84 rfl) (by decide) (by decide)) (g := (mkF m 43 #[.val (.int pI1), .val (.int pI2), .val (.int pI900), .val (.int 1), .val (.ref bR6_0), .unset, .unset] [(.int 1), (.int 1), (.ref bR6_0), (.long (((pI900 / (1 : Int32)) + (pI900 % (1 : Int32))).toInt64))])) rfl (by rw [hml]; rfl) (argsL := [(.ref bR6_0), (.int 1), (.int 1)]) (rest := [(.long (((pI900 / (1 : Int32)) + (pI900 % (1 : Int32))).toInt64))]) (lenOf pd_13 rfl) rfl (Nat.le_refl _) (hb hby at_43) (fun _ _ => ⟨rfl, e11, (by decide : 4 + 0 ≤ _), (by decide : 5 + 0 ≤ _)⟩)
  dsimp only [Pt.U, Pt.locs, Pt.cells, Pt.slots] at X12 l12 y12 z12 st12 hQ12
  subst l12 y12 z12
  obtain ⟨rfl, Nq12, e12⟩ := hQ12
  have N12 := Fr.app N11 Nq12
  obtain ⟨_, _, ⟨T13, L13, k13, n13⟩, -, X13, ⟨Lc13, hQ13, l13, y13, z13⟩, st13⟩ := Jvm.LawKit.callS X12 hx (y := yN20) hown (mvT hZ (ow hw 82 rfl)) (mvT hZ (ow hw 83 rfl)) (mvT hZ (ow hw 84 rfl)) (mvT hZ (ow hw 85 rfl)) (by decide) (backOf (W := 2) (atE l Z a0 hw [] bR6_0 (2 : Int32) (1 : Int32) T6.heap n0 Z8 (by decide)) hZ (ow hw 85 rfl) (ow hw 84 rfl) (by decide) (by decide)) (g := (mkF m 51 #[.val (.int pI1), .val (.int pI2), .val (.int pI900), .val (.int 1), .val (.ref bR6_0), .unset, .unset] [(.int 1), (.int 2), (.ref bR6_0), (.long pJ911)])) rfl (by rw [hml]; rfl) (argsL := [(.ref bR6_0), (.int 2), (.int 1)]) (rest := [(.long pJ911)]) (lenOf pd_13 rfl) rfl (Nat.le_refl _) (hb hby at_51) (fun _ _ => ⟨rfl, e12, (by decide : 4 + 0 ≤ _), (by decide : 5 + 0 ≤ _)⟩)
  dsimp only [Pt.U, Pt.locs, Pt.cells, Pt.slots] at X13 l13 y13 z13 st13 hQ13
  subst l13 y13 z13
  obtain ⟨rfl, Nq13, e13⟩ := hQ13
  have N13 := Fr.app N12 Nq13
  obtain ⟨_, _, ⟨T14, L14, k14, n14⟩, -, X14, ⟨Lc14, hQ14, l14, y14, z14⟩, st14⟩ := Jvm.LawKit.callS X13 hx (y := yN20) hown (mvT hZ (ow hw 82 rfl)) (mvT hZ (ow hw 83 rfl)) (mvT hZ (ow hw 84 rfl)) (mvT hZ (ow hw 85 rfl)) (by decide) (backOf (W := 2) (atE l Z a0 hw [] bR6_0 (3 : Int32) (1 : Int32) T6.heap n0 Z8 (by decide)) hZ (ow hw 85 rfl) (ow hw 84 rfl) (by decide) (by decide)) (g := (mkF m 59 #[.val (.int pI1), .val (.int pI2), .val (.int pI900), .val (.int 1), .val (.ref bR6_0), .unset, .unset] [(.int 1), (.int 3), (.ref bR6_0), (.long pJ912)])) rfl (by rw [hml]; rfl) (argsL := [(.ref bR6_0), (.int 3), (.int 1)]) (rest := [(.long pJ912)]) (lenOf pd_13 rfl) rfl (Nat.le_refl _) (hb hby at_59) (fun _ _ => ⟨rfl, e13, (by decide : 4 + 0 ≤ _), (by decide : 5 + 0 ≤ _)⟩)
  dsimp only [Pt.U, Pt.locs, Pt.cells, Pt.slots] at X14 l14 y14 z14 st14 hQ14
  subst l14 y14 z14
  obtain ⟨rfl, Nq14, e14⟩ := hQ14
  have N14 := Fr.app N13 Nq14
  obtain ⟨_, _, ⟨T15, L15, k15, n15⟩, -, X15, ⟨Lc15, hQ15, l15, y15, z15⟩, st15⟩ := Jvm.LawKit.callS X14 hx (y := yN20) hown (mvT hZ (ow hw 82 rfl)) (mvT hZ (ow hw 83 rfl)) (mvT hZ (ow hw 84 rfl)) (mvT hZ (ow hw 85 rfl)) (by decide) (backOf (W := 2) (atE l Z a0 hw [] bR6_0 (4 : Int32) (1 : Int32) T6.heap n0 Z8 (by decide)) hZ (ow hw 85 rfl) (ow hw 84 rfl) (by decide) (by decide)) (g := (mkF m 67 #[.val (.int pI1), .val (.int pI2), .val (.int pI900), .val (.int 1), .val (.ref bR6_0), .unset, .unset] [(.int 1), (.int 4), (.ref bR6_0), (.long pJ913)])) rfl (by rw [hml]; rfl) (argsL := [(.ref bR6_0), (.int 4), (.int 1)]) (rest := [(.long pJ913)]) (lenOf pd_13 rfl) rfl (Nat.le_refl _) (hb hby at_67) (fun _ _ => ⟨rfl, e14, (by decide : 4 + 0 ≤ _), (by decide : 5 + 0 ≤ _)⟩)
  dsimp only [Pt.U, Pt.locs, Pt.cells, Pt.slots] at X15 l15 y15 z15 st15 hQ15
  subst l15 y15 z15
  obtain ⟨rfl, Nq15, e15⟩ := hQ15
  have N15 := Fr.app N14 Nq15
  obtain ⟨_, _, ⟨T16, L16, k16, n16⟩, -, X16, ⟨Lc16, hQ16, l16, y16, z16⟩, st16⟩ := Jvm.LawKit.callS X15 hx (y := yN20) hown (mvT hZ (ow hw 82 rfl)) (mvT hZ (ow hw 83 rfl)) (mvT hZ (ow hw 84 rfl)) (mvT hZ (ow hw 85 rfl)) (by decide) (backOf (W := 2) (atE l Z a0 hw [] bR6_0 (5 : Int32) (1 : Int32) T6.heap n0 Z8 (by decide)) hZ (ow hw 85 rfl) (ow hw 84 rfl) (by decide) (by decide)) (g := (mkF m 75 #[.val (.int pI1), .val (.int pI2), .val (.int pI900), .val (.int 1), .val (.ref bR6_0), .unset, .unset] [(.int 1), (.int 5), (.ref bR6_0), (.long pJ914)])) rfl (by rw [hml]; rfl) (argsL := [(.ref bR6_0), (.int 5), (.int 1)]) (rest := [(.long pJ914)]) (lenOf pd_13 rfl) rfl (Nat.le_refl _) (hb hby at_75) (fun _ _ => ⟨rfl, e15, (by decide : 4 + 0 ≤ _), (by decide : 5 + 0 ≤ _)⟩)
  dsimp only [Pt.U, Pt.locs, Pt.cells, Pt.slots] at X16 l16 y16 z16 st16 hQ16
  subst l16 y16 z16
  obtain ⟨rfl, Nq16, e16⟩ := hQ16
  have N16 := Fr.app N15 Nq16
  obtain ⟨_, _, ⟨T17, L17, k17, n17⟩, -, X17, ⟨Lc17, hQ17, l17, y17, z17⟩, st17⟩ := Jvm.LawKit.callS X16 hx (y := yN20) hown (mvT hZ (ow hw 82 rfl)) (mvT hZ (ow hw 83 rfl)) (mvT hZ (ow hw 84 rfl)) (mvT hZ (ow hw 85 rfl)) (by decide) (backOf (W := 2) (atE l Z a0 hw [] bR6_0 (6 : Int32) (1 : Int32) T6.heap n0 Z8 (by decide)) hZ (ow hw 85 rfl) (ow hw 84 rfl) (by decide) (by decide)) (g := (mkF m 84 #[.val (.int pI1), .val (.int pI2), .val (.int pI900), .val (.int 1), .val (.ref bR6_0), .unset, .unset] [(.int 1), (.int 6), (.ref bR6_0), (.long pJ915)])) rfl (by rw [hml]; rfl) (argsL := [(.ref bR6_0), (.int 6), (.int 1)]) (rest := [(.long pJ915)]) (lenOf pd_13 rfl) rfl (Nat.le_refl _) (hb hby at_84) (fun _ _ => ⟨rfl, e16, (by decide : 4 + 0 ≤ _), (by decide : 5 + 0 ≤ _)⟩)
  dsimp only [Pt.U, Pt.locs, Pt.cells, Pt.slots] at X17 l17 y17 z17 st17 hQ17
  subst l17 y17 z17
  obtain ⟨rfl, Nq17, e17⟩ := hQ17
  have N17 := Fr.app N16 Nq17
  obtain ⟨_, _, ⟨T18, L18, k18, n18⟩, -, X18, ⟨Lc18, hQ18, l18, y18, z18⟩, st18⟩ := Jvm.LawKit.callS X17 hx (y := yN20) hown (mvT hZ (ow hw 82 rfl)) (mvT hZ (ow hw 83 rfl)) (mvT hZ (ow hw 84 rfl)) (mvT hZ (ow hw 85 rfl)) (by decide) (backOf (W := 2) (atE l Z a0 hw [] bR6_0 (7 : Int32) (1 : Int32) T6.heap n0 Z8 (by decide)) hZ (ow hw 85 rfl) (ow hw 84 rfl) (by decide) (by decide)) (g := (mkF m 93 #[.val (.int pI1), .val (.int pI2), .val (.int pI900), .val (.int 1), .val (.ref bR6_0), .unset, .unset] [(.int 1), (.int 7), (.ref bR6_0), (.long pJ916)])) rfl (by rw [hml]; rfl) (argsL := [(.ref bR6_0), (.int 7), (.int 1)]) (rest := [(.long pJ916)]) (lenOf pd_13 rfl) rfl (Nat.le_refl _) (hb hby at_93) (fun _ _ => ⟨rfl, e17, (by decide : 4 + 0 ≤ _), (by decide : 5 + 0 ≤ _)⟩)
  dsimp only [Pt.U, Pt.locs, Pt.cells, Pt.slots] at X18 l18 y18 z18 st18 hQ18
  subst l18 y18 z18
  obtain ⟨rfl, Nq18, e18⟩ := hQ18
  have N18 := Fr.app N17 Nq18
  obtain ⟨_, _, ⟨T19, L19, k19, n19⟩, -, X19, ⟨Lc19, hQ19, l19, y19, z19⟩, st19⟩ := Jvm.LawKit.callS X18 hx (y := yN22) hown (mvT hZ (ow hw 100 rfl)) (mvT hZ (ow hw 101 rfl)) (mvT hZ (ow hw 84 rfl)) (mvT hZ (ow hw 102 rfl)) (by decide) (backOf (W := 0) (laE l Z a0 hw [] bR6_0 (1 : Int32) (1 : Int32) pI900 T6.heap n0 Z8 (by decide)) hZ (ow hw 102 rfl) (ow hw 84 rfl) (by decide) (by decide)) (g := (mkF m 114 #[.val (.int pI1), .val (.int pI2), .val (.int pI900), .val (.int 1), .val (.ref bR6_0), .val (.long pJ917), .second] [(.int pI900), (.int 1), (.int 1), (.ref bR6_0)])) rfl (by rw [hml]; rfl) (argsL := [(.ref bR6_0), (.int 1), (.int 1), (.int pI900)]) (rest := []) (lenOf pd_14 rfl) rfl (Nat.le_refl _) (hb hby at_114) (fun _ _ => ⟨rfl, e18, (by decide : 4 + 0 ≤ _), (by decide : 5 + 0 ≤ _)⟩)
  dsimp only [Pt.U, Pt.locs, Pt.cells, Pt.slots] at X19 l19 y19 z19 st19 hQ19
  subst l19 y19 z19
  obtain ⟨rfl, Nq19, e19⟩ := hQ19
  have N19 := Fr.app N18 Nq19
  obtain ⟨_, _, ⟨T20, L20, k20, n20⟩, -, X20, ⟨Lc20, hQ20, l20, y20, z20⟩, st20⟩ := Jvm.LawKit.callS X19 hx (y := yN22) hown (mvT hZ (ow hw 100 rfl)) (mvT hZ (ow hw 101 rfl)) (mvT hZ (ow hw 84 rfl)) (mvT hZ (ow hw 102 rfl)) (by decide) (backOf (W := 0) (laE l Z a0 hw [] bR6_0 (2 : Int32) (1 : Int32) pI900 T6.heap n0 Z8 (by decide)) hZ (ow hw 102 rfl) (ow hw 84 rfl) (by decide) (by decide)) (g := (mkF m 125 #[.val (.int pI1), .val (.int pI2), .val (.int pI900), .val (.int 1), .val (.ref bR6_0), .val (.long pJ917), .second] [(.int pI900), (.int 1), (.int 2), (.ref bR6_0)])) rfl (by rw [hml]; rfl) (argsL := [(.ref bR6_0), (.int 2), (.int 1), (.int pI900)]) (rest := []) (lenOf pd_14 rfl) rfl (Nat.le_refl _) (hb hby at_125) (fun _ _ => ⟨rfl, e19, (by decide : 4 + 0 ≤ _), (by decide : 5 + 0 ≤ _)⟩)
  dsimp only [Pt.U, Pt.locs, Pt.cells, Pt.slots] at X20 l20 y20 z20 st20 hQ20
  subst l20 y20 z20
  obtain ⟨rfl, Nq20, e20⟩ := hQ20
  have N20 := Fr.app N19 Nq20
  obtain ⟨_, _, ⟨T21, L21, k21, n21⟩, -, X21, ⟨Lc21, hQ21, l21, y21, z21⟩, st21⟩ := Jvm.LawKit.callS X20 hx (y := yN22) hown (mvT hZ (ow hw 100 rfl)) (mvT hZ (ow hw 101 rfl)) (mvT hZ (ow hw 84 rfl)) (mvT hZ (ow hw 102 rfl)) (by decide) (backOf (W := 0) (laE l Z a0 hw [] bR6_0 (3 : Int32) (1 : Int32) pI900 T6.heap n0 Z8 (by decide)) hZ (ow hw 102 rfl) (ow hw 84 rfl) (by decide) (by decide)) (g := (mkF m 136 #[.val (.int pI1), .val (.int pI2), .val (.int pI900), .val (.int 1), .val (.ref bR6_0), .val (.long pJ917), .second] [(.int pI900), (.int 1), (.int 3), (.ref bR6_0)])) rfl (by rw [hml]; rfl) (argsL := [(.ref bR6_0), (.int 3), (.int 1), (.int pI900)]) (rest := []) (lenOf pd_14 rfl) rfl (Nat.le_refl _) (hb hby at_136) (fun _ _ => ⟨rfl, e20, (by decide : 4 + 0 ≤ _), (by decide : 5 + 0 ≤ _)⟩)
  dsimp only [Pt.U, Pt.locs, Pt.cells, Pt.slots] at X21 l21 y21 z21 st21 hQ21
  subst l21 y21 z21
  obtain ⟨rfl, Nq21, e21⟩ := hQ21
  have N21 := Fr.app N20 Nq21
  obtain ⟨_, _, ⟨T22, L22, k22, n22⟩, -, X22, ⟨Lc22, hQ22, l22, y22, z22⟩, st22⟩ := Jvm.LawKit.callS X21 hx (y := yN22) hown (mvT hZ (ow hw 100 rfl)) (mvT hZ (ow hw 101 rfl)) (mvT hZ (ow hw 84 rfl)) (mvT hZ (ow hw 102 rfl)) (by decide) (backOf (W := 0) (laE l Z a0 hw [] bR6_0 (4 : Int32) (1 : Int32) pI900 T6.heap n0 Z8 (by decide)) hZ (ow hw 102 rfl) (ow hw 84 rfl) (by decide) (by decide)) (g := (mkF m 147 #[.val (.int pI1), .val (.int pI2), .val (.int pI900), .val (.int 1), .val (.ref bR6_0), .val (.long pJ917), .second] [(.int pI900), (.int 1), (.int 4), (.ref bR6_0)])) rfl (by rw [hml]; rfl) (argsL := [(.ref bR6_0), (.int 4), (.int 1), (.int pI900)]) (rest := []) (lenOf pd_14 rfl) rfl (Nat.le_refl _) (hb hby at_147) (fun _ _ => ⟨rfl, e21, (by decide : 4 + 0 ≤ _), (by decide : 5 + 0 ≤ _)⟩)
  dsimp only [Pt.U, Pt.locs, Pt.cells, Pt.slots] at X22 l22 y22 z22 st22 hQ22
  subst l22 y22 z22
  obtain ⟨rfl, Nq22, e22⟩ := hQ22
  have N22 := Fr.app N21 Nq22
  obtain ⟨_, _, ⟨T23, L23, k23, n23⟩, -, X23, ⟨Lc23, hQ23, l23, y23, z23⟩, st23⟩ := Jvm.LawKit.callS X22 hx (y := yN22) hown (mvT hZ (ow hw 100 rfl)) (mvT hZ (ow hw 101 rfl)) (mvT hZ (ow hw 84 rfl)) (mvT hZ (ow hw 102 rfl)) (by decide) (backOf (W := 0) (laE l Z a0 hw [] bR6_0 (5 : Int32) (1 : Int32) pI900 T6.heap n0 Z8 (by decide)) hZ (ow hw 102 rfl) (ow hw 84 rfl) (by decide) (by decide)) (g := (mkF m 158 #[.val (.int pI1), .val (.int pI2), .val (.int pI900), .val (.int 1), .val (.ref bR6_0), .val (.long pJ917), .second] [(.int pI900), (.int 1), (.int 5), (.ref bR6_0)])) rfl (by rw [hml]; rfl) (argsL := [(.ref bR6_0), (.int 5), (.int 1), (.int pI900)]) (rest := []) (lenOf pd_14 rfl) rfl (Nat.le_refl _) (hb hby at_158) (fun _ _ => ⟨rfl, e22, (by decide : 4 + 0 ≤ _), (by decide : 5 + 0 ≤ _)⟩)
  dsimp only [Pt.U, Pt.locs, Pt.cells, Pt.slots] at X23 l23 y23 z23 st23 hQ23
  subst l23 y23 z23
  obtain ⟨rfl, Nq23, e23⟩ := hQ23
  have N23 := Fr.app N22 Nq23
  obtain ⟨_, _, ⟨T24, L24, k24, n24⟩, -, X24, ⟨Lc24, hQ24, l24, y24, z24⟩, st24⟩ := Jvm.LawKit.callS X23 hx (y := yN22) hown (mvT hZ (ow hw 100 rfl)) (mvT hZ (ow hw 101 rfl)) (mvT hZ (ow hw 84 rfl)) (mvT hZ (ow hw 102 rfl)) (by decide) (backOf (W := 0) (laE l Z a0 hw [] bR6_0 (6 : Int32) (1 : Int32) pI900 T6.heap n0 Z8 (by decide)) hZ (ow hw 102 rfl) (ow hw 84 rfl) (by decide) (by decide)) (g := (mkF m 170 #[.val (.int pI1), .val (.int pI2), .val (.int pI900), .val (.int 1), .val (.ref bR6_0), .val (.long pJ917), .second] [(.int pI900), (.int 1), (.int 6), (.ref bR6_0)])) rfl (by rw [hml]; rfl) (argsL := [(.ref bR6_0), (.int 6), (.int 1), (.int pI900)]) (rest := []) (lenOf pd_14 rfl) rfl (Nat.le_refl _) (hb hby at_170) (fun _ _ => ⟨rfl, e23, (by decide : 4 + 0 ≤ _), (by decide : 5 + 0 ≤ _)⟩)
  dsimp only [Pt.U, Pt.locs, Pt.cells, Pt.slots] at X24 l24 y24 z24 st24 hQ24
  subst l24 y24 z24
  obtain ⟨rfl, Nq24, e24⟩ := hQ24
  have N24 := Fr.app N23 Nq24
  obtain ⟨_, _, ⟨T25, L25, k25, n25⟩, -, X25, ⟨Lc25, hQ25, l25, y25, z25⟩, st25⟩ := Jvm.LawKit.callS X24 hx (y := yN22) hown (mvT hZ (ow hw 100 rfl)) (mvT hZ (ow hw 101 rfl)) (mvT hZ (ow hw 84 rfl)) (mvT hZ (ow hw 102 rfl)) (by decide) (backOf (W := 0) (laE l Z a0 hw [] bR6_0 (7 : Int32) (1 : Int32) pI900 T6.heap n0 Z8 (by decide)) hZ (ow hw 102 rfl) (ow hw 84 rfl) (by decide) (by decide)) (g := (mkF m 182 #[.val (.int pI1), .val (.int pI2), .val (.int pI900), .val (.int 1), .val (.ref bR6_0), .val (.long pJ917), .second] [(.int pI900), (.int 1), (.int 7), (.ref bR6_0)])) rfl (by rw [hml]; rfl) (argsL := [(.ref bR6_0), (.int 7), (.int 1), (.int pI900)]) (rest := []) (lenOf pd_14 rfl) rfl (Nat.le_refl _) (hb hby at_182) (fun _ _ => ⟨rfl, e24, (by decide : 4 + 0 ≤ _), (by decide : 5 + 0 ≤ _)⟩)
  dsimp only [Pt.U, Pt.locs, Pt.cells, Pt.slots] at X25 l25 y25 z25 st25 hQ25
  subst l25 y25 z25
  obtain ⟨rfl, Nq25, e25⟩ := hQ25
  have N25 := Fr.app N24 Nq25
  obtain ⟨fs, hr, hrun, hended, hW, hsame⟩ := X25.leave (v := some (.int 1)) (fun h => by rw [Bd.returns] at h; cases h)
  refine ⟨_, _, castTop (ef_law1 m pI1 pI2) ?_, hrun, hended, _, _, rfl, ?_, ⟨_, rfl⟩, hW, hsame.mono (by decide) (by decide)⟩
  · show oS p e below s₁ m 0 #[.val (.int pI1), .val (.int pI2), .unset, .unset, .unset, .unset, .unset] [] _
    refine XS.iloadN X0.here hx rfl (hb hby at_0) rfl ?_
    refine X0.ldcInt hx hown (mvT hZ (ow hw 0 rfl)) (g := (mkF m 1 #[.val (.int pI1), .val (.int pI2), .unset, .unset, .unset, .unset, .unset] [(.int pI1)])) rfl (hb hby at_1) _ ?_
    refine XS.iand X0.here hx rfl (hb hby at_3) rfl ?_
    show Steps p.tables e below (s₁.setTop (mkF m 4 #[.val (.int pI1), .val (.int pI2), .unset, .unset, .unset, .unset, .unset] [(.int (pI1 &&& (2147483647 : Int32)))])) _
    rw [hr3]
    refine XS.istoreN X0.here hx rfl (hb hby at_4) rfl (l' := #[.val (.int pI1), .val (.int pI2), .val (.int pI900), .unset, .unset, .unset, .unset]) rfl ?_
    refine XS.iloadN X0.here hx rfl (hb hby at_5) rfl ?_
    refine XS.bipush X0.here hx rfl (hb hby at_6) ?_
    refine XS.iand X0.here hx rfl (hb hby at_8) rfl ?_
    show Steps p.tables e below (s₁.setTop (mkF m 9 #[.val (.int pI1), .val (.int pI2), .val (.int pI900), .unset, .unset, .unset, .unset] [(.int (pI2 &&& (7 : Int32)))])) _
    rw [hc8]
    refine XS.iconst X0.here hx rfl (hb hby at_9) ?_
    show oS p e below s₁ m 10 #[.val (.int pI1), .val (.int pI2), .val (.int pI900), .unset, .unset, .unset, .unset] [(.int 1), (.int 0)] _
    refine XS.iadd X0.here hx rfl (hb hby at_10) rfl ?_
    refine XS.istoreN X0.here hx rfl (hb hby at_11) rfl (l' := #[.val (.int pI1), .val (.int pI2), .val (.int pI900), .val (.int 1), .unset, .unset, .unset]) rfl ?_
    refine XS.iloadN X0.here hx rfl (hb hby at_12) rfl ?_
    refine XS.iloadN X0.here hx rfl (hb hby at_13) rfl ?_
    refine st6 _ ?_
    refine XS.astore X6.here hx rfl (hb hby at_17) rfl rfl (l' := #[.val (.int pI1), .val (.int pI2), .val (.int pI900), .val (.int 1), .val (.ref bR6_0), .unset, .unset]) rfl ?_
    refine XS.aload X6.here hx rfl (hb hby at_19) rfl rfl ?_
    refine st10.trans ?_
    show oS p e below T10 m 26 #[.val (.int pI1), .val (.int pI2), .val (.int pI900), .val (.int 1), .val (.ref bR6_0), .unset, .unset] [(.int 1)] _
    refine XS.iloadN X10.here hx rfl (hb hby at_26) rfl ?_
    refine XS.icmpYes X10.here hx rfl (pc0 := 27) (pc' := 32) rfl (hb hby at_27) rfl (teq (by decide : (1 : Int32) = (1 : Int32))).1 (by decide) (by decide) ?_
    refine XS.aload X10.here hx rfl (hb hby at_32) rfl rfl ?_
    refine XS.iconst X10.here hx rfl (hb hby at_34) ?_
    refine XS.iloadN X10.here hx rfl (hb hby at_35) rfl ?_
    refine st11 _ ?_
    refine XS.aload X11.here hx rfl (hb hby at_39) rfl rfl ?_
    refine XS.iconst X11.here hx rfl (hb hby at_41) ?_
    show oS p e below T11 m 42 #[.val (.int pI1), .val (.int pI2), .val (.int pI900), .val (.int 1), .val (.ref bR6_0), .unset, .unset] [(.int 1), (.ref bR6_0), (.long (((pI900 / (1 : Int32)) + (pI900 % (1 : Int32))).toInt64))] _
    refine XS.iloadN X11.here hx rfl (hb hby at_42) rfl ?_
    refine st12 _ ?_
    refine XS.ladd X12.here hx rfl (hb hby at_46) rfl ?_
    show Steps p.tables e below (T12.setTop (mkF m 47 #[.val (.int pI1), .val (.int pI2), .val (.int pI900), .val (.int 1), .val (.ref bR6_0), .unset, .unset] [(.long ((((pI900 / (1 : Int32)) + (pI900 % (1 : Int32))).toInt64) + (0 : Int64)))])) _
    rw [hr46]
    refine XS.aload X12.here hx rfl (hb hby at_47) rfl rfl ?_
    refine XS.iconst X12.here hx rfl (hb hby at_49) ?_
    refine XS.iloadN X12.here hx rfl (hb hby at_50) rfl ?_
    refine st13 _ ?_
    refine XS.ladd X13.here hx rfl (hb hby at_54) rfl ?_
    show Steps p.tables e below (T13.setTop (mkF m 55 #[.val (.int pI1), .val (.int pI2), .val (.int pI900), .val (.int 1), .val (.ref bR6_0), .unset, .unset] [(.long (pJ911 + (0 : Int64)))])) _
    rw [hr54]
    show oS p e below T13 m 55 #[.val (.int pI1), .val (.int pI2), .val (.int pI900), .val (.int 1), .val (.ref bR6_0), .unset, .unset] [(.long pJ912)] _
    refine XS.aload X13.here hx rfl (hb hby at_55) rfl rfl ?_
    refine XS.iconst X13.here hx rfl (hb hby at_57) ?_
    refine XS.iloadN X13.here hx rfl (hb hby at_58) rfl ?_
    refine st14 _ ?_
    refine XS.ladd X14.here hx rfl (hb hby at_62) rfl ?_
    show Steps p.tables e below (T14.setTop (mkF m 63 #[.val (.int pI1), .val (.int pI2), .val (.int pI900), .val (.int 1), .val (.ref bR6_0), .unset, .unset] [(.long (pJ912 + (0 : Int64)))])) _
    rw [hr62]
    refine XS.aload X14.here hx rfl (hb hby at_63) rfl rfl ?_
    refine XS.iconst X14.here hx rfl (hb hby at_65) ?_
    refine XS.iloadN X14.here hx rfl (hb hby at_66) rfl ?_
    show oS p e below T14 m 67 #[.val (.int pI1), .val (.int pI2), .val (.int pI900), .val (.int 1), .val (.ref bR6_0), .unset, .unset] [(.int 1), (.int 4), (.ref bR6_0), (.long pJ913)] _
    refine st15 _ ?_
    refine XS.ladd X15.here hx rfl (hb hby at_70) rfl ?_
    show Steps p.tables e below (T15.setTop (mkF m 71 #[.val (.int pI1), .val (.int pI2), .val (.int pI900), .val (.int 1), .val (.ref bR6_0), .unset, .unset] [(.long (pJ913 + (0 : Int64)))])) _
    rw [hr70]
    refine XS.aload X15.here hx rfl (hb hby at_71) rfl rfl ?_
    refine XS.iconst X15.here hx rfl (hb hby at_73) ?_
    refine XS.iloadN X15.here hx rfl (hb hby at_74) rfl ?_
    refine st16 _ ?_
    refine XS.ladd X16.here hx rfl (hb hby at_78) rfl ?_
    show Steps p.tables e below (T16.setTop (mkF m 79 #[.val (.int pI1), .val (.int pI2), .val (.int pI900), .val (.int 1), .val (.ref bR6_0), .unset, .unset] [(.long (pJ914 + (0 : Int64)))])) _
    rw [hr78]
    refine XS.aload X16.here hx rfl (hb hby at_79) rfl rfl ?_
    show oS p e below T16 m 81 #[.val (.int pI1), .val (.int pI2), .val (.int pI900), .val (.int 1), .val (.ref bR6_0), .unset, .unset] [(.ref bR6_0), (.long pJ915)] _
    refine XS.bipush X16.here hx rfl (hb hby at_81) ?_
    refine XS.iloadN X16.here hx rfl (hb hby at_83) rfl ?_
    refine st17 _ ?_
    refine XS.ladd X17.here hx rfl (hb hby at_87) rfl ?_
    show Steps p.tables e below (T17.setTop (mkF m 88 #[.val (.int pI1), .val (.int pI2), .val (.int pI900), .val (.int 1), .val (.ref bR6_0), .unset, .unset] [(.long (pJ915 + (0 : Int64)))])) _
    rw [hr87]
    refine XS.aload X17.here hx rfl (hb hby at_88) rfl rfl ?_
    refine XS.bipush X17.here hx rfl (hb hby at_90) ?_
    refine XS.iloadN X17.here hx rfl (hb hby at_92) rfl ?_
    refine st18 _ ?_
    show oS p e below T18 m 96 #[.val (.int pI1), .val (.int pI2), .val (.int pI900), .val (.int 1), .val (.ref bR6_0), .unset, .unset] [(.long 0), (.long pJ916)] _
    refine XS.ladd X18.here hx rfl (hb hby at_96) rfl ?_
    show Steps p.tables e below (T18.setTop (mkF m 97 #[.val (.int pI1), .val (.int pI2), .val (.int pI900), .val (.int 1), .val (.ref bR6_0), .unset, .unset] [(.long (pJ916 + (0 : Int64)))])) _
    rw [hr96]
    refine XS.lstore X18.here hx rfl (hb hby at_97) rfl (l' := #[.val (.int pI1), .val (.int pI2), .val (.int pI900), .val (.int 1), .val (.ref bR6_0), .val (.long pJ917), .second]) rfl ?_
    refine XS.lload X18.here hx rfl (hb hby at_99) rfl ?_
    refine XS.iloadN X18.here hx rfl (hb hby at_101) rfl ?_
    refine XS.i2l X18.here hx rfl (hb hby at_102) rfl ?_
    refine XS.lcmp X18.here hx rfl (hb hby at_103) rfl ?_
    refine XS.ifYes X18.here hx rfl (pc0 := 104) (pc' := 109) rfl (hb hby at_104) rfl ((if0 _ _).trans (teq hc104).1) (by decide) (by decide) ?_
    refine XS.aload X18.here hx rfl (hb hby at_109) rfl rfl ?_
    show oS p e below T18 m 111 #[.val (.int pI1), .val (.int pI2), .val (.int pI900), .val (.int 1), .val (.ref bR6_0), .val (.long pJ917), .second] [(.ref bR6_0)] _
    refine XS.iconst X18.here hx rfl (hb hby at_111) ?_
    refine XS.iloadN X18.here hx rfl (hb hby at_112) rfl ?_
    refine XS.iloadN X18.here hx rfl (hb hby at_113) rfl ?_
    refine st19 _ ?_
    refine XS.ifNo X19.here hx rfl (hb hby at_117) rfl ((if0 _ _).trans (feq (by decide : ¬ ((1 : Int32) = (0 : Int32)))).1) ?_
    refine XS.aload X19.here hx rfl (hb hby at_120) rfl rfl ?_
    refine XS.iconst X19.here hx rfl (hb hby at_122) ?_
    refine XS.iloadN X19.here hx rfl (hb hby at_123) rfl ?_
    show oS p e below T19 m 124 #[.val (.int pI1), .val (.int pI2), .val (.int pI900), .val (.int 1), .val (.ref bR6_0), .val (.long pJ917), .second] [(.int 1), (.int 2), (.ref bR6_0)] _
    refine XS.iloadN X19.here hx rfl (hb hby at_124) rfl ?_
    refine st20 _ ?_
    refine XS.ifNo X20.here hx rfl (hb hby at_128) rfl ((if0 _ _).trans (feq (by decide : ¬ ((1 : Int32) = (0 : Int32)))).1) ?_
    refine XS.aload X20.here hx rfl (hb hby at_131) rfl rfl ?_
    refine XS.iconst X20.here hx rfl (hb hby at_133) ?_
    refine XS.iloadN X20.here hx rfl (hb hby at_134) rfl ?_
    refine XS.iloadN X20.here hx rfl (hb hby at_135) rfl ?_
    refine st21 _ ?_
    show oS p e below T21 m 139 #[.val (.int pI1), .val (.int pI2), .val (.int pI900), .val (.int 1), .val (.ref bR6_0), .val (.long pJ917), .second] [(.int 1)] _
    refine XS.ifNo X21.here hx rfl (hb hby at_139) rfl ((if0 _ _).trans (feq (by decide : ¬ ((1 : Int32) = (0 : Int32)))).1) ?_
    refine XS.aload X21.here hx rfl (hb hby at_142) rfl rfl ?_
    refine XS.iconst X21.here hx rfl (hb hby at_144) ?_
    refine XS.iloadN X21.here hx rfl (hb hby at_145) rfl ?_
    refine XS.iloadN X21.here hx rfl (hb hby at_146) rfl ?_
    refine st22 _ ?_
    refine XS.ifNo X22.here hx rfl (hb hby at_150) rfl ((if0 _ _).trans (feq (by decide : ¬ ((1 : Int32) = (0 : Int32)))).1) ?_
    refine XS.aload X22.here hx rfl (hb hby at_153) rfl rfl ?_
    show oS p e below T22 m 155 #[.val (.int pI1), .val (.int pI2), .val (.int pI900), .val (.int 1), .val (.ref bR6_0), .val (.long pJ917), .second] [(.ref bR6_0)] _
    refine XS.iconst X22.here hx rfl (hb hby at_155) ?_
    refine XS.iloadN X22.here hx rfl (hb hby at_156) rfl ?_
    refine XS.iloadN X22.here hx rfl (hb hby at_157) rfl ?_
    refine st23 _ ?_
    refine XS.ifNo X23.here hx rfl (hb hby at_161) rfl ((if0 _ _).trans (feq (by decide : ¬ ((1 : Int32) = (0 : Int32)))).1) ?_
    refine XS.aload X23.here hx rfl (hb hby at_164) rfl rfl ?_
    refine XS.bipush X23.here hx rfl (hb hby at_166) ?_
    refine XS.iloadN X23.here hx rfl (hb hby at_168) rfl ?_
    show oS p e below T23 m 169 #[.val (.int pI1), .val (.int pI2), .val (.int pI900), .val (.int 1), .val (.ref bR6_0), .val (.long pJ917), .second] [(.int 1), (.int 6), (.ref bR6_0)] _
    refine XS.iloadN X23.here hx rfl (hb hby at_169) rfl ?_
    refine st24 _ ?_
    refine XS.ifNo X24.here hx rfl (hb hby at_173) rfl ((if0 _ _).trans (feq (by decide : ¬ ((1 : Int32) = (0 : Int32)))).1) ?_
    refine XS.aload X24.here hx rfl (hb hby at_176) rfl rfl ?_
    refine XS.bipush X24.here hx rfl (hb hby at_178) ?_
    refine XS.iloadN X24.here hx rfl (hb hby at_180) rfl ?_
    refine XS.iloadN X24.here hx rfl (hb hby at_181) rfl ?_
    refine st25 _ ?_
    show oS p e below T25 m 185 #[.val (.int pI1), .val (.int pI2), .val (.int pI900), .val (.int 1), .val (.ref bR6_0), .val (.long pJ917), .second] [(.int 1)] _
    refine XS.ifNo X25.here hx rfl (hb hby at_185) rfl ((if0 _ _).trans (feq (by decide : ¬ ((1 : Int32) = (0 : Int32)))).1) ?_
    refine XS.iconst X25.here hx rfl (hb hby at_188) ?_
    refine XS.goto X25.here hx rfl (pc0 := 189) (pc' := 193) rfl (hb hby at_189) (by decide) (by decide) ?_
    exact retN X25 hx (t := .boolean) Bd.returns (by simp) (hb hby at_193) hr
  · show Qlaw1 Z pI1 pI2 pI900 pR3 pC4 pR5 pJ911 pJ912 pJ913 pJ914 pJ915 pJ916 pJ917 h0 n0 _ T25.heap _
    rw [e25]
    exact ⟨rfl, N25⟩
theorem ef_law2 (m : MethodId) (pI1 : Int32) (pI2 : Int32) : entryFrame m #[(.int pI1), (.int pI2)] maxLocals = mkF m 0 #[.val (.int pI1), .val (.int pI2), .unset, .unset, .unset, .unset, .unset] [] := by first | (simp [entryFrame, mkF, argsToLocals, Value.category, maxLocals]; done) | rfl
def Qlaw2 (Z : State) (pI1 : Int32) (pI2 : Int32) (pI900 : Int32) (pR3 : Addr) (pC4 : Cell) (pR8 : Addr) (pJ911 : Int64) (pJ912 : Int64) (pJ913 : Int64) (pJ914 : Int64) (pJ915 : Int64) (pJ916 : Int64) (pJ917 : Int64) (h0 : Heap) (n0 : Nat) (v : Option Value) (h : Heap) (L : List Loc) : Prop := v = some (.int 1) ∧ Fr n0 L
set_option maxRecDepth 65536 in
set_option maxHeartbeats 40000000 in
theorem law2 (l : Launch) (Z : State) (a0 : Array Value) (hw : ∀ d ∈ tables_1, d.before a0 Z = true) (ws : List Jvm.Cond) (pI1 : Int32) (pI2 : Int32) (pI900 : Int32) (pR3 : Addr) (pC4 : Cell) (pR8 : Addr) (pJ911 : Int64) (pJ912 : Int64) (pJ913 : Int64) (pJ914 : Int64) (pJ915 : Int64) (pJ916 : Int64) (pJ917 : Int64) (h0 : Heap) (n0 : Nat) (Z0 : n0 ≤ h0.size) (S_Integer_IntegerCache_high : Sta Z h0 "java/lang/Integer$IntegerCache" "high" "I" (.int 127)) (S_Integer_IntegerCache_cache : Sta Z h0 "java/lang/Integer$IntegerCache" "cache" "[Ljava/lang/Integer;" (.ref pR3)) (B_pR3 : Bxs Z pR3 pC4 "java/lang/Integer" "I" (256 : Int32) (fun j => .int (j - 128))) (D0 : Old Z n0 h0) (S_ImmutableCollections_EMPTY : Sta Z h0 "java/util/ImmutableCollections" "EMPTY" "Ljava/lang/Object;" (.ref pR8)) (E_pR8 : Exa Z h0 pR8 "java/lang/Object") (hr3 : (pI1 &&& (2147483647 : Int32)) = pI900) (hc8 : (pI2 &&& (7 : Int32)) = (1 : Int32)) (hr46 : ((((pI900 / (2 : Int32)) + (pI900 % (2 : Int32))).toInt64) + ((pI900 / (2 : Int32)).toInt64)) = pJ911) (hr54 : (pJ911 + (0 : Int64)) = pJ912) (hr62 : (pJ912 + (0 : Int64)) = pJ913) (hr70 : (pJ913 + (0 : Int64)) = pJ914) (hr78 : (pJ914 + (0 : Int64)) = pJ915) (hr87 : (pJ915 + (0 : Int64)) = pJ916) (hr96 : (pJ916 + (0 : Int64)) = pJ917) (hc104 : (lcmpW pJ917 (pI900.toInt64)) = (0 : Int32)) (hc114 : ¬ ((0 : Int32) < (lcmpW (((pI900 / (2 : Int32)).toInt64) * ((2 : Int32).toInt64)) (pI900.toInt64)))) (hc114' : (lcmpW (pI900.toInt64) ((((pI900 / (2 : Int32)).toInt64) + (1 : Int64)) * ((2 : Int32).toInt64))) < (0 : Int32)) :
    oM l x code maxLocals ret ws room_1 #[(.int pI1), (.int pI2)] Z h0 (Qlaw2 Z pI1 pI2 pI900 pR3 pC4 pR8 pJ911 pJ912 pJ913 pJ914 pJ915 pJ916 pJ917 h0 n0) := by
  refine MetFree.of_bodySF (plainFor_of_name pn_12) hisR ?_
  intro p e s m args below meth c s₁ Bd hml0 hP hK
  obtain ⟨rfl, hZ, hh⟩ := hP
  have hx := Bd.exec
  have hby := Bd.bytes
  have hml : c.maxLocals = 7 := hml0
  have hown : s.vm.findClass "com/example/watchful_junction/watchfuljunction/scenario/ProportionalSpecEqualSharesPinLaw" = some m.cls := findClass_of_methodNamed Bd.named
  have hnm := (name_of_methodNamed Bd.named Bd.method).1
  have X0 : Stand p l e room_1 s m #[(.int pI1), (.int pI2)] below meth c s₁ [] 0 0 := Stand.of_body Bd
  have e0 : s₁.heap = h0 := by rw [← hh, Bd.state]; rfl
  have N0 := Fr.nil n0
  obtain ⟨_, _, ⟨T5, L5, k5, n5⟩, -, X5, ⟨Lc5, hQ5, l5, y5, z5⟩, st5⟩ := Jvm.LawKit.callS X0 hx (y := yN14) hown (mvT hZ (ow hw 1 rfl)) (mvT hZ (ow hw 2 rfl)) (mvT hZ (ow hw 3 rfl)) (mvT hZ (ow hw 4 rfl)) (by decide) (backOf (W := 0) (eqs2 l Z a0 hw [] pI900 pR3 pC4 h0 n0 Z0 S_Integer_IntegerCache_high S_Integer_IntegerCache_cache B_pR3 D0) hZ (ow hw 4 rfl) (ow hw 3 rfl) (by decide) (by decide)) (g := (mkF m 14 #[.val (.int pI1), .val (.int pI2), .val (.int pI900), .val (.int 2), .unset, .unset, .unset] [(.int 2), (.int pI900)])) rfl (by rw [hml]; rfl) (argsL := [(.int pI900), (.int 2)]) (rest := []) (lenOf pd_12 rfl) rfl (Nat.le_refl _) (hb hby at_14) (fun _ _ => ⟨rfl, e0, (by decide : 0 + 4 ≤ _), (by decide : 0 + 6 ≤ _)⟩)
  dsimp only [Pt.U, Pt.locs, Pt.cells, Pt.slots] at X5 l5 y5 z5 st5 hQ5
  subst l5 y5 z5
  obtain ⟨bR5_0, bR5_1, bR5_2, rfl, Nq5, Kq5, sz5_0, x5_0, x5_1, x5_2, x5_3, x5_4, x5_5, x5_6⟩ := hQ5
  have N5 := Fr.app N0 Nq5
  obtain ⟨Lh5, X5, N5⟩ := own_hide X5 N5
  have Z7 : n0 ≤ T5.heap.size := (Nat.le_trans Z0 Kq5.1)
  have c9 : Sta Z T5.heap "java/util/ImmutableCollections" "EMPTY" "Ljava/lang/Object;" (.ref pR8) := own_sta_keep S_ImmutableCollections_EMPTY Kq5 all0
  have c10 : Exa Z T5.heap pR8 "java/lang/Object" := E_pR8.keep Kq5
  obtain ⟨cq11, kq11, q11a, q11b, q11c⟩ := isOf hZ rfl x5_4
  obtain ⟨_, _, ⟨T11, L11, k11, n11⟩, -, X11, ⟨Lc11, hQ11, l11, y11, z11⟩, st11⟩ := X5.interfaceBack hx (xi := yN23) (y := yN17) hown (mvT hZ (ow hw 73 rfl)) (mvT hZ (ow hw 74 rfl)) (mvT hZ (ow hw 75 rfl)) (mvT hZ (ow hw 119 rfl)) (mvT hZ (ow hw 120 rfl)) (mvT hZ (ow hw 121 rfl)) (mvT hZ (ow hw 122 rfl)) (mvT hZ (ow hw 123 rfl)) (by decide) (backOf (W := 0) (l2S l Z a0 hw [] bR5_0 bR5_1 pR8 T5.heap n0 Z7 x5_6 c9 (ne_exa x5_0 c10 (by decide))) hZ (ow hw 124 rfl) (ow hw 105 rfl) (by decide) (by decide)) q11a q11b q11c (g := (mkF m 21 #[.val (.int pI1), .val (.int pI2), .val (.int pI900), .val (.int 2), .val (.ref bR5_0), .unset, .unset] [(.ref bR5_0)])) rfl (by rw [hml]; rfl) (Steps.refl _) (argsL := []) (rest := []) (lenOf pd_6 rfl) rfl (Nat.le_refl _) (hb hby at_21) (fun _ _ => ⟨rfl, rfl, (by decide : 4 + 0 ≤ _), (by decide : 6 + 0 ≤ _)⟩)
  dsimp only [Pt.U, Pt.locs, Pt.cells, Pt.slots] at X11 l11 y11 z11 st11 hQ11
  subst l11 y11 z11
  obtain ⟨rfl, Nq11, e11⟩ := hQ11
  have N11 := Fr.app N5 Nq11
  obtain ⟨_, _, ⟨T12, L12, k12, n12⟩, -, X12, ⟨Lc12, hQ12, l12, y12, z12⟩, st12⟩ := Jvm.LawKit.callS X11 hx (y := yN20) hown (mvT hZ (ow hw 82 rfl)) (mvT hZ (ow hw 83 rfl)) (mvT hZ (ow hw 84 rfl)) (mvT hZ (ow hw 85 rfl)) (by decide) (backOf (W := 0) (at12_0 l Z a0 hw [] bR5_0 (2 : Int32) bR5_2 ((pI900 / (2 : Int32)) + (pI900 % (2 : Int32))) T5.heap n0 Z7 x5_5 x5_4 x5_2 x5_3 (by decide)) hZ (ow hw 85 rfl) (ow hw 84 rfl) (by decide) (by decide)) (g := (mkF m 36 #[.val (.int pI1), .val (.int pI2), .val (.int pI900), .val (.int 2), .val (.ref bR5_0), .unset, .unset] [(.int 2), (.int 0), (.ref bR5_0)])) rfl (by rw [hml]; rfl) (argsL := [(.ref bR5_0), (.int 0), (.int 2)]) (rest := []) (lenOf pd_13 rfl) rfl (Nat.le_refl _) (hb hby at_36) (fun _ _ => ⟨rfl, e11, (by decide : 4 + 0 ≤ _), (by decide : 6 + 0 ≤ _)⟩)
  dsimp only [Pt.U, Pt.locs, Pt.cells, Pt.slots] at X12 l12 y12 z12 st12 hQ12
  subst l12 y12 z12
  obtain ⟨rfl, Nq12, e12⟩ := hQ12
  have N12 := Fr.app N11 Nq12
  obtain ⟨_, _, ⟨T13, L13, k13, n13⟩, -, X13, ⟨Lc13, hQ13, l13, y13, z13⟩, st13⟩ := Jvm.LawKit.callS X12 hx (y := yN20) hown (mvT hZ (ow hw 82 rfl)) (mvT hZ (ow hw 83 rfl)) (mvT hZ (ow hw 84 rfl)) (mvT hZ (ow hw 85 rfl)) (by decide) (backOf (W := 2) (at12_1 l Z a0 hw [] bR5_0 (2 : Int32) bR5_1 pR8 (pI900 / (2 : Int32)) T5.heap n0 Z7 x5_6 c9 (ne_exa x5_0 c10 (by decide)) x5_4 x5_0 x5_1 (by decide)) hZ (ow hw 85 rfl) (ow hw 84 rfl) (by decide) (by decide)) (g := (mkF m 43 #[.val (.int pI1), .val (.int pI2), .val (.int pI900), .val (.int 2), .val (.ref bR5_0), .unset, .unset] [(.int 2), (.int 1), (.ref bR5_0), (.long (((pI900 / (2 : Int32)) + (pI900 % (2 : Int32))).toInt64))])) rfl (by rw [hml]; rfl) (argsL := [(.ref bR5_0), (.int 1), (.int 2)]) (rest := [(.long (((pI900 / (2 : Int32)) + (pI900 % (2 : Int32))).toInt64))]) (lenOf pd_13 rfl) rfl (Nat.le_refl _) (hb hby at_43) (fun _ _ => ⟨rfl, e12, (by decide : 4 + 0 ≤ _), (by decide : 6 + 0 ≤ _)⟩)
  dsimp only [Pt.U, Pt.locs, Pt.cells, Pt.slots] at X13 l13 y13 z13 st13 hQ13
  subst l13 y13 z13
  obtain ⟨rfl, Nq13, e13⟩ := hQ13
  have N13 := Fr.app N12 Nq13
  obtain ⟨_, _, ⟨T14, L14, k14, n14⟩, -, X14, ⟨Lc14, hQ14, l14, y14, z14⟩, st14⟩ := Jvm.LawKit.callS X13 hx (y := yN20) hown (mvT hZ (ow hw 82 rfl)) (mvT hZ (ow hw 83 rfl)) (mvT hZ (ow hw 84 rfl)) (mvT hZ (ow hw 85 rfl)) (by decide) (backOf (W := 2) (atE l Z a0 hw [] bR5_0 (2 : Int32) (2 : Int32) T5.heap n0 Z7 (by decide)) hZ (ow hw 85 rfl) (ow hw 84 rfl) (by decide) (by decide)) (g := (mkF m 51 #[.val (.int pI1), .val (.int pI2), .val (.int pI900), .val (.int 2), .val (.ref bR5_0), .unset, .unset] [(.int 2), (.int 2), (.ref bR5_0), (.long pJ911)])) rfl (by rw [hml]; rfl) (argsL := [(.ref bR5_0), (.int 2), (.int 2)]) (rest := [(.long pJ911)]) (lenOf pd_13 rfl) rfl (Nat.le_refl _) (hb hby at_51) (fun _ _ => ⟨rfl, e13, (by decide : 4 + 0 ≤ _), (by decide : 6 + 0 ≤ _)⟩)
  dsimp only [Pt.U, Pt.locs, Pt.cells, Pt.slots] at X14 l14 y14 z14 st14 hQ14
  subst l14 y14 z14
  obtain ⟨rfl, Nq14, e14⟩ := hQ14
  have N14 := Fr.app N13 Nq14
  obtain ⟨_, _, ⟨T15, L15, k15, n15⟩, -, X15, ⟨Lc15, hQ15, l15, y15, z15⟩, st15⟩ := Jvm.LawKit.callS X14 hx (y := yN20) hown (mvT hZ (ow hw 82 rfl)) (mvT hZ (ow hw 83 rfl)) (mvT hZ (ow hw 84 rfl)) (mvT hZ (ow hw 85 rfl)) (by decide) (backOf (W := 2) (atE l Z a0 hw [] bR5_0 (3 : Int32) (2 : Int32) T5.heap n0 Z7 (by decide)) hZ (ow hw 85 rfl) (ow hw 84 rfl) (by decide) (by decide)) (g := (mkF m 59 #[.val (.int pI1), .val (.int pI2), .val (.int pI900), .val (.int 2), .val (.ref bR5_0), .unset, .unset] [(.int 2), (.int 3), (.ref bR5_0), (.long pJ912)])) rfl (by rw [hml]; rfl) (argsL := [(.ref bR5_0), (.int 3), (.int 2)]) (rest := [(.long pJ912)]) (lenOf pd_13 rfl) rfl (Nat.le_refl _) (hb hby at_59) (fun _ _ => ⟨rfl, e14, (by decide : 4 + 0 ≤ _), (by decide : 6 + 0 ≤ _)⟩)
  dsimp only [Pt.U, Pt.locs, Pt.cells, Pt.slots] at X15 l15 y15 z15 st15 hQ15
  subst l15 y15 z15
  obtain ⟨rfl, Nq15, e15⟩ := hQ15
  have N15 := Fr.app N14 Nq15
  obtain ⟨_, _, ⟨T16, L16, k16, n16⟩, -, X16, ⟨Lc16, hQ16, l16, y16, z16⟩, st16⟩ := Jvm.LawKit.callS X15 hx (y := yN20) hown (mvT hZ (ow hw 82 rfl)) (mvT hZ (ow hw 83 rfl)) (mvT hZ (ow hw 84 rfl)) (mvT hZ (ow hw 85 rfl)) (by decide) (backOf (W := 2) (atE l Z a0 hw [] bR5_0 (4 : Int32) (2 : Int32) T5.heap n0 Z7 (by decide)) hZ (ow hw 85 rfl) (ow hw 84 rfl) (by decide) (by decide)) (g := (mkF m 67 #[.val (.int pI1), .val (.int pI2), .val (.int pI900), .val (.int 2), .val (.ref bR5_0), .unset, .unset] [(.int 2), (.int 4), (.ref bR5_0), (.long pJ913)])) rfl (by rw [hml]; rfl) (argsL := [(.ref bR5_0), (.int 4), (.int 2)]) (rest := [(.long pJ913)]) (lenOf pd_13 rfl) rfl (Nat.le_refl _) (hb hby at_67) (fun _ _ => ⟨rfl, e15, (by decide : 4 + 0 ≤ _), (by decide : 6 + 0 ≤ _)⟩)
  dsimp only [Pt.U, Pt.locs, Pt.cells, Pt.slots] at X16 l16 y16 z16 st16 hQ16
  subst l16 y16 z16
  obtain ⟨rfl, Nq16, e16⟩ := hQ16
  have N16 := Fr.app N15 Nq16
  obtain ⟨_, _, ⟨T17, L17, k17, n17⟩, -, X17, ⟨Lc17, hQ17, l17, y17, z17⟩, st17⟩ := Jvm.LawKit.callS X16 hx (y := yN20) hown (mvT hZ (ow hw 82 rfl)) (mvT hZ (ow hw 83 rfl)) (mvT hZ (ow hw 84 rfl)) (mvT hZ (ow hw 85 rfl)) (by decide) (backOf (W := 2) (atE l Z a0 hw [] bR5_0 (5 : Int32) (2 : Int32) T5.heap n0 Z7 (by decide)) hZ (ow hw 85 rfl) (ow hw 84 rfl) (by decide) (by decide)) (g := (mkF m 75 #[.val (.int pI1), .val (.int pI2), .val (.int pI900), .val (.int 2), .val (.ref bR5_0), .unset, .unset] [(.int 2), (.int 5), (.ref bR5_0), (.long pJ914)])) rfl (by rw [hml]; rfl) (argsL := [(.ref bR5_0), (.int 5), (.int 2)]) (rest := [(.long pJ914)]) (lenOf pd_13 rfl) rfl (Nat.le_refl _) (hb hby at_75) (fun _ _ => ⟨rfl, e16, (by decide : 4 + 0 ≤ _), (by decide : 6 + 0 ≤ _)⟩)
  dsimp only [Pt.U, Pt.locs, Pt.cells, Pt.slots] at X17 l17 y17 z17 st17 hQ17
  subst l17 y17 z17
  obtain ⟨rfl, Nq17, e17⟩ := hQ17
  have N17 := Fr.app N16 Nq17
  obtain ⟨_, _, ⟨T18, L18, k18, n18⟩, -, X18, ⟨Lc18, hQ18, l18, y18, z18⟩, st18⟩ := Jvm.LawKit.callS X17 hx (y := yN20) hown (mvT hZ (ow hw 82 rfl)) (mvT hZ (ow hw 83 rfl)) (mvT hZ (ow hw 84 rfl)) (mvT hZ (ow hw 85 rfl)) (by decide) (backOf (W := 2) (atE l Z a0 hw [] bR5_0 (6 : Int32) (2 : Int32) T5.heap n0 Z7 (by decide)) hZ (ow hw 85 rfl) (ow hw 84 rfl) (by decide) (by decide)) (g := (mkF m 84 #[.val (.int pI1), .val (.int pI2), .val (.int pI900), .val (.int 2), .val (.ref bR5_0), .unset, .unset] [(.int 2), (.int 6), (.ref bR5_0), (.long pJ915)])) rfl (by rw [hml]; rfl) (argsL := [(.ref bR5_0), (.int 6), (.int 2)]) (rest := [(.long pJ915)]) (lenOf pd_13 rfl) rfl (Nat.le_refl _) (hb hby at_84) (fun _ _ => ⟨rfl, e17, (by decide : 4 + 0 ≤ _), (by decide : 6 + 0 ≤ _)⟩)
  dsimp only [Pt.U, Pt.locs, Pt.cells, Pt.slots] at X18 l18 y18 z18 st18 hQ18
  subst l18 y18 z18
  obtain ⟨rfl, Nq18, e18⟩ := hQ18
  have N18 := Fr.app N17 Nq18
  obtain ⟨_, _, ⟨T19, L19, k19, n19⟩, -, X19, ⟨Lc19, hQ19, l19, y19, z19⟩, st19⟩ := Jvm.LawKit.callS X18 hx (y := yN20) hown (mvT hZ (ow hw 82 rfl)) (mvT hZ (ow hw 83 rfl)) (mvT hZ (ow hw 84 rfl)) (mvT hZ (ow hw 85 rfl)) (by decide) (backOf (W := 2) (atE l Z a0 hw [] bR5_0 (7 : Int32) (2 : Int32) T5.heap n0 Z7 (by decide)) hZ (ow hw 85 rfl) (ow hw 84 rfl) (by decide) (by decide)) (g := (mkF m 93 #[.val (.int pI1), .val (.int pI2), .val (.int pI900), .val (.int 2), .val (.ref bR5_0), .unset, .unset] [(.int 2), (.int 7), (.ref bR5_0), (.long pJ916)])) rfl (by rw [hml]; rfl) (argsL := [(.ref bR5_0), (.int 7), (.int 2)]) (rest := [(.long pJ916)]) (lenOf pd_13 rfl) rfl (Nat.le_refl _) (hb hby at_93) (fun _ _ => ⟨rfl, e18, (by decide : 4 + 0 ≤ _), (by decide : 6 + 0 ≤ _)⟩)
  dsimp only [Pt.U, Pt.locs, Pt.cells, Pt.slots] at X19 l19 y19 z19 st19 hQ19
  subst l19 y19 z19
  obtain ⟨rfl, Nq19, e19⟩ := hQ19
  have N19 := Fr.app N18 Nq19
  obtain ⟨_, _, ⟨T20, L20, k20, n20⟩, -, X20, ⟨Lc20, hQ20, l20, y20, z20⟩, st20⟩ := Jvm.LawKit.callS X19 hx (y := yN22) hown (mvT hZ (ow hw 100 rfl)) (mvT hZ (ow hw 101 rfl)) (mvT hZ (ow hw 84 rfl)) (mvT hZ (ow hw 102 rfl)) (by decide) (backOf (W := 0) (la12 l Z a0 hw [] bR5_0 (2 : Int32) pI900 bR5_1 pR8 (pI900 / (2 : Int32)) T5.heap n0 Z7 x5_6 c9 (ne_exa x5_0 c10 (by decide)) x5_4 x5_0 x5_1 (by decide) hc114 hc114') hZ (ow hw 102 rfl) (ow hw 84 rfl) (by decide) (by decide)) (g := (mkF m 114 #[.val (.int pI1), .val (.int pI2), .val (.int pI900), .val (.int 2), .val (.ref bR5_0), .val (.long pJ917), .second] [(.int pI900), (.int 2), (.int 1), (.ref bR5_0)])) rfl (by rw [hml]; rfl) (argsL := [(.ref bR5_0), (.int 1), (.int 2), (.int pI900)]) (rest := []) (lenOf pd_14 rfl) rfl (Nat.le_refl _) (hb hby at_114) (fun _ _ => ⟨rfl, e19, (by decide : 4 + 0 ≤ _), (by decide : 6 + 0 ≤ _)⟩)
  dsimp only [Pt.U, Pt.locs, Pt.cells, Pt.slots] at X20 l20 y20 z20 st20 hQ20
  subst l20 y20 z20
  obtain ⟨rfl, Nq20, e20⟩ := hQ20
  have N20 := Fr.app N19 Nq20
  obtain ⟨_, _, ⟨T21, L21, k21, n21⟩, -, X21, ⟨Lc21, hQ21, l21, y21, z21⟩, st21⟩ := Jvm.LawKit.callS X20 hx (y := yN22) hown (mvT hZ (ow hw 100 rfl)) (mvT hZ (ow hw 101 rfl)) (mvT hZ (ow hw 84 rfl)) (mvT hZ (ow hw 102 rfl)) (by decide) (backOf (W := 0) (laE l Z a0 hw [] bR5_0 (2 : Int32) (2 : Int32) pI900 T5.heap n0 Z7 (by decide)) hZ (ow hw 102 rfl) (ow hw 84 rfl) (by decide) (by decide)) (g := (mkF m 125 #[.val (.int pI1), .val (.int pI2), .val (.int pI900), .val (.int 2), .val (.ref bR5_0), .val (.long pJ917), .second] [(.int pI900), (.int 2), (.int 2), (.ref bR5_0)])) rfl (by rw [hml]; rfl) (argsL := [(.ref bR5_0), (.int 2), (.int 2), (.int pI900)]) (rest := []) (lenOf pd_14 rfl) rfl (Nat.le_refl _) (hb hby at_125) (fun _ _ => ⟨rfl, e20, (by decide : 4 + 0 ≤ _), (by decide : 6 + 0 ≤ _)⟩)
  dsimp only [Pt.U, Pt.locs, Pt.cells, Pt.slots] at X21 l21 y21 z21 st21 hQ21
  subst l21 y21 z21
  obtain ⟨rfl, Nq21, e21⟩ := hQ21
  have N21 := Fr.app N20 Nq21
  obtain ⟨_, _, ⟨T22, L22, k22, n22⟩, -, X22, ⟨Lc22, hQ22, l22, y22, z22⟩, st22⟩ := Jvm.LawKit.callS X21 hx (y := yN22) hown (mvT hZ (ow hw 100 rfl)) (mvT hZ (ow hw 101 rfl)) (mvT hZ (ow hw 84 rfl)) (mvT hZ (ow hw 102 rfl)) (by decide) (backOf (W := 0) (laE l Z a0 hw [] bR5_0 (3 : Int32) (2 : Int32) pI900 T5.heap n0 Z7 (by decide)) hZ (ow hw 102 rfl) (ow hw 84 rfl) (by decide) (by decide)) (g := (mkF m 136 #[.val (.int pI1), .val (.int pI2), .val (.int pI900), .val (.int 2), .val (.ref bR5_0), .val (.long pJ917), .second] [(.int pI900), (.int 2), (.int 3), (.ref bR5_0)])) rfl (by rw [hml]; rfl) (argsL := [(.ref bR5_0), (.int 3), (.int 2), (.int pI900)]) (rest := []) (lenOf pd_14 rfl) rfl (Nat.le_refl _) (hb hby at_136) (fun _ _ => ⟨rfl, e21, (by decide : 4 + 0 ≤ _), (by decide : 6 + 0 ≤ _)⟩)
  dsimp only [Pt.U, Pt.locs, Pt.cells, Pt.slots] at X22 l22 y22 z22 st22 hQ22
  subst l22 y22 z22
  obtain ⟨rfl, Nq22, e22⟩ := hQ22
  have N22 := Fr.app N21 Nq22
  obtain ⟨_, _, ⟨T23, L23, k23, n23⟩, -, X23, ⟨Lc23, hQ23, l23, y23, z23⟩, st23⟩ := Jvm.LawKit.callS X22 hx (y := yN22) hown (mvT hZ (ow hw 100 rfl)) (mvT hZ (ow hw 101 rfl)) (mvT hZ (ow hw 84 rfl)) (mvT hZ (ow hw 102 rfl)) (by decide) (backOf (W := 0) (laE l Z a0 hw [] bR5_0 (4 : Int32) (2 : Int32) pI900 T5.heap n0 Z7 (by decide)) hZ (ow hw 102 rfl) (ow hw 84 rfl) (by decide) (by decide)) (g := (mkF m 147 #[.val (.int pI1), .val (.int pI2), .val (.int pI900), .val (.int 2), .val (.ref bR5_0), .val (.long pJ917), .second] [(.int pI900), (.int 2), (.int 4), (.ref bR5_0)])) rfl (by rw [hml]; rfl) (argsL := [(.ref bR5_0), (.int 4), (.int 2), (.int pI900)]) (rest := []) (lenOf pd_14 rfl) rfl (Nat.le_refl _) (hb hby at_147) (fun _ _ => ⟨rfl, e22, (by decide : 4 + 0 ≤ _), (by decide : 6 + 0 ≤ _)⟩)
  dsimp only [Pt.U, Pt.locs, Pt.cells, Pt.slots] at X23 l23 y23 z23 st23 hQ23
  subst l23 y23 z23
  obtain ⟨rfl, Nq23, e23⟩ := hQ23
  have N23 := Fr.app N22 Nq23
  obtain ⟨_, _, ⟨T24, L24, k24, n24⟩, -, X24, ⟨Lc24, hQ24, l24, y24, z24⟩, st24⟩ := Jvm.LawKit.callS X23 hx (y := yN22) hown (mvT hZ (ow hw 100 rfl)) (mvT hZ (ow hw 101 rfl)) (mvT hZ (ow hw 84 rfl)) (mvT hZ (ow hw 102 rfl)) (by decide) (backOf (W := 0) (laE l Z a0 hw [] bR5_0 (5 : Int32) (2 : Int32) pI900 T5.heap n0 Z7 (by decide)) hZ (ow hw 102 rfl) (ow hw 84 rfl) (by decide) (by decide)) (g := (mkF m 158 #[.val (.int pI1), .val (.int pI2), .val (.int pI900), .val (.int 2), .val (.ref bR5_0), .val (.long pJ917), .second] [(.int pI900), (.int 2), (.int 5), (.ref bR5_0)])) rfl (by rw [hml]; rfl) (argsL := [(.ref bR5_0), (.int 5), (.int 2), (.int pI900)]) (rest := []) (lenOf pd_14 rfl) rfl (Nat.le_refl _) (hb hby at_158) (fun _ _ => ⟨rfl, e23, (by decide : 4 + 0 ≤ _), (by decide : 6 + 0 ≤ _)⟩)
  dsimp only [Pt.U, Pt.locs, Pt.cells, Pt.slots] at X24 l24 y24 z24 st24 hQ24
  subst l24 y24 z24
  obtain ⟨rfl, Nq24, e24⟩ := hQ24
  have N24 := Fr.app N23 Nq24
  obtain ⟨_, _, ⟨T25, L25, k25, n25⟩, -, X25, ⟨Lc25, hQ25, l25, y25, z25⟩, st25⟩ := Jvm.LawKit.callS X24 hx (y := yN22) hown (mvT hZ (ow hw 100 rfl)) (mvT hZ (ow hw 101 rfl)) (mvT hZ (ow hw 84 rfl)) (mvT hZ (ow hw 102 rfl)) (by decide) (backOf (W := 0) (laE l Z a0 hw [] bR5_0 (6 : Int32) (2 : Int32) pI900 T5.heap n0 Z7 (by decide)) hZ (ow hw 102 rfl) (ow hw 84 rfl) (by decide) (by decide)) (g := (mkF m 170 #[.val (.int pI1), .val (.int pI2), .val (.int pI900), .val (.int 2), .val (.ref bR5_0), .val (.long pJ917), .second] [(.int pI900), (.int 2), (.int 6), (.ref bR5_0)])) rfl (by rw [hml]; rfl) (argsL := [(.ref bR5_0), (.int 6), (.int 2), (.int pI900)]) (rest := []) (lenOf pd_14 rfl) rfl (Nat.le_refl _) (hb hby at_170) (fun _ _ => ⟨rfl, e24, (by decide : 4 + 0 ≤ _), (by decide : 6 + 0 ≤ _)⟩)
  dsimp only [Pt.U, Pt.locs, Pt.cells, Pt.slots] at X25 l25 y25 z25 st25 hQ25
  subst l25 y25 z25
  obtain ⟨rfl, Nq25, e25⟩ := hQ25
  have N25 := Fr.app N24 Nq25
  obtain ⟨_, _, ⟨T26, L26, k26, n26⟩, -, X26, ⟨Lc26, hQ26, l26, y26, z26⟩, st26⟩ := Jvm.LawKit.callS X25 hx (y := yN22) hown (mvT hZ (ow hw 100 rfl)) (mvT hZ (ow hw 101 rfl)) (mvT hZ (ow hw 84 rfl)) (mvT hZ (ow hw 102 rfl)) (by decide) (backOf (W := 0) (laE l Z a0 hw [] bR5_0 (7 : Int32) (2 : Int32) pI900 T5.heap n0 Z7 (by decide)) hZ (ow hw 102 rfl) (ow hw 84 rfl) (by decide) (by decide)) (g := (mkF m 182 #[.val (.int pI1), .val (.int pI2), .val (.int pI900), .val (.int 2), .val (.ref bR5_0), .val (.long pJ917), .second] [(.int pI900), (.int 2), (.int 7), (.ref bR5_0)])) rfl (by rw [hml]; rfl) (argsL := [(.ref bR5_0), (.int 7), (.int 2), (.int pI900)]) (rest := []) (lenOf pd_14 rfl) rfl (Nat.le_refl _) (hb hby at_182) (fun _ _ => ⟨rfl, e25, (by decide : 4 + 0 ≤ _), (by decide : 6 + 0 ≤ _)⟩)
  dsimp only [Pt.U, Pt.locs, Pt.cells, Pt.slots] at X26 l26 y26 z26 st26 hQ26
  subst l26 y26 z26
  obtain ⟨rfl, Nq26, e26⟩ := hQ26
  have N26 := Fr.app N25 Nq26
  obtain ⟨fs, hr, hrun, hended, hW, hsame⟩ := X26.leave (v := some (.int 1)) (fun h => by rw [Bd.returns] at h; cases h)
  refine ⟨_, _, castTop (ef_law2 m pI1 pI2) ?_, hrun, hended, _, _, rfl, ?_, ⟨_, rfl⟩, hW, hsame.mono (by decide) (by decide)⟩
  · show oS p e below s₁ m 0 #[.val (.int pI1), .val (.int pI2), .unset, .unset, .unset, .unset, .unset] [] _
    refine XS.iloadN X0.here hx rfl (hb hby at_0) rfl ?_
    refine X0.ldcInt hx hown (mvT hZ (ow hw 0 rfl)) (g := (mkF m 1 #[.val (.int pI1), .val (.int pI2), .unset, .unset, .unset, .unset, .unset] [(.int pI1)])) rfl (hb hby at_1) _ ?_
    refine XS.iand X0.here hx rfl (hb hby at_3) rfl ?_
    show Steps p.tables e below (s₁.setTop (mkF m 4 #[.val (.int pI1), .val (.int pI2), .unset, .unset, .unset, .unset, .unset] [(.int (pI1 &&& (2147483647 : Int32)))])) _
    rw [hr3]
    refine XS.istoreN X0.here hx rfl (hb hby at_4) rfl (l' := #[.val (.int pI1), .val (.int pI2), .val (.int pI900), .unset, .unset, .unset, .unset]) rfl ?_
    refine XS.iloadN X0.here hx rfl (hb hby at_5) rfl ?_
    refine XS.bipush X0.here hx rfl (hb hby at_6) ?_
    refine XS.iand X0.here hx rfl (hb hby at_8) rfl ?_
    show Steps p.tables e below (s₁.setTop (mkF m 9 #[.val (.int pI1), .val (.int pI2), .val (.int pI900), .unset, .unset, .unset, .unset] [(.int (pI2 &&& (7 : Int32)))])) _
    rw [hc8]
    refine XS.iconst X0.here hx rfl (hb hby at_9) ?_
    show oS p e below s₁ m 10 #[.val (.int pI1), .val (.int pI2), .val (.int pI900), .unset, .unset, .unset, .unset] [(.int 1), (.int 1)] _
    refine XS.iadd X0.here hx rfl (hb hby at_10) rfl ?_
    refine XS.istoreN X0.here hx rfl (hb hby at_11) rfl (l' := #[.val (.int pI1), .val (.int pI2), .val (.int pI900), .val (.int 2), .unset, .unset, .unset]) rfl ?_
    refine XS.iloadN X0.here hx rfl (hb hby at_12) rfl ?_
    refine XS.iloadN X0.here hx rfl (hb hby at_13) rfl ?_
    refine st5 _ ?_
    refine XS.astore X5.here hx rfl (hb hby at_17) rfl rfl (l' := #[.val (.int pI1), .val (.int pI2), .val (.int pI900), .val (.int 2), .val (.ref bR5_0), .unset, .unset]) rfl ?_
    refine XS.aload X5.here hx rfl (hb hby at_19) rfl rfl ?_
    refine st11.trans ?_
    show oS p e below T11 m 26 #[.val (.int pI1), .val (.int pI2), .val (.int pI900), .val (.int 2), .val (.ref bR5_0), .unset, .unset] [(.int 2)] _
    refine XS.iloadN X11.here hx rfl (hb hby at_26) rfl ?_
    refine XS.icmpYes X11.here hx rfl (pc0 := 27) (pc' := 32) rfl (hb hby at_27) rfl (teq (by decide : (2 : Int32) = (2 : Int32))).1 (by decide) (by decide) ?_
    refine XS.aload X11.here hx rfl (hb hby at_32) rfl rfl ?_
    refine XS.iconst X11.here hx rfl (hb hby at_34) ?_
    refine XS.iloadN X11.here hx rfl (hb hby at_35) rfl ?_
    refine st12 _ ?_
    refine XS.aload X12.here hx rfl (hb hby at_39) rfl rfl ?_
    refine XS.iconst X12.here hx rfl (hb hby at_41) ?_
    show oS p e below T12 m 42 #[.val (.int pI1), .val (.int pI2), .val (.int pI900), .val (.int 2), .val (.ref bR5_0), .unset, .unset] [(.int 1), (.ref bR5_0), (.long (((pI900 / (2 : Int32)) + (pI900 % (2 : Int32))).toInt64))] _
    refine XS.iloadN X12.here hx rfl (hb hby at_42) rfl ?_
    refine st13 _ ?_
    refine XS.ladd X13.here hx rfl (hb hby at_46) rfl ?_
    show Steps p.tables e below (T13.setTop (mkF m 47 #[.val (.int pI1), .val (.int pI2), .val (.int pI900), .val (.int 2), .val (.ref bR5_0), .unset, .unset] [(.long ((((pI900 / (2 : Int32)) + (pI900 % (2 : Int32))).toInt64) + ((pI900 / (2 : Int32)).toInt64)))])) _
    rw [hr46]
    refine XS.aload X13.here hx rfl (hb hby at_47) rfl rfl ?_
    refine XS.iconst X13.here hx rfl (hb hby at_49) ?_
    refine XS.iloadN X13.here hx rfl (hb hby at_50) rfl ?_
    refine st14 _ ?_
    refine XS.ladd X14.here hx rfl (hb hby at_54) rfl ?_
    show Steps p.tables e below (T14.setTop (mkF m 55 #[.val (.int pI1), .val (.int pI2), .val (.int pI900), .val (.int 2), .val (.ref bR5_0), .unset, .unset] [(.long (pJ911 + (0 : Int64)))])) _
    rw [hr54]
    show oS p e below T14 m 55 #[.val (.int pI1), .val (.int pI2), .val (.int pI900), .val (.int 2), .val (.ref bR5_0), .unset, .unset] [(.long pJ912)] _
    refine XS.aload X14.here hx rfl (hb hby at_55) rfl rfl ?_
    refine XS.iconst X14.here hx rfl (hb hby at_57) ?_
    refine XS.iloadN X14.here hx rfl (hb hby at_58) rfl ?_
    refine st15 _ ?_
    refine XS.ladd X15.here hx rfl (hb hby at_62) rfl ?_
    show Steps p.tables e below (T15.setTop (mkF m 63 #[.val (.int pI1), .val (.int pI2), .val (.int pI900), .val (.int 2), .val (.ref bR5_0), .unset, .unset] [(.long (pJ912 + (0 : Int64)))])) _
    rw [hr62]
    refine XS.aload X15.here hx rfl (hb hby at_63) rfl rfl ?_
    refine XS.iconst X15.here hx rfl (hb hby at_65) ?_
    refine XS.iloadN X15.here hx rfl (hb hby at_66) rfl ?_
    show oS p e below T15 m 67 #[.val (.int pI1), .val (.int pI2), .val (.int pI900), .val (.int 2), .val (.ref bR5_0), .unset, .unset] [(.int 2), (.int 4), (.ref bR5_0), (.long pJ913)] _
    refine st16 _ ?_
    refine XS.ladd X16.here hx rfl (hb hby at_70) rfl ?_
    show Steps p.tables e below (T16.setTop (mkF m 71 #[.val (.int pI1), .val (.int pI2), .val (.int pI900), .val (.int 2), .val (.ref bR5_0), .unset, .unset] [(.long (pJ913 + (0 : Int64)))])) _
    rw [hr70]
    refine XS.aload X16.here hx rfl (hb hby at_71) rfl rfl ?_
    refine XS.iconst X16.here hx rfl (hb hby at_73) ?_
    refine XS.iloadN X16.here hx rfl (hb hby at_74) rfl ?_
    refine st17 _ ?_
    refine XS.ladd X17.here hx rfl (hb hby at_78) rfl ?_
    show Steps p.tables e below (T17.setTop (mkF m 79 #[.val (.int pI1), .val (.int pI2), .val (.int pI900), .val (.int 2), .val (.ref bR5_0), .unset, .unset] [(.long (pJ914 + (0 : Int64)))])) _
    rw [hr78]
    refine XS.aload X17.here hx rfl (hb hby at_79) rfl rfl ?_
    show oS p e below T17 m 81 #[.val (.int pI1), .val (.int pI2), .val (.int pI900), .val (.int 2), .val (.ref bR5_0), .unset, .unset] [(.ref bR5_0), (.long pJ915)] _
    refine XS.bipush X17.here hx rfl (hb hby at_81) ?_
    refine XS.iloadN X17.here hx rfl (hb hby at_83) rfl ?_
    refine st18 _ ?_
    refine XS.ladd X18.here hx rfl (hb hby at_87) rfl ?_
    show Steps p.tables e below (T18.setTop (mkF m 88 #[.val (.int pI1), .val (.int pI2), .val (.int pI900), .val (.int 2), .val (.ref bR5_0), .unset, .unset] [(.long (pJ915 + (0 : Int64)))])) _
    rw [hr87]
    refine XS.aload X18.here hx rfl (hb hby at_88) rfl rfl ?_
    refine XS.bipush X18.here hx rfl (hb hby at_90) ?_
    refine XS.iloadN X18.here hx rfl (hb hby at_92) rfl ?_
    refine st19 _ ?_
    show oS p e below T19 m 96 #[.val (.int pI1), .val (.int pI2), .val (.int pI900), .val (.int 2), .val (.ref bR5_0), .unset, .unset] [(.long 0), (.long pJ916)] _
    refine XS.ladd X19.here hx rfl (hb hby at_96) rfl ?_
    show Steps p.tables e below (T19.setTop (mkF m 97 #[.val (.int pI1), .val (.int pI2), .val (.int pI900), .val (.int 2), .val (.ref bR5_0), .unset, .unset] [(.long (pJ916 + (0 : Int64)))])) _
    rw [hr96]
    refine XS.lstore X19.here hx rfl (hb hby at_97) rfl (l' := #[.val (.int pI1), .val (.int pI2), .val (.int pI900), .val (.int 2), .val (.ref bR5_0), .val (.long pJ917), .second]) rfl ?_
    refine XS.lload X19.here hx rfl (hb hby at_99) rfl ?_
    refine XS.iloadN X19.here hx rfl (hb hby at_101) rfl ?_
    refine XS.i2l X19.here hx rfl (hb hby at_102) rfl ?_
    refine XS.lcmp X19.here hx rfl (hb hby at_103) rfl ?_
    refine XS.ifYes X19.here hx rfl (pc0 := 104) (pc' := 109) rfl (hb hby at_104) rfl ((if0 _ _).trans (teq hc104).1) (by decide) (by decide) ?_
    refine XS.aload X19.here hx rfl (hb hby at_109) rfl rfl ?_
    show oS p e below T19 m 111 #[.val (.int pI1), .val (.int pI2), .val (.int pI900), .val (.int 2), .val (.ref bR5_0), .val (.long pJ917), .second] [(.ref bR5_0)] _
    refine XS.iconst X19.here hx rfl (hb hby at_111) ?_
    refine XS.iloadN X19.here hx rfl (hb hby at_112) rfl ?_
    refine XS.iloadN X19.here hx rfl (hb hby at_113) rfl ?_
    refine st20 _ ?_
    refine XS.ifNo X20.here hx rfl (hb hby at_117) rfl ((if0 _ _).trans (feq (by decide : ¬ ((1 : Int32) = (0 : Int32)))).1) ?_
    refine XS.aload X20.here hx rfl (hb hby at_120) rfl rfl ?_
    refine XS.iconst X20.here hx rfl (hb hby at_122) ?_
    refine XS.iloadN X20.here hx rfl (hb hby at_123) rfl ?_
    show oS p e below T20 m 124 #[.val (.int pI1), .val (.int pI2), .val (.int pI900), .val (.int 2), .val (.ref bR5_0), .val (.long pJ917), .second] [(.int 2), (.int 2), (.ref bR5_0)] _
    refine XS.iloadN X20.here hx rfl (hb hby at_124) rfl ?_
    refine st21 _ ?_
    refine XS.ifNo X21.here hx rfl (hb hby at_128) rfl ((if0 _ _).trans (feq (by decide : ¬ ((1 : Int32) = (0 : Int32)))).1) ?_
    refine XS.aload X21.here hx rfl (hb hby at_131) rfl rfl ?_
    refine XS.iconst X21.here hx rfl (hb hby at_133) ?_
    refine XS.iloadN X21.here hx rfl (hb hby at_134) rfl ?_
    refine XS.iloadN X21.here hx rfl (hb hby at_135) rfl ?_
    refine st22 _ ?_
    show oS p e below T22 m 139 #[.val (.int pI1), .val (.int pI2), .val (.int pI900), .val (.int 2), .val (.ref bR5_0), .val (.long pJ917), .second] [(.int 1)] _
    refine XS.ifNo X22.here hx rfl (hb hby at_139) rfl ((if0 _ _).trans (feq (by decide : ¬ ((1 : Int32) = (0 : Int32)))).1) ?_
    refine XS.aload X22.here hx rfl (hb hby at_142) rfl rfl ?_
    refine XS.iconst X22.here hx rfl (hb hby at_144) ?_
    refine XS.iloadN X22.here hx rfl (hb hby at_145) rfl ?_
    refine XS.iloadN X22.here hx rfl (hb hby at_146) rfl ?_
    refine st23 _ ?_
    refine XS.ifNo X23.here hx rfl (hb hby at_150) rfl ((if0 _ _).trans (feq (by decide : ¬ ((1 : Int32) = (0 : Int32)))).1) ?_
    refine XS.aload X23.here hx rfl (hb hby at_153) rfl rfl ?_
    show oS p e below T23 m 155 #[.val (.int pI1), .val (.int pI2), .val (.int pI900), .val (.int 2), .val (.ref bR5_0), .val (.long pJ917), .second] [(.ref bR5_0)] _
    refine XS.iconst X23.here hx rfl (hb hby at_155) ?_
    refine XS.iloadN X23.here hx rfl (hb hby at_156) rfl ?_
    refine XS.iloadN X23.here hx rfl (hb hby at_157) rfl ?_
    refine st24 _ ?_
    refine XS.ifNo X24.here hx rfl (hb hby at_161) rfl ((if0 _ _).trans (feq (by decide : ¬ ((1 : Int32) = (0 : Int32)))).1) ?_
    refine XS.aload X24.here hx rfl (hb hby at_164) rfl rfl ?_
    refine XS.bipush X24.here hx rfl (hb hby at_166) ?_
    refine XS.iloadN X24.here hx rfl (hb hby at_168) rfl ?_
    show oS p e below T24 m 169 #[.val (.int pI1), .val (.int pI2), .val (.int pI900), .val (.int 2), .val (.ref bR5_0), .val (.long pJ917), .second] [(.int 2), (.int 6), (.ref bR5_0)] _
    refine XS.iloadN X24.here hx rfl (hb hby at_169) rfl ?_
    refine st25 _ ?_
    refine XS.ifNo X25.here hx rfl (hb hby at_173) rfl ((if0 _ _).trans (feq (by decide : ¬ ((1 : Int32) = (0 : Int32)))).1) ?_
    refine XS.aload X25.here hx rfl (hb hby at_176) rfl rfl ?_
    refine XS.bipush X25.here hx rfl (hb hby at_178) ?_
    refine XS.iloadN X25.here hx rfl (hb hby at_180) rfl ?_
    refine XS.iloadN X25.here hx rfl (hb hby at_181) rfl ?_
    refine st26 _ ?_
    show oS p e below T26 m 185 #[.val (.int pI1), .val (.int pI2), .val (.int pI900), .val (.int 2), .val (.ref bR5_0), .val (.long pJ917), .second] [(.int 1)] _
    refine XS.ifNo X26.here hx rfl (hb hby at_185) rfl ((if0 _ _).trans (feq (by decide : ¬ ((1 : Int32) = (0 : Int32)))).1) ?_
    refine XS.iconst X26.here hx rfl (hb hby at_188) ?_
    refine XS.goto X26.here hx rfl (pc0 := 189) (pc' := 193) rfl (hb hby at_189) (by decide) (by decide) ?_
    exact retN X26 hx (t := .boolean) Bd.returns (by simp) (hb hby at_193) hr
  · show Qlaw2 Z pI1 pI2 pI900 pR3 pC4 pR8 pJ911 pJ912 pJ913 pJ914 pJ915 pJ916 pJ917 h0 n0 _ T26.heap _
    rw [e26]
    exact ⟨rfl, N26⟩
theorem ef_law3 (m : MethodId) (pI1 : Int32) (pI2 : Int32) : entryFrame m #[(.int pI1), (.int pI2)] maxLocals = mkF m 0 #[.val (.int pI1), .val (.int pI2), .unset, .unset, .unset, .unset, .unset] [] := by first | (simp [entryFrame, mkF, argsToLocals, Value.category, maxLocals]; done) | rfl
def Qlaw3 (Z : State) (pI1 : Int32) (pI2 : Int32) (pI900 : Int32) (pR3 : Addr) (pC4 : Cell) (pJ911 : Int64) (pJ912 : Int64) (pJ913 : Int64) (pJ914 : Int64) (pJ915 : Int64) (pJ916 : Int64) (pJ917 : Int64) (h0 : Heap) (n0 : Nat) (v : Option Value) (h : Heap) (L : List Loc) : Prop := v = some (.int 1) ∧ Fr n0 L
set_option maxRecDepth 65536 in
set_option maxHeartbeats 40000000 in
theorem law3 (l : Launch) (Z : State) (a0 : Array Value) (hw : ∀ d ∈ tables_1, d.before a0 Z = true) (ws : List Jvm.Cond) (pI1 : Int32) (pI2 : Int32) (pI900 : Int32) (pR3 : Addr) (pC4 : Cell) (pJ911 : Int64) (pJ912 : Int64) (pJ913 : Int64) (pJ914 : Int64) (pJ915 : Int64) (pJ916 : Int64) (pJ917 : Int64) (h0 : Heap) (n0 : Nat) (Z0 : n0 ≤ h0.size) (S_Integer_IntegerCache_high : Sta Z h0 "java/lang/Integer$IntegerCache" "high" "I" (.int 127)) (S_Integer_IntegerCache_cache : Sta Z h0 "java/lang/Integer$IntegerCache" "cache" "[Ljava/lang/Integer;" (.ref pR3)) (B_pR3 : Bxs Z pR3 pC4 "java/lang/Integer" "I" (256 : Int32) (fun j => .int (j - 128))) (D0 : Old Z n0 h0) (hr3 : (pI1 &&& (2147483647 : Int32)) = pI900) (hc8 : (pI2 &&& (7 : Int32)) = (2 : Int32)) (hr46 : ((((pI900 / (3 : Int32)) + (pI900 % (3 : Int32))).toInt64) + ((pI900 / (3 : Int32)).toInt64)) = pJ911) (hr54 : (pJ911 + ((pI900 / (3 : Int32)).toInt64)) = pJ912) (hr62 : (pJ912 + (0 : Int64)) = pJ913) (hr70 : (pJ913 + (0 : Int64)) = pJ914) (hr78 : (pJ914 + (0 : Int64)) = pJ915) (hr87 : (pJ915 + (0 : Int64)) = pJ916) (hr96 : (pJ916 + (0 : Int64)) = pJ917) (hc104 : (lcmpW pJ917 (pI900.toInt64)) = (0 : Int32)) (hc114 : ¬ ((0 : Int32) < (lcmpW (((pI900 / (3 : Int32)).toInt64) * ((3 : Int32).toInt64)) (pI900.toInt64)))) (hc114' : (lcmpW (pI900.toInt64) ((((pI900 / (3 : Int32)).toInt64) + (1 : Int64)) * ((3 : Int32).toInt64))) < (0 : Int32)) :
    oM l x code maxLocals ret ws room_1 #[(.int pI1), (.int pI2)] Z h0 (Qlaw3 Z pI1 pI2 pI900 pR3 pC4 pJ911 pJ912 pJ913 pJ914 pJ915 pJ916 pJ917 h0 n0) := by
  refine MetFree.of_bodySF (plainFor_of_name pn_12) hisR ?_
  intro p e s m args below meth c s₁ Bd hml0 hP hK
  obtain ⟨rfl, hZ, hh⟩ := hP
  have hx := Bd.exec
  have hby := Bd.bytes
  have hml : c.maxLocals = 7 := hml0
  have hown : s.vm.findClass "com/example/watchful_junction/watchfuljunction/scenario/ProportionalSpecEqualSharesPinLaw" = some m.cls := findClass_of_methodNamed Bd.named
  have hnm := (name_of_methodNamed Bd.named Bd.method).1
  have X0 : Stand p l e room_1 s m #[(.int pI1), (.int pI2)] below meth c s₁ [] 0 0 := Stand.of_body Bd
  have e0 : s₁.heap = h0 := by rw [← hh, Bd.state]; rfl
  have N0 := Fr.nil n0
  obtain ⟨_, _, ⟨T5, L5, k5, n5⟩, -, X5, ⟨Lc5, hQ5, l5, y5, z5⟩, st5⟩ := Jvm.LawKit.callS X0 hx (y := yN14) hown (mvT hZ (ow hw 1 rfl)) (mvT hZ (ow hw 2 rfl)) (mvT hZ (ow hw 3 rfl)) (mvT hZ (ow hw 4 rfl)) (by decide) (backOf (W := 0) (eqs3 l Z a0 hw [] pI900 pR3 pC4 h0 n0 Z0 S_Integer_IntegerCache_high S_Integer_IntegerCache_cache B_pR3 D0) hZ (ow hw 4 rfl) (ow hw 3 rfl) (by decide) (by decide)) (g := (mkF m 14 #[.val (.int pI1), .val (.int pI2), .val (.int pI900), .val (.int 3), .unset, .unset, .unset] [(.int 3), (.int pI900)])) rfl (by rw [hml]; rfl) (argsL := [(.int pI900), (.int 3)]) (rest := []) (lenOf pd_12 rfl) rfl (Nat.le_refl _) (hb hby at_14) (fun _ _ => ⟨rfl, e0, (by decide : 0 + 5 ≤ _), (by decide : 0 + 10 ≤ _)⟩)
  dsimp only [Pt.U, Pt.locs, Pt.cells, Pt.slots] at X5 l5 y5 z5 st5 hQ5
  subst l5 y5 z5
  obtain ⟨bR5_0, bR5_1, bR5_2, bR5_3, kK5_0, rfl, Nq5, Kq5, sz5_0, sz5_1, x5_0, x5_1, x5_2, x5_3, x5_4, x5_5, x5_6, x5_7⟩ := hQ5
  have N5 := Fr.app N0 Nq5
  obtain ⟨Lh5, X5, N5⟩ := own_hide X5 N5
  have Z7 : n0 ≤ T5.heap.size := (Nat.le_trans Z0 Kq5.1)
  obtain ⟨cq8, kq8, q8a, q8b, q8c⟩ := isOf hZ rfl x5_5
  obtain ⟨_, _, ⟨T8, L8, k8, n8⟩, -, X8, ⟨Lc8, hQ8, l8, y8, z8⟩, st8⟩ := X5.interfaceBack hx (xi := yN23) (y := yN16) hown (mvT hZ (ow hw 73 rfl)) (mvT hZ (ow hw 74 rfl)) (mvT hZ (ow hw 75 rfl)) (mvT hZ (ow hw 76 rfl)) (mvT hZ (ow hw 77 rfl)) (mvT hZ (ow hw 78 rfl)) (mvT hZ (ow hw 79 rfl)) (mvT hZ (ow hw 80 rfl)) (by decide) (backOf (W := 0) (lnS3 l Z a0 hw [] bR5_1 bR5_0 bR5_3 bR5_2 kK5_0 T5.heap n0 Z7 x5_6 x5_4) hZ (ow hw 81 rfl) (ow hw 43 rfl) (by decide) (by decide)) q8a q8b q8c (g := (mkF m 21 #[.val (.int pI1), .val (.int pI2), .val (.int pI900), .val (.int 3), .val (.ref bR5_1), .unset, .unset] [(.ref bR5_1)])) rfl (by rw [hml]; rfl) (Steps.refl _) (argsL := []) (rest := []) (lenOf pd_6 rfl) rfl (Nat.le_refl _) (hb hby at_21) (fun _ _ => ⟨rfl, rfl, (by decide : 5 + 0 ≤ _), (by decide : 10 + 0 ≤ _)⟩)
  dsimp only [Pt.U, Pt.locs, Pt.cells, Pt.slots] at X8 l8 y8 z8 st8 hQ8
  subst l8 y8 z8
  obtain ⟨rfl, Nq8, e8⟩ := hQ8
  have N8 := Fr.app N5 Nq8
  obtain ⟨clq9, Arq9, Akq9, Asq9, Anq9, Ahq9, Agq9⟩ := id x5_4
  have hin10 : ¬ ((0 : Int32) < 0 ∨ clq9.slots.size ≤ ((0 : Int32)).toNatClampNeg) := inb_of Asq9 ⟨by decide, by decide⟩
  have hat11 : clq9.slots[((0 : Int32)).toNatClampNeg]? = some (.ref bR5_3) := Has.at Ahq9 hin10 rfl
  obtain ⟨_, _, ⟨T12, L12, k12, n12⟩, -, X12, ⟨Lc12, hQ12, l12, y12, z12⟩, st12⟩ := Jvm.LawKit.callS X8 hx (y := yN20) hown (mvT hZ (ow hw 82 rfl)) (mvT hZ (ow hw 83 rfl)) (mvT hZ (ow hw 84 rfl)) (mvT hZ (ow hw 85 rfl)) (by decide) (backOf (W := 0) (atN l Z a0 hw [] bR5_1 (0 : Int32) (3 : Int32) bR5_0 clq9 bR5_3 ((pI900 / (3 : Int32)) + (pI900 % (3 : Int32))) T5.heap n0 Z7 x5_6 Arq9 hat11 x5_5 x5_2 x5_3 (by decide) hin10) hZ (ow hw 85 rfl) (ow hw 84 rfl) (by decide) (by decide)) (g := (mkF m 36 #[.val (.int pI1), .val (.int pI2), .val (.int pI900), .val (.int 3), .val (.ref bR5_1), .unset, .unset] [(.int 3), (.int 0), (.ref bR5_1)])) rfl (by rw [hml]; rfl) (argsL := [(.ref bR5_1), (.int 0), (.int 3)]) (rest := []) (lenOf pd_13 rfl) rfl (Nat.le_refl _) (hb hby at_36) (fun _ _ => ⟨rfl, e8, (by decide : 5 + 0 ≤ _), (by decide : 10 + 0 ≤ _)⟩)
  dsimp only [Pt.U, Pt.locs, Pt.cells, Pt.slots] at X12 l12 y12 z12 st12 hQ12
  subst l12 y12 z12
  obtain ⟨rfl, Nq12, e12⟩ := hQ12
  have N12 := Fr.app N8 Nq12
  have hin13 : ¬ ((1 : Int32) < 0 ∨ clq9.slots.size ≤ ((1 : Int32)).toNatClampNeg) := inb_of Asq9 ⟨by decide, by decide⟩
  have hat14 : clq9.slots[((1 : Int32)).toNatClampNeg]? = some (.ref bR5_2) := Has.at Ahq9 hin13 rfl
  obtain ⟨_, _, ⟨T15, L15, k15, n15⟩, -, X15, ⟨Lc15, hQ15, l15, y15, z15⟩, st15⟩ := Jvm.LawKit.callS X12 hx (y := yN20) hown (mvT hZ (ow hw 82 rfl)) (mvT hZ (ow hw 83 rfl)) (mvT hZ (ow hw 84 rfl)) (mvT hZ (ow hw 85 rfl)) (by decide) (backOf (W := 2) (atN l Z a0 hw [] bR5_1 (1 : Int32) (3 : Int32) bR5_0 clq9 bR5_2 (pI900 / (3 : Int32)) T5.heap n0 Z7 x5_6 Arq9 hat14 x5_5 x5_0 x5_1 (by decide) hin13) hZ (ow hw 85 rfl) (ow hw 84 rfl) (by decide) (by decide)) (g := (mkF m 43 #[.val (.int pI1), .val (.int pI2), .val (.int pI900), .val (.int 3), .val (.ref bR5_1), .unset, .unset] [(.int 3), (.int 1), (.ref bR5_1), (.long (((pI900 / (3 : Int32)) + (pI900 % (3 : Int32))).toInt64))])) rfl (by rw [hml]; rfl) (argsL := [(.ref bR5_1), (.int 1), (.int 3)]) (rest := [(.long (((pI900 / (3 : Int32)) + (pI900 % (3 : Int32))).toInt64))]) (lenOf pd_13 rfl) rfl (Nat.le_refl _) (hb hby at_43) (fun _ _ => ⟨rfl, e12, (by decide : 5 + 0 ≤ _), (by decide : 10 + 0 ≤ _)⟩)
  dsimp only [Pt.U, Pt.locs, Pt.cells, Pt.slots] at X15 l15 y15 z15 st15 hQ15
  subst l15 y15 z15
  obtain ⟨rfl, Nq15, e15⟩ := hQ15
  have N15 := Fr.app N12 Nq15
  have hin16 : ¬ ((2 : Int32) < 0 ∨ clq9.slots.size ≤ ((2 : Int32)).toNatClampNeg) := inb_of Asq9 ⟨by decide, by decide⟩
  have hat17 : clq9.slots[((2 : Int32)).toNatClampNeg]? = some (.ref bR5_2) := Has.at Ahq9 hin16 rfl
  obtain ⟨_, _, ⟨T18, L18, k18, n18⟩, -, X18, ⟨Lc18, hQ18, l18, y18, z18⟩, st18⟩ := Jvm.LawKit.callS X15 hx (y := yN20) hown (mvT hZ (ow hw 82 rfl)) (mvT hZ (ow hw 83 rfl)) (mvT hZ (ow hw 84 rfl)) (mvT hZ (ow hw 85 rfl)) (by decide) (backOf (W := 2) (atN l Z a0 hw [] bR5_1 (2 : Int32) (3 : Int32) bR5_0 clq9 bR5_2 (pI900 / (3 : Int32)) T5.heap n0 Z7 x5_6 Arq9 hat17 x5_5 x5_0 x5_1 (by decide) hin16) hZ (ow hw 85 rfl) (ow hw 84 rfl) (by decide) (by decide)) (g := (mkF m 51 #[.val (.int pI1), .val (.int pI2), .val (.int pI900), .val (.int 3), .val (.ref bR5_1), .unset, .unset] [(.int 3), (.int 2), (.ref bR5_1), (.long pJ911)])) rfl (by rw [hml]; rfl) (argsL := [(.ref bR5_1), (.int 2), (.int 3)]) (rest := [(.long pJ911)]) (lenOf pd_13 rfl) rfl (Nat.le_refl _) (hb hby at_51) (fun _ _ => ⟨rfl, e15, (by decide : 5 + 0 ≤ _), (by decide : 10 + 0 ≤ _)⟩)
  dsimp only [Pt.U, Pt.locs, Pt.cells, Pt.slots] at X18 l18 y18 z18 st18 hQ18
  subst l18 y18 z18
  obtain ⟨rfl, Nq18, e18⟩ := hQ18
  have N18 := Fr.app N15 Nq18
  obtain ⟨_, _, ⟨T19, L19, k19, n19⟩, -, X19, ⟨Lc19, hQ19, l19, y19, z19⟩, st19⟩ := Jvm.LawKit.callS X18 hx (y := yN20) hown (mvT hZ (ow hw 82 rfl)) (mvT hZ (ow hw 83 rfl)) (mvT hZ (ow hw 84 rfl)) (mvT hZ (ow hw 85 rfl)) (by decide) (backOf (W := 2) (atE l Z a0 hw [] bR5_1 (3 : Int32) (3 : Int32) T5.heap n0 Z7 (by decide)) hZ (ow hw 85 rfl) (ow hw 84 rfl) (by decide) (by decide)) (g := (mkF m 59 #[.val (.int pI1), .val (.int pI2), .val (.int pI900), .val (.int 3), .val (.ref bR5_1), .unset, .unset] [(.int 3), (.int 3), (.ref bR5_1), (.long pJ912)])) rfl (by rw [hml]; rfl) (argsL := [(.ref bR5_1), (.int 3), (.int 3)]) (rest := [(.long pJ912)]) (lenOf pd_13 rfl) rfl (Nat.le_refl _) (hb hby at_59) (fun _ _ => ⟨rfl, e18, (by decide : 5 + 0 ≤ _), (by decide : 10 + 0 ≤ _)⟩)
  dsimp only [Pt.U, Pt.locs, Pt.cells, Pt.slots] at X19 l19 y19 z19 st19 hQ19
  subst l19 y19 z19
  obtain ⟨rfl, Nq19, e19⟩ := hQ19
  have N19 := Fr.app N18 Nq19
  obtain ⟨_, _, ⟨T20, L20, k20, n20⟩, -, X20, ⟨Lc20, hQ20, l20, y20, z20⟩, st20⟩ := Jvm.LawKit.callS X19 hx (y := yN20) hown (mvT hZ (ow hw 82 rfl)) (mvT hZ (ow hw 83 rfl)) (mvT hZ (ow hw 84 rfl)) (mvT hZ (ow hw 85 rfl)) (by decide) (backOf (W := 2) (atE l Z a0 hw [] bR5_1 (4 : Int32) (3 : Int32) T5.heap n0 Z7 (by decide)) hZ (ow hw 85 rfl) (ow hw 84 rfl) (by decide) (by decide)) (g := (mkF m 67 #[.val (.int pI1), .val (.int pI2), .val (.int pI900), .val (.int 3), .val (.ref bR5_1), .unset, .unset] [(.int 3), (.int 4), (.ref bR5_1), (.long pJ913)])) rfl (by rw [hml]; rfl) (argsL := [(.ref bR5_1), (.int 4), (.int 3)]) (rest := [(.long pJ913)]) (lenOf pd_13 rfl) rfl (Nat.le_refl _) (hb hby at_67) (fun _ _ => ⟨rfl, e19, (by decide : 5 + 0 ≤ _), (by decide : 10 + 0 ≤ _)⟩)
  dsimp only [Pt.U, Pt.locs, Pt.cells, Pt.slots] at X20 l20 y20 z20 st20 hQ20
  subst l20 y20 z20
  obtain ⟨rfl, Nq20, e20⟩ := hQ20
  have N20 := Fr.app N19 Nq20
  obtain ⟨_, _, ⟨T21, L21, k21, n21⟩, -, X21, ⟨Lc21, hQ21, l21, y21, z21⟩, st21⟩ := Jvm.LawKit.callS X20 hx (y := yN20) hown (mvT hZ (ow hw 82 rfl)) (mvT hZ (ow hw 83 rfl)) (mvT hZ (ow hw 84 rfl)) (mvT hZ (ow hw 85 rfl)) (by decide) (backOf (W := 2) (atE l Z a0 hw [] bR5_1 (5 : Int32) (3 : Int32) T5.heap n0 Z7 (by decide)) hZ (ow hw 85 rfl) (ow hw 84 rfl) (by decide) (by decide)) (g := (mkF m 75 #[.val (.int pI1), .val (.int pI2), .val (.int pI900), .val (.int 3), .val (.ref bR5_1), .unset, .unset] [(.int 3), (.int 5), (.ref bR5_1), (.long pJ914)])) rfl (by rw [hml]; rfl) (argsL := [(.ref bR5_1), (.int 5), (.int 3)]) (rest := [(.long pJ914)]) (lenOf pd_13 rfl) rfl (Nat.le_refl _) (hb hby at_75) (fun _ _ => ⟨rfl, e20, (by decide : 5 + 0 ≤ _), (by decide : 10 + 0 ≤ _)⟩)
  dsimp only [Pt.U, Pt.locs, Pt.cells, Pt.slots] at X21 l21 y21 z21 st21 hQ21
  subst l21 y21 z21
  obtain ⟨rfl, Nq21, e21⟩ := hQ21
  have N21 := Fr.app N20 Nq21
  obtain ⟨_, _, ⟨T22, L22, k22, n22⟩, -, X22, ⟨Lc22, hQ22, l22, y22, z22⟩, st22⟩ := Jvm.LawKit.callS X21 hx (y := yN20) hown (mvT hZ (ow hw 82 rfl)) (mvT hZ (ow hw 83 rfl)) (mvT hZ (ow hw 84 rfl)) (mvT hZ (ow hw 85 rfl)) (by decide) (backOf (W := 2) (atE l Z a0 hw [] bR5_1 (6 : Int32) (3 : Int32) T5.heap n0 Z7 (by decide)) hZ (ow hw 85 rfl) (ow hw 84 rfl) (by decide) (by decide)) (g := (mkF m 84 #[.val (.int pI1), .val (.int pI2), .val (.int pI900), .val (.int 3), .val (.ref bR5_1), .unset, .unset] [(.int 3), (.int 6), (.ref bR5_1), (.long pJ915)])) rfl (by rw [hml]; rfl) (argsL := [(.ref bR5_1), (.int 6), (.int 3)]) (rest := [(.long pJ915)]) (lenOf pd_13 rfl) rfl (Nat.le_refl _) (hb hby at_84) (fun _ _ => ⟨rfl, e21, (by decide : 5 + 0 ≤ _), (by decide : 10 + 0 ≤ _)⟩)
  dsimp only [Pt.U, Pt.locs, Pt.cells, Pt.slots] at X22 l22 y22 z22 st22 hQ22
  subst l22 y22 z22
  obtain ⟨rfl, Nq22, e22⟩ := hQ22
  have N22 := Fr.app N21 Nq22
  obtain ⟨_, _, ⟨T23, L23, k23, n23⟩, -, X23, ⟨Lc23, hQ23, l23, y23, z23⟩, st23⟩ := Jvm.LawKit.callS X22 hx (y := yN20) hown (mvT hZ (ow hw 82 rfl)) (mvT hZ (ow hw 83 rfl)) (mvT hZ (ow hw 84 rfl)) (mvT hZ (ow hw 85 rfl)) (by decide) (backOf (W := 2) (atE l Z a0 hw [] bR5_1 (7 : Int32) (3 : Int32) T5.heap n0 Z7 (by decide)) hZ (ow hw 85 rfl) (ow hw 84 rfl) (by decide) (by decide)) (g := (mkF m 93 #[.val (.int pI1), .val (.int pI2), .val (.int pI900), .val (.int 3), .val (.ref bR5_1), .unset, .unset] [(.int 3), (.int 7), (.ref bR5_1), (.long pJ916)])) rfl (by rw [hml]; rfl) (argsL := [(.ref bR5_1), (.int 7), (.int 3)]) (rest := [(.long pJ916)]) (lenOf pd_13 rfl) rfl (Nat.le_refl _) (hb hby at_93) (fun _ _ => ⟨rfl, e22, (by decide : 5 + 0 ≤ _), (by decide : 10 + 0 ≤ _)⟩)
  dsimp only [Pt.U, Pt.locs, Pt.cells, Pt.slots] at X23 l23 y23 z23 st23 hQ23
  subst l23 y23 z23
  obtain ⟨rfl, Nq23, e23⟩ := hQ23
  have N23 := Fr.app N22 Nq23
  obtain ⟨_, _, ⟨T24, L24, k24, n24⟩, -, X24, ⟨Lc24, hQ24, l24, y24, z24⟩, st24⟩ := Jvm.LawKit.callS X23 hx (y := yN22) hown (mvT hZ (ow hw 100 rfl)) (mvT hZ (ow hw 101 rfl)) (mvT hZ (ow hw 84 rfl)) (mvT hZ (ow hw 102 rfl)) (by decide) (backOf (W := 0) (laN l Z a0 hw [] bR5_1 (1 : Int32) (3 : Int32) pI900 bR5_0 clq9 bR5_2 (pI900 / (3 : Int32)) T5.heap n0 Z7 x5_6 Arq9 hat14 x5_5 x5_0 x5_1 (by decide) hin13 hc114 hc114') hZ (ow hw 102 rfl) (ow hw 84 rfl) (by decide) (by decide)) (g := (mkF m 114 #[.val (.int pI1), .val (.int pI2), .val (.int pI900), .val (.int 3), .val (.ref bR5_1), .val (.long pJ917), .second] [(.int pI900), (.int 3), (.int 1), (.ref bR5_1)])) rfl (by rw [hml]; rfl) (argsL := [(.ref bR5_1), (.int 1), (.int 3), (.int pI900)]) (rest := []) (lenOf pd_14 rfl) rfl (Nat.le_refl _) (hb hby at_114) (fun _ _ => ⟨rfl, e23, (by decide : 5 + 0 ≤ _), (by decide : 10 + 0 ≤ _)⟩)
  dsimp only [Pt.U, Pt.locs, Pt.cells, Pt.slots] at X24 l24 y24 z24 st24 hQ24
  subst l24 y24 z24
  obtain ⟨rfl, Nq24, e24⟩ := hQ24
  have N24 := Fr.app N23 Nq24
  obtain ⟨_, _, ⟨T25, L25, k25, n25⟩, -, X25, ⟨Lc25, hQ25, l25, y25, z25⟩, st25⟩ := Jvm.LawKit.callS X24 hx (y := yN22) hown (mvT hZ (ow hw 100 rfl)) (mvT hZ (ow hw 101 rfl)) (mvT hZ (ow hw 84 rfl)) (mvT hZ (ow hw 102 rfl)) (by decide) (backOf (W := 0) (laN l Z a0 hw [] bR5_1 (2 : Int32) (3 : Int32) pI900 bR5_0 clq9 bR5_2 (pI900 / (3 : Int32)) T5.heap n0 Z7 x5_6 Arq9 hat17 x5_5 x5_0 x5_1 (by decide) hin16 hc114 hc114') hZ (ow hw 102 rfl) (ow hw 84 rfl) (by decide) (by decide)) (g := (mkF m 125 #[.val (.int pI1), .val (.int pI2), .val (.int pI900), .val (.int 3), .val (.ref bR5_1), .val (.long pJ917), .second] [(.int pI900), (.int 3), (.int 2), (.ref bR5_1)])) rfl (by rw [hml]; rfl) (argsL := [(.ref bR5_1), (.int 2), (.int 3), (.int pI900)]) (rest := []) (lenOf pd_14 rfl) rfl (Nat.le_refl _) (hb hby at_125) (fun _ _ => ⟨rfl, e24, (by decide : 5 + 0 ≤ _), (by decide : 10 + 0 ≤ _)⟩)
  dsimp only [Pt.U, Pt.locs, Pt.cells, Pt.slots] at X25 l25 y25 z25 st25 hQ25
  subst l25 y25 z25
  obtain ⟨rfl, Nq25, e25⟩ := hQ25
  have N25 := Fr.app N24 Nq25
  obtain ⟨_, _, ⟨T26, L26, k26, n26⟩, -, X26, ⟨Lc26, hQ26, l26, y26, z26⟩, st26⟩ := Jvm.LawKit.callS X25 hx (y := yN22) hown (mvT hZ (ow hw 100 rfl)) (mvT hZ (ow hw 101 rfl)) (mvT hZ (ow hw 84 rfl)) (mvT hZ (ow hw 102 rfl)) (by decide) (backOf (W := 0) (laE l Z a0 hw [] bR5_1 (3 : Int32) (3 : Int32) pI900 T5.heap n0 Z7 (by decide)) hZ (ow hw 102 rfl) (ow hw 84 rfl) (by decide) (by decide)) (g := (mkF m 136 #[.val (.int pI1), .val (.int pI2), .val (.int pI900), .val (.int 3), .val (.ref bR5_1), .val (.long pJ917), .second] [(.int pI900), (.int 3), (.int 3), (.ref bR5_1)])) rfl (by rw [hml]; rfl) (argsL := [(.ref bR5_1), (.int 3), (.int 3), (.int pI900)]) (rest := []) (lenOf pd_14 rfl) rfl (Nat.le_refl _) (hb hby at_136) (fun _ _ => ⟨rfl, e25, (by decide : 5 + 0 ≤ _), (by decide : 10 + 0 ≤ _)⟩)
  dsimp only [Pt.U, Pt.locs, Pt.cells, Pt.slots] at X26 l26 y26 z26 st26 hQ26
  subst l26 y26 z26
  obtain ⟨rfl, Nq26, e26⟩ := hQ26
  have N26 := Fr.app N25 Nq26
  obtain ⟨_, _, ⟨T27, L27, k27, n27⟩, -, X27, ⟨Lc27, hQ27, l27, y27, z27⟩, st27⟩ := Jvm.LawKit.callS X26 hx (y := yN22) hown (mvT hZ (ow hw 100 rfl)) (mvT hZ (ow hw 101 rfl)) (mvT hZ (ow hw 84 rfl)) (mvT hZ (ow hw 102 rfl)) (by decide) (backOf (W := 0) (laE l Z a0 hw [] bR5_1 (4 : Int32) (3 : Int32) pI900 T5.heap n0 Z7 (by decide)) hZ (ow hw 102 rfl) (ow hw 84 rfl) (by decide) (by decide)) (g := (mkF m 147 #[.val (.int pI1), .val (.int pI2), .val (.int pI900), .val (.int 3), .val (.ref bR5_1), .val (.long pJ917), .second] [(.int pI900), (.int 3), (.int 4), (.ref bR5_1)])) rfl (by rw [hml]; rfl) (argsL := [(.ref bR5_1), (.int 4), (.int 3), (.int pI900)]) (rest := []) (lenOf pd_14 rfl) rfl (Nat.le_refl _) (hb hby at_147) (fun _ _ => ⟨rfl, e26, (by decide : 5 + 0 ≤ _), (by decide : 10 + 0 ≤ _)⟩)
  dsimp only [Pt.U, Pt.locs, Pt.cells, Pt.slots] at X27 l27 y27 z27 st27 hQ27
  subst l27 y27 z27
  obtain ⟨rfl, Nq27, e27⟩ := hQ27
  have N27 := Fr.app N26 Nq27
  obtain ⟨_, _, ⟨T28, L28, k28, n28⟩, -, X28, ⟨Lc28, hQ28, l28, y28, z28⟩, st28⟩ := Jvm.LawKit.callS X27 hx (y := yN22) hown (mvT hZ (ow hw 100 rfl)) (mvT hZ (ow hw 101 rfl)) (mvT hZ (ow hw 84 rfl)) (mvT hZ (ow hw 102 rfl)) (by decide) (backOf (W := 0) (laE l Z a0 hw [] bR5_1 (5 : Int32) (3 : Int32) pI900 T5.heap n0 Z7 (by decide)) hZ (ow hw 102 rfl) (ow hw 84 rfl) (by decide) (by decide)) (g := (mkF m 158 #[.val (.int pI1), .val (.int pI2), .val (.int pI900), .val (.int 3), .val (.ref bR5_1), .val (.long pJ917), .second] [(.int pI900), (.int 3), (.int 5), (.ref bR5_1)])) rfl (by rw [hml]; rfl) (argsL := [(.ref bR5_1), (.int 5), (.int 3), (.int pI900)]) (rest := []) (lenOf pd_14 rfl) rfl (Nat.le_refl _) (hb hby at_158) (fun _ _ => ⟨rfl, e27, (by decide : 5 + 0 ≤ _), (by decide : 10 + 0 ≤ _)⟩)
  dsimp only [Pt.U, Pt.locs, Pt.cells, Pt.slots] at X28 l28 y28 z28 st28 hQ28
  subst l28 y28 z28
  obtain ⟨rfl, Nq28, e28⟩ := hQ28
  have N28 := Fr.app N27 Nq28
  obtain ⟨_, _, ⟨T29, L29, k29, n29⟩, -, X29, ⟨Lc29, hQ29, l29, y29, z29⟩, st29⟩ := Jvm.LawKit.callS X28 hx (y := yN22) hown (mvT hZ (ow hw 100 rfl)) (mvT hZ (ow hw 101 rfl)) (mvT hZ (ow hw 84 rfl)) (mvT hZ (ow hw 102 rfl)) (by decide) (backOf (W := 0) (laE l Z a0 hw [] bR5_1 (6 : Int32) (3 : Int32) pI900 T5.heap n0 Z7 (by decide)) hZ (ow hw 102 rfl) (ow hw 84 rfl) (by decide) (by decide)) (g := (mkF m 170 #[.val (.int pI1), .val (.int pI2), .val (.int pI900), .val (.int 3), .val (.ref bR5_1), .val (.long pJ917), .second] [(.int pI900), (.int 3), (.int 6), (.ref bR5_1)])) rfl (by rw [hml]; rfl) (argsL := [(.ref bR5_1), (.int 6), (.int 3), (.int pI900)]) (rest := []) (lenOf pd_14 rfl) rfl (Nat.le_refl _) (hb hby at_170) (fun _ _ => ⟨rfl, e28, (by decide : 5 + 0 ≤ _), (by decide : 10 + 0 ≤ _)⟩)
  dsimp only [Pt.U, Pt.locs, Pt.cells, Pt.slots] at X29 l29 y29 z29 st29 hQ29
  subst l29 y29 z29
  obtain ⟨rfl, Nq29, e29⟩ := hQ29
  have N29 := Fr.app N28 Nq29
  obtain ⟨_, _, ⟨T30, L30, k30, n30⟩, -, X30, ⟨Lc30, hQ30, l30, y30, z30⟩, st30⟩ := Jvm.LawKit.callS X29 hx (y := yN22) hown (mvT hZ (ow hw 100 rfl)) (mvT hZ (ow hw 101 rfl)) (mvT hZ (ow hw 84 rfl)) (mvT hZ (ow hw 102 rfl)) (by decide) (backOf (W := 0) (laE l Z a0 hw [] bR5_1 (7 : Int32) (3 : Int32) pI900 T5.heap n0 Z7 (by decide)) hZ (ow hw 102 rfl) (ow hw 84 rfl) (by decide) (by decide)) (g := (mkF m 182 #[.val (.int pI1), .val (.int pI2), .val (.int pI900), .val (.int 3), .val (.ref bR5_1), .val (.long pJ917), .second] [(.int pI900), (.int 3), (.int 7), (.ref bR5_1)])) rfl (by rw [hml]; rfl) (argsL := [(.ref bR5_1), (.int 7), (.int 3), (.int pI900)]) (rest := []) (lenOf pd_14 rfl) rfl (Nat.le_refl _) (hb hby at_182) (fun _ _ => ⟨rfl, e29, (by decide : 5 + 0 ≤ _), (by decide : 10 + 0 ≤ _)⟩)
  dsimp only [Pt.U, Pt.locs, Pt.cells, Pt.slots] at X30 l30 y30 z30 st30 hQ30
  subst l30 y30 z30
  obtain ⟨rfl, Nq30, e30⟩ := hQ30
  have N30 := Fr.app N29 Nq30
  obtain ⟨fs, hr, hrun, hended, hW, hsame⟩ := X30.leave (v := some (.int 1)) (fun h => by rw [Bd.returns] at h; cases h)
  refine ⟨_, _, castTop (ef_law3 m pI1 pI2) ?_, hrun, hended, _, _, rfl, ?_, ⟨_, rfl⟩, hW, hsame.mono (by decide) (by decide)⟩
  · show oS p e below s₁ m 0 #[.val (.int pI1), .val (.int pI2), .unset, .unset, .unset, .unset, .unset] [] _
    refine XS.iloadN X0.here hx rfl (hb hby at_0) rfl ?_
    refine X0.ldcInt hx hown (mvT hZ (ow hw 0 rfl)) (g := (mkF m 1 #[.val (.int pI1), .val (.int pI2), .unset, .unset, .unset, .unset, .unset] [(.int pI1)])) rfl (hb hby at_1) _ ?_
    refine XS.iand X0.here hx rfl (hb hby at_3) rfl ?_
    show Steps p.tables e below (s₁.setTop (mkF m 4 #[.val (.int pI1), .val (.int pI2), .unset, .unset, .unset, .unset, .unset] [(.int (pI1 &&& (2147483647 : Int32)))])) _
    rw [hr3]
    refine XS.istoreN X0.here hx rfl (hb hby at_4) rfl (l' := #[.val (.int pI1), .val (.int pI2), .val (.int pI900), .unset, .unset, .unset, .unset]) rfl ?_
    refine XS.iloadN X0.here hx rfl (hb hby at_5) rfl ?_
    refine XS.bipush X0.here hx rfl (hb hby at_6) ?_
    refine XS.iand X0.here hx rfl (hb hby at_8) rfl ?_
    show Steps p.tables e below (s₁.setTop (mkF m 9 #[.val (.int pI1), .val (.int pI2), .val (.int pI900), .unset, .unset, .unset, .unset] [(.int (pI2 &&& (7 : Int32)))])) _
    rw [hc8]
    refine XS.iconst X0.here hx rfl (hb hby at_9) ?_
    show oS p e below s₁ m 10 #[.val (.int pI1), .val (.int pI2), .val (.int pI900), .unset, .unset, .unset, .unset] [(.int 1), (.int 2)] _
    refine XS.iadd X0.here hx rfl (hb hby at_10) rfl ?_
    refine XS.istoreN X0.here hx rfl (hb hby at_11) rfl (l' := #[.val (.int pI1), .val (.int pI2), .val (.int pI900), .val (.int 3), .unset, .unset, .unset]) rfl ?_
    refine XS.iloadN X0.here hx rfl (hb hby at_12) rfl ?_
    refine XS.iloadN X0.here hx rfl (hb hby at_13) rfl ?_
    refine st5 _ ?_
    refine XS.astore X5.here hx rfl (hb hby at_17) rfl rfl (l' := #[.val (.int pI1), .val (.int pI2), .val (.int pI900), .val (.int 3), .val (.ref bR5_1), .unset, .unset]) rfl ?_
    refine XS.aload X5.here hx rfl (hb hby at_19) rfl rfl ?_
    refine st8.trans ?_
    show oS p e below T8 m 26 #[.val (.int pI1), .val (.int pI2), .val (.int pI900), .val (.int 3), .val (.ref bR5_1), .unset, .unset] [(.int 3)] _
    refine XS.iloadN X8.here hx rfl (hb hby at_26) rfl ?_
    refine XS.icmpYes X8.here hx rfl (pc0 := 27) (pc' := 32) rfl (hb hby at_27) rfl (teq (by decide : (3 : Int32) = (3 : Int32))).1 (by decide) (by decide) ?_
    refine XS.aload X8.here hx rfl (hb hby at_32) rfl rfl ?_
    refine XS.iconst X8.here hx rfl (hb hby at_34) ?_
    refine XS.iloadN X8.here hx rfl (hb hby at_35) rfl ?_
    refine st12 _ ?_
    refine XS.aload X12.here hx rfl (hb hby at_39) rfl rfl ?_
    refine XS.iconst X12.here hx rfl (hb hby at_41) ?_
    show oS p e below T12 m 42 #[.val (.int pI1), .val (.int pI2), .val (.int pI900), .val (.int 3), .val (.ref bR5_1), .unset, .unset] [(.int 1), (.ref bR5_1), (.long (((pI900 / (3 : Int32)) + (pI900 % (3 : Int32))).toInt64))] _
    refine XS.iloadN X12.here hx rfl (hb hby at_42) rfl ?_
    refine st15 _ ?_
    refine XS.ladd X15.here hx rfl (hb hby at_46) rfl ?_
    show Steps p.tables e below (T15.setTop (mkF m 47 #[.val (.int pI1), .val (.int pI2), .val (.int pI900), .val (.int 3), .val (.ref bR5_1), .unset, .unset] [(.long ((((pI900 / (3 : Int32)) + (pI900 % (3 : Int32))).toInt64) + ((pI900 / (3 : Int32)).toInt64)))])) _
    rw [hr46]
    refine XS.aload X15.here hx rfl (hb hby at_47) rfl rfl ?_
    refine XS.iconst X15.here hx rfl (hb hby at_49) ?_
    refine XS.iloadN X15.here hx rfl (hb hby at_50) rfl ?_
    refine st18 _ ?_
    refine XS.ladd X18.here hx rfl (hb hby at_54) rfl ?_
    show Steps p.tables e below (T18.setTop (mkF m 55 #[.val (.int pI1), .val (.int pI2), .val (.int pI900), .val (.int 3), .val (.ref bR5_1), .unset, .unset] [(.long (pJ911 + ((pI900 / (3 : Int32)).toInt64)))])) _
    rw [hr54]
    show oS p e below T18 m 55 #[.val (.int pI1), .val (.int pI2), .val (.int pI900), .val (.int 3), .val (.ref bR5_1), .unset, .unset] [(.long pJ912)] _
    refine XS.aload X18.here hx rfl (hb hby at_55) rfl rfl ?_
    refine XS.iconst X18.here hx rfl (hb hby at_57) ?_
    refine XS.iloadN X18.here hx rfl (hb hby at_58) rfl ?_
    refine st19 _ ?_
    refine XS.ladd X19.here hx rfl (hb hby at_62) rfl ?_
    show Steps p.tables e below (T19.setTop (mkF m 63 #[.val (.int pI1), .val (.int pI2), .val (.int pI900), .val (.int 3), .val (.ref bR5_1), .unset, .unset] [(.long (pJ912 + (0 : Int64)))])) _
    rw [hr62]
    refine XS.aload X19.here hx rfl (hb hby at_63) rfl rfl ?_
    refine XS.iconst X19.here hx rfl (hb hby at_65) ?_
    refine XS.iloadN X19.here hx rfl (hb hby at_66) rfl ?_
    show oS p e below T19 m 67 #[.val (.int pI1), .val (.int pI2), .val (.int pI900), .val (.int 3), .val (.ref bR5_1), .unset, .unset] [(.int 3), (.int 4), (.ref bR5_1), (.long pJ913)] _
    refine st20 _ ?_
    refine XS.ladd X20.here hx rfl (hb hby at_70) rfl ?_
    show Steps p.tables e below (T20.setTop (mkF m 71 #[.val (.int pI1), .val (.int pI2), .val (.int pI900), .val (.int 3), .val (.ref bR5_1), .unset, .unset] [(.long (pJ913 + (0 : Int64)))])) _
    rw [hr70]
    refine XS.aload X20.here hx rfl (hb hby at_71) rfl rfl ?_
    refine XS.iconst X20.here hx rfl (hb hby at_73) ?_
    refine XS.iloadN X20.here hx rfl (hb hby at_74) rfl ?_
    refine st21 _ ?_
    refine XS.ladd X21.here hx rfl (hb hby at_78) rfl ?_
    show Steps p.tables e below (T21.setTop (mkF m 79 #[.val (.int pI1), .val (.int pI2), .val (.int pI900), .val (.int 3), .val (.ref bR5_1), .unset, .unset] [(.long (pJ914 + (0 : Int64)))])) _
    rw [hr78]
    refine XS.aload X21.here hx rfl (hb hby at_79) rfl rfl ?_
    show oS p e below T21 m 81 #[.val (.int pI1), .val (.int pI2), .val (.int pI900), .val (.int 3), .val (.ref bR5_1), .unset, .unset] [(.ref bR5_1), (.long pJ915)] _
    refine XS.bipush X21.here hx rfl (hb hby at_81) ?_
    refine XS.iloadN X21.here hx rfl (hb hby at_83) rfl ?_
    refine st22 _ ?_
    refine XS.ladd X22.here hx rfl (hb hby at_87) rfl ?_
    show Steps p.tables e below (T22.setTop (mkF m 88 #[.val (.int pI1), .val (.int pI2), .val (.int pI900), .val (.int 3), .val (.ref bR5_1), .unset, .unset] [(.long (pJ915 + (0 : Int64)))])) _
    rw [hr87]
    refine XS.aload X22.here hx rfl (hb hby at_88) rfl rfl ?_
    refine XS.bipush X22.here hx rfl (hb hby at_90) ?_
    refine XS.iloadN X22.here hx rfl (hb hby at_92) rfl ?_
    refine st23 _ ?_
    show oS p e below T23 m 96 #[.val (.int pI1), .val (.int pI2), .val (.int pI900), .val (.int 3), .val (.ref bR5_1), .unset, .unset] [(.long 0), (.long pJ916)] _
    refine XS.ladd X23.here hx rfl (hb hby at_96) rfl ?_
    show Steps p.tables e below (T23.setTop (mkF m 97 #[.val (.int pI1), .val (.int pI2), .val (.int pI900), .val (.int 3), .val (.ref bR5_1), .unset, .unset] [(.long (pJ916 + (0 : Int64)))])) _
    rw [hr96]
    refine XS.lstore X23.here hx rfl (hb hby at_97) rfl (l' := #[.val (.int pI1), .val (.int pI2), .val (.int pI900), .val (.int 3), .val (.ref bR5_1), .val (.long pJ917), .second]) rfl ?_
    refine XS.lload X23.here hx rfl (hb hby at_99) rfl ?_
    refine XS.iloadN X23.here hx rfl (hb hby at_101) rfl ?_
    refine XS.i2l X23.here hx rfl (hb hby at_102) rfl ?_
    refine XS.lcmp X23.here hx rfl (hb hby at_103) rfl ?_
    refine XS.ifYes X23.here hx rfl (pc0 := 104) (pc' := 109) rfl (hb hby at_104) rfl ((if0 _ _).trans (teq hc104).1) (by decide) (by decide) ?_
    refine XS.aload X23.here hx rfl (hb hby at_109) rfl rfl ?_
    show oS p e below T23 m 111 #[.val (.int pI1), .val (.int pI2), .val (.int pI900), .val (.int 3), .val (.ref bR5_1), .val (.long pJ917), .second] [(.ref bR5_1)] _
    refine XS.iconst X23.here hx rfl (hb hby at_111) ?_
    refine XS.iloadN X23.here hx rfl (hb hby at_112) rfl ?_
    refine XS.iloadN X23.here hx rfl (hb hby at_113) rfl ?_
    refine st24 _ ?_
    refine XS.ifNo X24.here hx rfl (hb hby at_117) rfl ((if0 _ _).trans (feq (by decide : ¬ ((1 : Int32) = (0 : Int32)))).1) ?_
    refine XS.aload X24.here hx rfl (hb hby at_120) rfl rfl ?_
    refine XS.iconst X24.here hx rfl (hb hby at_122) ?_
    refine XS.iloadN X24.here hx rfl (hb hby at_123) rfl ?_
    show oS p e below T24 m 124 #[.val (.int pI1), .val (.int pI2), .val (.int pI900), .val (.int 3), .val (.ref bR5_1), .val (.long pJ917), .second] [(.int 3), (.int 2), (.ref bR5_1)] _
    refine XS.iloadN X24.here hx rfl (hb hby at_124) rfl ?_
    refine st25 _ ?_
    refine XS.ifNo X25.here hx rfl (hb hby at_128) rfl ((if0 _ _).trans (feq (by decide : ¬ ((1 : Int32) = (0 : Int32)))).1) ?_
    refine XS.aload X25.here hx rfl (hb hby at_131) rfl rfl ?_
    refine XS.iconst X25.here hx rfl (hb hby at_133) ?_
    refine XS.iloadN X25.here hx rfl (hb hby at_134) rfl ?_
    refine XS.iloadN X25.here hx rfl (hb hby at_135) rfl ?_
    refine st26 _ ?_
    show oS p e below T26 m 139 #[.val (.int pI1), .val (.int pI2), .val (.int pI900), .val (.int 3), .val (.ref bR5_1), .val (.long pJ917), .second] [(.int 1)] _
    refine XS.ifNo X26.here hx rfl (hb hby at_139) rfl ((if0 _ _).trans (feq (by decide : ¬ ((1 : Int32) = (0 : Int32)))).1) ?_
    refine XS.aload X26.here hx rfl (hb hby at_142) rfl rfl ?_
    refine XS.iconst X26.here hx rfl (hb hby at_144) ?_
    refine XS.iloadN X26.here hx rfl (hb hby at_145) rfl ?_
    refine XS.iloadN X26.here hx rfl (hb hby at_146) rfl ?_
    refine st27 _ ?_
    refine XS.ifNo X27.here hx rfl (hb hby at_150) rfl ((if0 _ _).trans (feq (by decide : ¬ ((1 : Int32) = (0 : Int32)))).1) ?_
    refine XS.aload X27.here hx rfl (hb hby at_153) rfl rfl ?_
    show oS p e below T27 m 155 #[.val (.int pI1), .val (.int pI2), .val (.int pI900), .val (.int 3), .val (.ref bR5_1), .val (.long pJ917), .second] [(.ref bR5_1)] _
    refine XS.iconst X27.here hx rfl (hb hby at_155) ?_
    refine XS.iloadN X27.here hx rfl (hb hby at_156) rfl ?_
    refine XS.iloadN X27.here hx rfl (hb hby at_157) rfl ?_
    refine st28 _ ?_
    refine XS.ifNo X28.here hx rfl (hb hby at_161) rfl ((if0 _ _).trans (feq (by decide : ¬ ((1 : Int32) = (0 : Int32)))).1) ?_
    refine XS.aload X28.here hx rfl (hb hby at_164) rfl rfl ?_
    refine XS.bipush X28.here hx rfl (hb hby at_166) ?_
    refine XS.iloadN X28.here hx rfl (hb hby at_168) rfl ?_
    show oS p e below T28 m 169 #[.val (.int pI1), .val (.int pI2), .val (.int pI900), .val (.int 3), .val (.ref bR5_1), .val (.long pJ917), .second] [(.int 3), (.int 6), (.ref bR5_1)] _
    refine XS.iloadN X28.here hx rfl (hb hby at_169) rfl ?_
    refine st29 _ ?_
    refine XS.ifNo X29.here hx rfl (hb hby at_173) rfl ((if0 _ _).trans (feq (by decide : ¬ ((1 : Int32) = (0 : Int32)))).1) ?_
    refine XS.aload X29.here hx rfl (hb hby at_176) rfl rfl ?_
    refine XS.bipush X29.here hx rfl (hb hby at_178) ?_
    refine XS.iloadN X29.here hx rfl (hb hby at_180) rfl ?_
    refine XS.iloadN X29.here hx rfl (hb hby at_181) rfl ?_
    refine st30 _ ?_
    show oS p e below T30 m 185 #[.val (.int pI1), .val (.int pI2), .val (.int pI900), .val (.int 3), .val (.ref bR5_1), .val (.long pJ917), .second] [(.int 1)] _
    refine XS.ifNo X30.here hx rfl (hb hby at_185) rfl ((if0 _ _).trans (feq (by decide : ¬ ((1 : Int32) = (0 : Int32)))).1) ?_
    refine XS.iconst X30.here hx rfl (hb hby at_188) ?_
    refine XS.goto X30.here hx rfl (pc0 := 189) (pc' := 193) rfl (hb hby at_189) (by decide) (by decide) ?_
    exact retN X30 hx (t := .boolean) Bd.returns (by simp) (hb hby at_193) hr
  · show Qlaw3 Z pI1 pI2 pI900 pR3 pC4 pJ911 pJ912 pJ913 pJ914 pJ915 pJ916 pJ917 h0 n0 _ T30.heap _
    rw [e30]
    exact ⟨rfl, N30⟩
theorem ef_law4 (m : MethodId) (pI1 : Int32) (pI2 : Int32) : entryFrame m #[(.int pI1), (.int pI2)] maxLocals = mkF m 0 #[.val (.int pI1), .val (.int pI2), .unset, .unset, .unset, .unset, .unset] [] := by first | (simp [entryFrame, mkF, argsToLocals, Value.category, maxLocals]; done) | rfl
def Qlaw4 (Z : State) (pI1 : Int32) (pI2 : Int32) (pI900 : Int32) (pR3 : Addr) (pC4 : Cell) (pJ911 : Int64) (pJ912 : Int64) (pJ913 : Int64) (pJ914 : Int64) (pJ915 : Int64) (pJ916 : Int64) (pJ917 : Int64) (h0 : Heap) (n0 : Nat) (v : Option Value) (h : Heap) (L : List Loc) : Prop := v = some (.int 1) ∧ Fr n0 L
set_option maxRecDepth 65536 in
set_option maxHeartbeats 40000000 in
theorem law4 (l : Launch) (Z : State) (a0 : Array Value) (hw : ∀ d ∈ tables_1, d.before a0 Z = true) (ws : List Jvm.Cond) (pI1 : Int32) (pI2 : Int32) (pI900 : Int32) (pR3 : Addr) (pC4 : Cell) (pJ911 : Int64) (pJ912 : Int64) (pJ913 : Int64) (pJ914 : Int64) (pJ915 : Int64) (pJ916 : Int64) (pJ917 : Int64) (h0 : Heap) (n0 : Nat) (Z0 : n0 ≤ h0.size) (S_Integer_IntegerCache_high : Sta Z h0 "java/lang/Integer$IntegerCache" "high" "I" (.int 127)) (S_Integer_IntegerCache_cache : Sta Z h0 "java/lang/Integer$IntegerCache" "cache" "[Ljava/lang/Integer;" (.ref pR3)) (B_pR3 : Bxs Z pR3 pC4 "java/lang/Integer" "I" (256 : Int32) (fun j => .int (j - 128))) (D0 : Old Z n0 h0) (hr3 : (pI1 &&& (2147483647 : Int32)) = pI900) (hc8 : (pI2 &&& (7 : Int32)) = (3 : Int32)) (hr46 : ((((pI900 / (4 : Int32)) + (pI900 % (4 : Int32))).toInt64) + ((pI900 / (4 : Int32)).toInt64)) = pJ911) (hr54 : (pJ911 + ((pI900 / (4 : Int32)).toInt64)) = pJ912) (hr62 : (pJ912 + ((pI900 / (4 : Int32)).toInt64)) = pJ913) (hr70 : (pJ913 + (0 : Int64)) = pJ914) (hr78 : (pJ914 + (0 : Int64)) = pJ915) (hr87 : (pJ915 + (0 : Int64)) = pJ916) (hr96 : (pJ916 + (0 : Int64)) = pJ917) (hc104 : (lcmpW pJ917 (pI900.toInt64)) = (0 : Int32)) (hc114 : ¬ ((0 : Int32) < (lcmpW (((pI900 / (4 : Int32)).toInt64) * ((4 : Int32).toInt64)) (pI900.toInt64)))) (hc114' : (lcmpW (pI900.toInt64) ((((pI900 / (4 : Int32)).toInt64) + (1 : Int64)) * ((4 : Int32).toInt64))) < (0 : Int32)) :
    oM l x code maxLocals ret ws room_1 #[(.int pI1), (.int pI2)] Z h0 (Qlaw4 Z pI1 pI2 pI900 pR3 pC4 pJ911 pJ912 pJ913 pJ914 pJ915 pJ916 pJ917 h0 n0) := by
  refine MetFree.of_bodySF (plainFor_of_name pn_12) hisR ?_
  intro p e s m args below meth c s₁ Bd hml0 hP hK
  obtain ⟨rfl, hZ, hh⟩ := hP
  have hx := Bd.exec
  have hby := Bd.bytes
  have hml : c.maxLocals = 7 := hml0
  have hown : s.vm.findClass "com/example/watchful_junction/watchfuljunction/scenario/ProportionalSpecEqualSharesPinLaw" = some m.cls := findClass_of_methodNamed Bd.named
  have hnm := (name_of_methodNamed Bd.named Bd.method).1
  have X0 : Stand p l e room_1 s m #[(.int pI1), (.int pI2)] below meth c s₁ [] 0 0 := Stand.of_body Bd
  have e0 : s₁.heap = h0 := by rw [← hh, Bd.state]; rfl
  have N0 := Fr.nil n0
  obtain ⟨_, _, ⟨T5, L5, k5, n5⟩, -, X5, ⟨Lc5, hQ5, l5, y5, z5⟩, st5⟩ := Jvm.LawKit.callS X0 hx (y := yN14) hown (mvT hZ (ow hw 1 rfl)) (mvT hZ (ow hw 2 rfl)) (mvT hZ (ow hw 3 rfl)) (mvT hZ (ow hw 4 rfl)) (by decide) (backOf (W := 0) (eqs4 l Z a0 hw [] pI900 pR3 pC4 h0 n0 Z0 S_Integer_IntegerCache_high S_Integer_IntegerCache_cache B_pR3 D0) hZ (ow hw 4 rfl) (ow hw 3 rfl) (by decide) (by decide)) (g := (mkF m 14 #[.val (.int pI1), .val (.int pI2), .val (.int pI900), .val (.int 4), .unset, .unset, .unset] [(.int 4), (.int pI900)])) rfl (by rw [hml]; rfl) (argsL := [(.int pI900), (.int 4)]) (rest := []) (lenOf pd_12 rfl) rfl (Nat.le_refl _) (hb hby at_14) (fun _ _ => ⟨rfl, e0, (by decide : 0 + 5 ≤ _), (by decide : 0 + 12 ≤ _)⟩)
  dsimp only [Pt.U, Pt.locs, Pt.cells, Pt.slots] at X5 l5 y5 z5 st5 hQ5
  subst l5 y5 z5
  obtain ⟨bR5_0, bR5_1, bR5_2, bR5_3, kK5_0, rfl, Nq5, Kq5, sz5_0, sz5_1, x5_0, x5_1, x5_2, x5_3, x5_4, x5_5, x5_6, x5_7⟩ := hQ5
  have N5 := Fr.app N0 Nq5
  obtain ⟨Lh5, X5, N5⟩ := own_hide X5 N5
  have Z7 : n0 ≤ T5.heap.size := (Nat.le_trans Z0 Kq5.1)
  obtain ⟨cq8, kq8, q8a, q8b, q8c⟩ := isOf hZ rfl x5_5
  obtain ⟨_, _, ⟨T8, L8, k8, n8⟩, -, X8, ⟨Lc8, hQ8, l8, y8, z8⟩, st8⟩ := X5.interfaceBack hx (xi := yN23) (y := yN16) hown (mvT hZ (ow hw 73 rfl)) (mvT hZ (ow hw 74 rfl)) (mvT hZ (ow hw 75 rfl)) (mvT hZ (ow hw 76 rfl)) (mvT hZ (ow hw 77 rfl)) (mvT hZ (ow hw 78 rfl)) (mvT hZ (ow hw 79 rfl)) (mvT hZ (ow hw 80 rfl)) (by decide) (backOf (W := 0) (lnS4 l Z a0 hw [] bR5_1 bR5_0 bR5_3 bR5_2 kK5_0 T5.heap n0 Z7 x5_6 x5_4) hZ (ow hw 81 rfl) (ow hw 43 rfl) (by decide) (by decide)) q8a q8b q8c (g := (mkF m 21 #[.val (.int pI1), .val (.int pI2), .val (.int pI900), .val (.int 4), .val (.ref bR5_1), .unset, .unset] [(.ref bR5_1)])) rfl (by rw [hml]; rfl) (Steps.refl _) (argsL := []) (rest := []) (lenOf pd_6 rfl) rfl (Nat.le_refl _) (hb hby at_21) (fun _ _ => ⟨rfl, rfl, (by decide : 5 + 0 ≤ _), (by decide : 12 + 0 ≤ _)⟩)
  dsimp only [Pt.U, Pt.locs, Pt.cells, Pt.slots] at X8 l8 y8 z8 st8 hQ8
  subst l8 y8 z8
  obtain ⟨rfl, Nq8, e8⟩ := hQ8
  have N8 := Fr.app N5 Nq8
  obtain ⟨clq9, Arq9, Akq9, Asq9, Anq9, Ahq9, Agq9⟩ := id x5_4
  have hin10 : ¬ ((0 : Int32) < 0 ∨ clq9.slots.size ≤ ((0 : Int32)).toNatClampNeg) := inb_of Asq9 ⟨by decide, by decide⟩
  have hat11 : clq9.slots[((0 : Int32)).toNatClampNeg]? = some (.ref bR5_3) := Has.at Ahq9 hin10 rfl
  obtain ⟨_, _, ⟨T12, L12, k12, n12⟩, -, X12, ⟨Lc12, hQ12, l12, y12, z12⟩, st12⟩ := Jvm.LawKit.callS X8 hx (y := yN20) hown (mvT hZ (ow hw 82 rfl)) (mvT hZ (ow hw 83 rfl)) (mvT hZ (ow hw 84 rfl)) (mvT hZ (ow hw 85 rfl)) (by decide) (backOf (W := 0) (atN l Z a0 hw [] bR5_1 (0 : Int32) (4 : Int32) bR5_0 clq9 bR5_3 ((pI900 / (4 : Int32)) + (pI900 % (4 : Int32))) T5.heap n0 Z7 x5_6 Arq9 hat11 x5_5 x5_2 x5_3 (by decide) hin10) hZ (ow hw 85 rfl) (ow hw 84 rfl) (by decide) (by decide)) (g := (mkF m 36 #[.val (.int pI1), .val (.int pI2), .val (.int pI900), .val (.int 4), .val (.ref bR5_1), .unset, .unset] [(.int 4), (.int 0), (.ref bR5_1)])) rfl (by rw [hml]; rfl) (argsL := [(.ref bR5_1), (.int 0), (.int 4)]) (rest := []) (lenOf pd_13 rfl) rfl (Nat.le_refl _) (hb hby at_36) (fun _ _ => ⟨rfl, e8, (by decide : 5 + 0 ≤ _), (by decide : 12 + 0 ≤ _)⟩)
  dsimp only [Pt.U, Pt.locs, Pt.cells, Pt.slots] at X12 l12 y12 z12 st12 hQ12
  subst l12 y12 z12
  obtain ⟨rfl, Nq12, e12⟩ := hQ12
  have N12 := Fr.app N8 Nq12
  have hin13 : ¬ ((1 : Int32) < 0 ∨ clq9.slots.size ≤ ((1 : Int32)).toNatClampNeg) := inb_of Asq9 ⟨by decide, by decide⟩
  have hat14 : clq9.slots[((1 : Int32)).toNatClampNeg]? = some (.ref bR5_2) := Has.at Ahq9 hin13 rfl
  obtain ⟨_, _, ⟨T15, L15, k15, n15⟩, -, X15, ⟨Lc15, hQ15, l15, y15, z15⟩, st15⟩ := Jvm.LawKit.callS X12 hx (y := yN20) hown (mvT hZ (ow hw 82 rfl)) (mvT hZ (ow hw 83 rfl)) (mvT hZ (ow hw 84 rfl)) (mvT hZ (ow hw 85 rfl)) (by decide) (backOf (W := 2) (atN l Z a0 hw [] bR5_1 (1 : Int32) (4 : Int32) bR5_0 clq9 bR5_2 (pI900 / (4 : Int32)) T5.heap n0 Z7 x5_6 Arq9 hat14 x5_5 x5_0 x5_1 (by decide) hin13) hZ (ow hw 85 rfl) (ow hw 84 rfl) (by decide) (by decide)) (g := (mkF m 43 #[.val (.int pI1), .val (.int pI2), .val (.int pI900), .val (.int 4), .val (.ref bR5_1), .unset, .unset] [(.int 4), (.int 1), (.ref bR5_1), (.long (((pI900 / (4 : Int32)) + (pI900 % (4 : Int32))).toInt64))])) rfl (by rw [hml]; rfl) (argsL := [(.ref bR5_1), (.int 1), (.int 4)]) (rest := [(.long (((pI900 / (4 : Int32)) + (pI900 % (4 : Int32))).toInt64))]) (lenOf pd_13 rfl) rfl (Nat.le_refl _) (hb hby at_43) (fun _ _ => ⟨rfl, e12, (by decide : 5 + 0 ≤ _), (by decide : 12 + 0 ≤ _)⟩)
  dsimp only [Pt.U, Pt.locs, Pt.cells, Pt.slots] at X15 l15 y15 z15 st15 hQ15
  subst l15 y15 z15
  obtain ⟨rfl, Nq15, e15⟩ := hQ15
  have N15 := Fr.app N12 Nq15
  have hin16 : ¬ ((2 : Int32) < 0 ∨ clq9.slots.size ≤ ((2 : Int32)).toNatClampNeg) := inb_of Asq9 ⟨by decide, by decide⟩
  have hat17 : clq9.slots[((2 : Int32)).toNatClampNeg]? = some (.ref bR5_2) := Has.at Ahq9 hin16 rfl
  obtain ⟨_, _, ⟨T18, L18, k18, n18⟩, -, X18, ⟨Lc18, hQ18, l18, y18, z18⟩, st18⟩ := Jvm.LawKit.callS X15 hx (y := yN20) hown (mvT hZ (ow hw 82 rfl)) (mvT hZ (ow hw 83 rfl)) (mvT hZ (ow hw 84 rfl)) (mvT hZ (ow hw 85 rfl)) (by decide) (backOf (W := 2) (atN l Z a0 hw [] bR5_1 (2 : Int32) (4 : Int32) bR5_0 clq9 bR5_2 (pI900 / (4 : Int32)) T5.heap n0 Z7 x5_6 Arq9 hat17 x5_5 x5_0 x5_1 (by decide) hin16) hZ (ow hw 85 rfl) (ow hw 84 rfl) (by decide) (by decide)) (g := (mkF m 51 #[.val (.int pI1), .val (.int pI2), .val (.int pI900), .val (.int 4), .val (.ref bR5_1), .unset, .unset] [(.int 4), (.int 2), (.ref bR5_1), (.long pJ911)])) rfl (by rw [hml]; rfl) (argsL := [(.ref bR5_1), (.int 2), (.int 4)]) (rest := [(.long pJ911)]) (lenOf pd_13 rfl) rfl (Nat.le_refl _) (hb hby at_51) (fun _ _ => ⟨rfl, e15, (by decide : 5 + 0 ≤ _), (by decide : 12 + 0 ≤ _)⟩)
  dsimp only [Pt.U, Pt.locs, Pt.cells, Pt.slots] at X18 l18 y18 z18 st18 hQ18
  subst l18 y18 z18
  obtain ⟨rfl, Nq18, e18⟩ := hQ18
  have N18 := Fr.app N15 Nq18
  have hin19 : ¬ ((3 : Int32) < 0 ∨ clq9.slots.size ≤ ((3 : Int32)).toNatClampNeg) := inb_of Asq9 ⟨by decide, by decide⟩
  have hat20 : clq9.slots[((3 : Int32)).toNatClampNeg]? = some (.ref bR5_2) := Has.at Ahq9 hin19 rfl
  obtain ⟨_, _, ⟨T21, L21, k21, n21⟩, -, X21, ⟨Lc21, hQ21, l21, y21, z21⟩, st21⟩ := Jvm.LawKit.callS X18 hx (y := yN20) hown (mvT hZ (ow hw 82 rfl)) (mvT hZ (ow hw 83 rfl)) (mvT hZ (ow hw 84 rfl)) (mvT hZ (ow hw 85 rfl)) (by decide) (backOf (W := 2) (atN l Z a0 hw [] bR5_1 (3 : Int32) (4 : Int32) bR5_0 clq9 bR5_2 (pI900 / (4 : Int32)) T5.heap n0 Z7 x5_6 Arq9 hat20 x5_5 x5_0 x5_1 (by decide) hin19) hZ (ow hw 85 rfl) (ow hw 84 rfl) (by decide) (by decide)) (g := (mkF m 59 #[.val (.int pI1), .val (.int pI2), .val (.int pI900), .val (.int 4), .val (.ref bR5_1), .unset, .unset] [(.int 4), (.int 3), (.ref bR5_1), (.long pJ912)])) rfl (by rw [hml]; rfl) (argsL := [(.ref bR5_1), (.int 3), (.int 4)]) (rest := [(.long pJ912)]) (lenOf pd_13 rfl) rfl (Nat.le_refl _) (hb hby at_59) (fun _ _ => ⟨rfl, e18, (by decide : 5 + 0 ≤ _), (by decide : 12 + 0 ≤ _)⟩)
  dsimp only [Pt.U, Pt.locs, Pt.cells, Pt.slots] at X21 l21 y21 z21 st21 hQ21
  subst l21 y21 z21
  obtain ⟨rfl, Nq21, e21⟩ := hQ21
  have N21 := Fr.app N18 Nq21
  obtain ⟨_, _, ⟨T22, L22, k22, n22⟩, -, X22, ⟨Lc22, hQ22, l22, y22, z22⟩, st22⟩ := Jvm.LawKit.callS X21 hx (y := yN20) hown (mvT hZ (ow hw 82 rfl)) (mvT hZ (ow hw 83 rfl)) (mvT hZ (ow hw 84 rfl)) (mvT hZ (ow hw 85 rfl)) (by decide) (backOf (W := 2) (atE l Z a0 hw [] bR5_1 (4 : Int32) (4 : Int32) T5.heap n0 Z7 (by decide)) hZ (ow hw 85 rfl) (ow hw 84 rfl) (by decide) (by decide)) (g := (mkF m 67 #[.val (.int pI1), .val (.int pI2), .val (.int pI900), .val (.int 4), .val (.ref bR5_1), .unset, .unset] [(.int 4), (.int 4), (.ref bR5_1), (.long pJ913)])) rfl (by rw [hml]; rfl) (argsL := [(.ref bR5_1), (.int 4), (.int 4)]) (rest := [(.long pJ913)]) (lenOf pd_13 rfl) rfl (Nat.le_refl _) (hb hby at_67) (fun _ _ => ⟨rfl, e21, (by decide : 5 + 0 ≤ _), (by decide : 12 + 0 ≤ _)⟩)
  dsimp only [Pt.U, Pt.locs, Pt.cells, Pt.slots] at X22 l22 y22 z22 st22 hQ22
  subst l22 y22 z22
  obtain ⟨rfl, Nq22, e22⟩ := hQ22
  have N22 := Fr.app N21 Nq22
  obtain ⟨_, _, ⟨T23, L23, k23, n23⟩, -, X23, ⟨Lc23, hQ23, l23, y23, z23⟩, st23⟩ := Jvm.LawKit.callS X22 hx (y := yN20) hown (mvT hZ (ow hw 82 rfl)) (mvT hZ (ow hw 83 rfl)) (mvT hZ (ow hw 84 rfl)) (mvT hZ (ow hw 85 rfl)) (by decide) (backOf (W := 2) (atE l Z a0 hw [] bR5_1 (5 : Int32) (4 : Int32) T5.heap n0 Z7 (by decide)) hZ (ow hw 85 rfl) (ow hw 84 rfl) (by decide) (by decide)) (g := (mkF m 75 #[.val (.int pI1), .val (.int pI2), .val (.int pI900), .val (.int 4), .val (.ref bR5_1), .unset, .unset] [(.int 4), (.int 5), (.ref bR5_1), (.long pJ914)])) rfl (by rw [hml]; rfl) (argsL := [(.ref bR5_1), (.int 5), (.int 4)]) (rest := [(.long pJ914)]) (lenOf pd_13 rfl) rfl (Nat.le_refl _) (hb hby at_75) (fun _ _ => ⟨rfl, e22, (by decide : 5 + 0 ≤ _), (by decide : 12 + 0 ≤ _)⟩)
  dsimp only [Pt.U, Pt.locs, Pt.cells, Pt.slots] at X23 l23 y23 z23 st23 hQ23
  subst l23 y23 z23
  obtain ⟨rfl, Nq23, e23⟩ := hQ23
  have N23 := Fr.app N22 Nq23
  obtain ⟨_, _, ⟨T24, L24, k24, n24⟩, -, X24, ⟨Lc24, hQ24, l24, y24, z24⟩, st24⟩ := Jvm.LawKit.callS X23 hx (y := yN20) hown (mvT hZ (ow hw 82 rfl)) (mvT hZ (ow hw 83 rfl)) (mvT hZ (ow hw 84 rfl)) (mvT hZ (ow hw 85 rfl)) (by decide) (backOf (W := 2) (atE l Z a0 hw [] bR5_1 (6 : Int32) (4 : Int32) T5.heap n0 Z7 (by decide)) hZ (ow hw 85 rfl) (ow hw 84 rfl) (by decide) (by decide)) (g := (mkF m 84 #[.val (.int pI1), .val (.int pI2), .val (.int pI900), .val (.int 4), .val (.ref bR5_1), .unset, .unset] [(.int 4), (.int 6), (.ref bR5_1), (.long pJ915)])) rfl (by rw [hml]; rfl) (argsL := [(.ref bR5_1), (.int 6), (.int 4)]) (rest := [(.long pJ915)]) (lenOf pd_13 rfl) rfl (Nat.le_refl _) (hb hby at_84) (fun _ _ => ⟨rfl, e23, (by decide : 5 + 0 ≤ _), (by decide : 12 + 0 ≤ _)⟩)
  dsimp only [Pt.U, Pt.locs, Pt.cells, Pt.slots] at X24 l24 y24 z24 st24 hQ24
  subst l24 y24 z24
  obtain ⟨rfl, Nq24, e24⟩ := hQ24
  have N24 := Fr.app N23 Nq24
  obtain ⟨_, _, ⟨T25, L25, k25, n25⟩, -, X25, ⟨Lc25, hQ25, l25, y25, z25⟩, st25⟩ := Jvm.LawKit.callS X24 hx (y := yN20) hown (mvT hZ (ow hw 82 rfl)) (mvT hZ (ow hw 83 rfl)) (mvT hZ (ow hw 84 rfl)) (mvT hZ (ow hw 85 rfl)) (by decide) (backOf (W := 2) (atE l Z a0 hw [] bR5_1 (7 : Int32) (4 : Int32) T5.heap n0 Z7 (by decide)) hZ (ow hw 85 rfl) (ow hw 84 rfl) (by decide) (by decide)) (g := (mkF m 93 #[.val (.int pI1), .val (.int pI2), .val (.int pI900), .val (.int 4), .val (.ref bR5_1), .unset, .unset] [(.int 4), (.int 7), (.ref bR5_1), (.long pJ916)])) rfl (by rw [hml]; rfl) (argsL := [(.ref bR5_1), (.int 7), (.int 4)]) (rest := [(.long pJ916)]) (lenOf pd_13 rfl) rfl (Nat.le_refl _) (hb hby at_93) (fun _ _ => ⟨rfl, e24, (by decide : 5 + 0 ≤ _), (by decide : 12 + 0 ≤ _)⟩)
  dsimp only [Pt.U, Pt.locs, Pt.cells, Pt.slots] at X25 l25 y25 z25 st25 hQ25
  subst l25 y25 z25
  obtain ⟨rfl, Nq25, e25⟩ := hQ25
  have N25 := Fr.app N24 Nq25
  obtain ⟨_, _, ⟨T26, L26, k26, n26⟩, -, X26, ⟨Lc26, hQ26, l26, y26, z26⟩, st26⟩ := Jvm.LawKit.callS X25 hx (y := yN22) hown (mvT hZ (ow hw 100 rfl)) (mvT hZ (ow hw 101 rfl)) (mvT hZ (ow hw 84 rfl)) (mvT hZ (ow hw 102 rfl)) (by decide) (backOf (W := 0) (laN l Z a0 hw [] bR5_1 (1 : Int32) (4 : Int32) pI900 bR5_0 clq9 bR5_2 (pI900 / (4 : Int32)) T5.heap n0 Z7 x5_6 Arq9 hat14 x5_5 x5_0 x5_1 (by decide) hin13 hc114 hc114') hZ (ow hw 102 rfl) (ow hw 84 rfl) (by decide) (by decide)) (g := (mkF m 114 #[.val (.int pI1), .val (.int pI2), .val (.int pI900), .val (.int 4), .val (.ref bR5_1), .val (.long pJ917), .second] [(.int pI900), (.int 4), (.int 1), (.ref bR5_1)])) rfl (by rw [hml]; rfl) (argsL := [(.ref bR5_1), (.int 1), (.int 4), (.int pI900)]) (rest := []) (lenOf pd_14 rfl) rfl (Nat.le_refl _) (hb hby at_114) (fun _ _ => ⟨rfl, e25, (by decide : 5 + 0 ≤ _), (by decide : 12 + 0 ≤ _)⟩)
  dsimp only [Pt.U, Pt.locs, Pt.cells, Pt.slots] at X26 l26 y26 z26 st26 hQ26
  subst l26 y26 z26
  obtain ⟨rfl, Nq26, e26⟩ := hQ26
  have N26 := Fr.app N25 Nq26
  obtain ⟨_, _, ⟨T27, L27, k27, n27⟩, -, X27, ⟨Lc27, hQ27, l27, y27, z27⟩, st27⟩ := Jvm.LawKit.callS X26 hx (y := yN22) hown (mvT hZ (ow hw 100 rfl)) (mvT hZ (ow hw 101 rfl)) (mvT hZ (ow hw 84 rfl)) (mvT hZ (ow hw 102 rfl)) (by decide) (backOf (W := 0) (laN l Z a0 hw [] bR5_1 (2 : Int32) (4 : Int32) pI900 bR5_0 clq9 bR5_2 (pI900 / (4 : Int32)) T5.heap n0 Z7 x5_6 Arq9 hat17 x5_5 x5_0 x5_1 (by decide) hin16 hc114 hc114') hZ (ow hw 102 rfl) (ow hw 84 rfl) (by decide) (by decide)) (g := (mkF m 125 #[.val (.int pI1), .val (.int pI2), .val (.int pI900), .val (.int 4), .val (.ref bR5_1), .val (.long pJ917), .second] [(.int pI900), (.int 4), (.int 2), (.ref bR5_1)])) rfl (by rw [hml]; rfl) (argsL := [(.ref bR5_1), (.int 2), (.int 4), (.int pI900)]) (rest := []) (lenOf pd_14 rfl) rfl (Nat.le_refl _) (hb hby at_125) (fun _ _ => ⟨rfl, e26, (by decide : 5 + 0 ≤ _), (by decide : 12 + 0 ≤ _)⟩)
  dsimp only [Pt.U, Pt.locs, Pt.cells, Pt.slots] at X27 l27 y27 z27 st27 hQ27
  subst l27 y27 z27
  obtain ⟨rfl, Nq27, e27⟩ := hQ27
  have N27 := Fr.app N26 Nq27
  obtain ⟨_, _, ⟨T28, L28, k28, n28⟩, -, X28, ⟨Lc28, hQ28, l28, y28, z28⟩, st28⟩ := Jvm.LawKit.callS X27 hx (y := yN22) hown (mvT hZ (ow hw 100 rfl)) (mvT hZ (ow hw 101 rfl)) (mvT hZ (ow hw 84 rfl)) (mvT hZ (ow hw 102 rfl)) (by decide) (backOf (W := 0) (laN l Z a0 hw [] bR5_1 (3 : Int32) (4 : Int32) pI900 bR5_0 clq9 bR5_2 (pI900 / (4 : Int32)) T5.heap n0 Z7 x5_6 Arq9 hat20 x5_5 x5_0 x5_1 (by decide) hin19 hc114 hc114') hZ (ow hw 102 rfl) (ow hw 84 rfl) (by decide) (by decide)) (g := (mkF m 136 #[.val (.int pI1), .val (.int pI2), .val (.int pI900), .val (.int 4), .val (.ref bR5_1), .val (.long pJ917), .second] [(.int pI900), (.int 4), (.int 3), (.ref bR5_1)])) rfl (by rw [hml]; rfl) (argsL := [(.ref bR5_1), (.int 3), (.int 4), (.int pI900)]) (rest := []) (lenOf pd_14 rfl) rfl (Nat.le_refl _) (hb hby at_136) (fun _ _ => ⟨rfl, e27, (by decide : 5 + 0 ≤ _), (by decide : 12 + 0 ≤ _)⟩)
  dsimp only [Pt.U, Pt.locs, Pt.cells, Pt.slots] at X28 l28 y28 z28 st28 hQ28
  subst l28 y28 z28
  obtain ⟨rfl, Nq28, e28⟩ := hQ28
  have N28 := Fr.app N27 Nq28
  obtain ⟨_, _, ⟨T29, L29, k29, n29⟩, -, X29, ⟨Lc29, hQ29, l29, y29, z29⟩, st29⟩ := Jvm.LawKit.callS X28 hx (y := yN22) hown (mvT hZ (ow hw 100 rfl)) (mvT hZ (ow hw 101 rfl)) (mvT hZ (ow hw 84 rfl)) (mvT hZ (ow hw 102 rfl)) (by decide) (backOf (W := 0) (laE l Z a0 hw [] bR5_1 (4 : Int32) (4 : Int32) pI900 T5.heap n0 Z7 (by decide)) hZ (ow hw 102 rfl) (ow hw 84 rfl) (by decide) (by decide)) (g := (mkF m 147 #[.val (.int pI1), .val (.int pI2), .val (.int pI900), .val (.int 4), .val (.ref bR5_1), .val (.long pJ917), .second] [(.int pI900), (.int 4), (.int 4), (.ref bR5_1)])) rfl (by rw [hml]; rfl) (argsL := [(.ref bR5_1), (.int 4), (.int 4), (.int pI900)]) (rest := []) (lenOf pd_14 rfl) rfl (Nat.le_refl _) (hb hby at_147) (fun _ _ => ⟨rfl, e28, (by decide : 5 + 0 ≤ _), (by decide : 12 + 0 ≤ _)⟩)
  dsimp only [Pt.U, Pt.locs, Pt.cells, Pt.slots] at X29 l29 y29 z29 st29 hQ29
  subst l29 y29 z29
  obtain ⟨rfl, Nq29, e29⟩ := hQ29
  have N29 := Fr.app N28 Nq29
  obtain ⟨_, _, ⟨T30, L30, k30, n30⟩, -, X30, ⟨Lc30, hQ30, l30, y30, z30⟩, st30⟩ := Jvm.LawKit.callS X29 hx (y := yN22) hown (mvT hZ (ow hw 100 rfl)) (mvT hZ (ow hw 101 rfl)) (mvT hZ (ow hw 84 rfl)) (mvT hZ (ow hw 102 rfl)) (by decide) (backOf (W := 0) (laE l Z a0 hw [] bR5_1 (5 : Int32) (4 : Int32) pI900 T5.heap n0 Z7 (by decide)) hZ (ow hw 102 rfl) (ow hw 84 rfl) (by decide) (by decide)) (g := (mkF m 158 #[.val (.int pI1), .val (.int pI2), .val (.int pI900), .val (.int 4), .val (.ref bR5_1), .val (.long pJ917), .second] [(.int pI900), (.int 4), (.int 5), (.ref bR5_1)])) rfl (by rw [hml]; rfl) (argsL := [(.ref bR5_1), (.int 5), (.int 4), (.int pI900)]) (rest := []) (lenOf pd_14 rfl) rfl (Nat.le_refl _) (hb hby at_158) (fun _ _ => ⟨rfl, e29, (by decide : 5 + 0 ≤ _), (by decide : 12 + 0 ≤ _)⟩)
  dsimp only [Pt.U, Pt.locs, Pt.cells, Pt.slots] at X30 l30 y30 z30 st30 hQ30
  subst l30 y30 z30
  obtain ⟨rfl, Nq30, e30⟩ := hQ30
  have N30 := Fr.app N29 Nq30
  obtain ⟨_, _, ⟨T31, L31, k31, n31⟩, -, X31, ⟨Lc31, hQ31, l31, y31, z31⟩, st31⟩ := Jvm.LawKit.callS X30 hx (y := yN22) hown (mvT hZ (ow hw 100 rfl)) (mvT hZ (ow hw 101 rfl)) (mvT hZ (ow hw 84 rfl)) (mvT hZ (ow hw 102 rfl)) (by decide) (backOf (W := 0) (laE l Z a0 hw [] bR5_1 (6 : Int32) (4 : Int32) pI900 T5.heap n0 Z7 (by decide)) hZ (ow hw 102 rfl) (ow hw 84 rfl) (by decide) (by decide)) (g := (mkF m 170 #[.val (.int pI1), .val (.int pI2), .val (.int pI900), .val (.int 4), .val (.ref bR5_1), .val (.long pJ917), .second] [(.int pI900), (.int 4), (.int 6), (.ref bR5_1)])) rfl (by rw [hml]; rfl) (argsL := [(.ref bR5_1), (.int 6), (.int 4), (.int pI900)]) (rest := []) (lenOf pd_14 rfl) rfl (Nat.le_refl _) (hb hby at_170) (fun _ _ => ⟨rfl, e30, (by decide : 5 + 0 ≤ _), (by decide : 12 + 0 ≤ _)⟩)
  dsimp only [Pt.U, Pt.locs, Pt.cells, Pt.slots] at X31 l31 y31 z31 st31 hQ31
  subst l31 y31 z31
  obtain ⟨rfl, Nq31, e31⟩ := hQ31
  have N31 := Fr.app N30 Nq31
  obtain ⟨_, _, ⟨T32, L32, k32, n32⟩, -, X32, ⟨Lc32, hQ32, l32, y32, z32⟩, st32⟩ := Jvm.LawKit.callS X31 hx (y := yN22) hown (mvT hZ (ow hw 100 rfl)) (mvT hZ (ow hw 101 rfl)) (mvT hZ (ow hw 84 rfl)) (mvT hZ (ow hw 102 rfl)) (by decide) (backOf (W := 0) (laE l Z a0 hw [] bR5_1 (7 : Int32) (4 : Int32) pI900 T5.heap n0 Z7 (by decide)) hZ (ow hw 102 rfl) (ow hw 84 rfl) (by decide) (by decide)) (g := (mkF m 182 #[.val (.int pI1), .val (.int pI2), .val (.int pI900), .val (.int 4), .val (.ref bR5_1), .val (.long pJ917), .second] [(.int pI900), (.int 4), (.int 7), (.ref bR5_1)])) rfl (by rw [hml]; rfl) (argsL := [(.ref bR5_1), (.int 7), (.int 4), (.int pI900)]) (rest := []) (lenOf pd_14 rfl) rfl (Nat.le_refl _) (hb hby at_182) (fun _ _ => ⟨rfl, e31, (by decide : 5 + 0 ≤ _), (by decide : 12 + 0 ≤ _)⟩)
  dsimp only [Pt.U, Pt.locs, Pt.cells, Pt.slots] at X32 l32 y32 z32 st32 hQ32
  subst l32 y32 z32
  obtain ⟨rfl, Nq32, e32⟩ := hQ32
  have N32 := Fr.app N31 Nq32
  obtain ⟨fs, hr, hrun, hended, hW, hsame⟩ := X32.leave (v := some (.int 1)) (fun h => by rw [Bd.returns] at h; cases h)
  refine ⟨_, _, castTop (ef_law4 m pI1 pI2) ?_, hrun, hended, _, _, rfl, ?_, ⟨_, rfl⟩, hW, hsame.mono (by decide) (by decide)⟩
  · show oS p e below s₁ m 0 #[.val (.int pI1), .val (.int pI2), .unset, .unset, .unset, .unset, .unset] [] _
    refine XS.iloadN X0.here hx rfl (hb hby at_0) rfl ?_
    refine X0.ldcInt hx hown (mvT hZ (ow hw 0 rfl)) (g := (mkF m 1 #[.val (.int pI1), .val (.int pI2), .unset, .unset, .unset, .unset, .unset] [(.int pI1)])) rfl (hb hby at_1) _ ?_
    refine XS.iand X0.here hx rfl (hb hby at_3) rfl ?_
    show Steps p.tables e below (s₁.setTop (mkF m 4 #[.val (.int pI1), .val (.int pI2), .unset, .unset, .unset, .unset, .unset] [(.int (pI1 &&& (2147483647 : Int32)))])) _
    rw [hr3]
    refine XS.istoreN X0.here hx rfl (hb hby at_4) rfl (l' := #[.val (.int pI1), .val (.int pI2), .val (.int pI900), .unset, .unset, .unset, .unset]) rfl ?_
    refine XS.iloadN X0.here hx rfl (hb hby at_5) rfl ?_
    refine XS.bipush X0.here hx rfl (hb hby at_6) ?_
    refine XS.iand X0.here hx rfl (hb hby at_8) rfl ?_
    show Steps p.tables e below (s₁.setTop (mkF m 9 #[.val (.int pI1), .val (.int pI2), .val (.int pI900), .unset, .unset, .unset, .unset] [(.int (pI2 &&& (7 : Int32)))])) _
    rw [hc8]
    refine XS.iconst X0.here hx rfl (hb hby at_9) ?_
    show oS p e below s₁ m 10 #[.val (.int pI1), .val (.int pI2), .val (.int pI900), .unset, .unset, .unset, .unset] [(.int 1), (.int 3)] _
    refine XS.iadd X0.here hx rfl (hb hby at_10) rfl ?_
    refine XS.istoreN X0.here hx rfl (hb hby at_11) rfl (l' := #[.val (.int pI1), .val (.int pI2), .val (.int pI900), .val (.int 4), .unset, .unset, .unset]) rfl ?_
    refine XS.iloadN X0.here hx rfl (hb hby at_12) rfl ?_
    refine XS.iloadN X0.here hx rfl (hb hby at_13) rfl ?_
    refine st5 _ ?_
    refine XS.astore X5.here hx rfl (hb hby at_17) rfl rfl (l' := #[.val (.int pI1), .val (.int pI2), .val (.int pI900), .val (.int 4), .val (.ref bR5_1), .unset, .unset]) rfl ?_
    refine XS.aload X5.here hx rfl (hb hby at_19) rfl rfl ?_
    refine st8.trans ?_
    show oS p e below T8 m 26 #[.val (.int pI1), .val (.int pI2), .val (.int pI900), .val (.int 4), .val (.ref bR5_1), .unset, .unset] [(.int 4)] _
    refine XS.iloadN X8.here hx rfl (hb hby at_26) rfl ?_
    refine XS.icmpYes X8.here hx rfl (pc0 := 27) (pc' := 32) rfl (hb hby at_27) rfl (teq (by decide : (4 : Int32) = (4 : Int32))).1 (by decide) (by decide) ?_
    refine XS.aload X8.here hx rfl (hb hby at_32) rfl rfl ?_
    refine XS.iconst X8.here hx rfl (hb hby at_34) ?_
    refine XS.iloadN X8.here hx rfl (hb hby at_35) rfl ?_
    refine st12 _ ?_
    refine XS.aload X12.here hx rfl (hb hby at_39) rfl rfl ?_
    refine XS.iconst X12.here hx rfl (hb hby at_41) ?_
    show oS p e below T12 m 42 #[.val (.int pI1), .val (.int pI2), .val (.int pI900), .val (.int 4), .val (.ref bR5_1), .unset, .unset] [(.int 1), (.ref bR5_1), (.long (((pI900 / (4 : Int32)) + (pI900 % (4 : Int32))).toInt64))] _
    refine XS.iloadN X12.here hx rfl (hb hby at_42) rfl ?_
    refine st15 _ ?_
    refine XS.ladd X15.here hx rfl (hb hby at_46) rfl ?_
    show Steps p.tables e below (T15.setTop (mkF m 47 #[.val (.int pI1), .val (.int pI2), .val (.int pI900), .val (.int 4), .val (.ref bR5_1), .unset, .unset] [(.long ((((pI900 / (4 : Int32)) + (pI900 % (4 : Int32))).toInt64) + ((pI900 / (4 : Int32)).toInt64)))])) _
    rw [hr46]
    refine XS.aload X15.here hx rfl (hb hby at_47) rfl rfl ?_
    refine XS.iconst X15.here hx rfl (hb hby at_49) ?_
    refine XS.iloadN X15.here hx rfl (hb hby at_50) rfl ?_
    refine st18 _ ?_
    refine XS.ladd X18.here hx rfl (hb hby at_54) rfl ?_
    show Steps p.tables e below (T18.setTop (mkF m 55 #[.val (.int pI1), .val (.int pI2), .val (.int pI900), .val (.int 4), .val (.ref bR5_1), .unset, .unset] [(.long (pJ911 + ((pI900 / (4 : Int32)).toInt64)))])) _
    rw [hr54]
    show oS p e below T18 m 55 #[.val (.int pI1), .val (.int pI2), .val (.int pI900), .val (.int 4), .val (.ref bR5_1), .unset, .unset] [(.long pJ912)] _
    refine XS.aload X18.here hx rfl (hb hby at_55) rfl rfl ?_
    refine XS.iconst X18.here hx rfl (hb hby at_57) ?_
    refine XS.iloadN X18.here hx rfl (hb hby at_58) rfl ?_
    refine st21 _ ?_
    refine XS.ladd X21.here hx rfl (hb hby at_62) rfl ?_
    show Steps p.tables e below (T21.setTop (mkF m 63 #[.val (.int pI1), .val (.int pI2), .val (.int pI900), .val (.int 4), .val (.ref bR5_1), .unset, .unset] [(.long (pJ912 + ((pI900 / (4 : Int32)).toInt64)))])) _
    rw [hr62]
    refine XS.aload X21.here hx rfl (hb hby at_63) rfl rfl ?_
    refine XS.iconst X21.here hx rfl (hb hby at_65) ?_
    refine XS.iloadN X21.here hx rfl (hb hby at_66) rfl ?_
    show oS p e below T21 m 67 #[.val (.int pI1), .val (.int pI2), .val (.int pI900), .val (.int 4), .val (.ref bR5_1), .unset, .unset] [(.int 4), (.int 4), (.ref bR5_1), (.long pJ913)] _
    refine st22 _ ?_
    refine XS.ladd X22.here hx rfl (hb hby at_70) rfl ?_
    show Steps p.tables e below (T22.setTop (mkF m 71 #[.val (.int pI1), .val (.int pI2), .val (.int pI900), .val (.int 4), .val (.ref bR5_1), .unset, .unset] [(.long (pJ913 + (0 : Int64)))])) _
    rw [hr70]
    refine XS.aload X22.here hx rfl (hb hby at_71) rfl rfl ?_
    refine XS.iconst X22.here hx rfl (hb hby at_73) ?_
    refine XS.iloadN X22.here hx rfl (hb hby at_74) rfl ?_
    refine st23 _ ?_
    refine XS.ladd X23.here hx rfl (hb hby at_78) rfl ?_
    show Steps p.tables e below (T23.setTop (mkF m 79 #[.val (.int pI1), .val (.int pI2), .val (.int pI900), .val (.int 4), .val (.ref bR5_1), .unset, .unset] [(.long (pJ914 + (0 : Int64)))])) _
    rw [hr78]
    refine XS.aload X23.here hx rfl (hb hby at_79) rfl rfl ?_
    show oS p e below T23 m 81 #[.val (.int pI1), .val (.int pI2), .val (.int pI900), .val (.int 4), .val (.ref bR5_1), .unset, .unset] [(.ref bR5_1), (.long pJ915)] _
    refine XS.bipush X23.here hx rfl (hb hby at_81) ?_
    refine XS.iloadN X23.here hx rfl (hb hby at_83) rfl ?_
    refine st24 _ ?_
    refine XS.ladd X24.here hx rfl (hb hby at_87) rfl ?_
    show Steps p.tables e below (T24.setTop (mkF m 88 #[.val (.int pI1), .val (.int pI2), .val (.int pI900), .val (.int 4), .val (.ref bR5_1), .unset, .unset] [(.long (pJ915 + (0 : Int64)))])) _
    rw [hr87]
    refine XS.aload X24.here hx rfl (hb hby at_88) rfl rfl ?_
    refine XS.bipush X24.here hx rfl (hb hby at_90) ?_
    refine XS.iloadN X24.here hx rfl (hb hby at_92) rfl ?_
    refine st25 _ ?_
    show oS p e below T25 m 96 #[.val (.int pI1), .val (.int pI2), .val (.int pI900), .val (.int 4), .val (.ref bR5_1), .unset, .unset] [(.long 0), (.long pJ916)] _
    refine XS.ladd X25.here hx rfl (hb hby at_96) rfl ?_
    show Steps p.tables e below (T25.setTop (mkF m 97 #[.val (.int pI1), .val (.int pI2), .val (.int pI900), .val (.int 4), .val (.ref bR5_1), .unset, .unset] [(.long (pJ916 + (0 : Int64)))])) _
    rw [hr96]
    refine XS.lstore X25.here hx rfl (hb hby at_97) rfl (l' := #[.val (.int pI1), .val (.int pI2), .val (.int pI900), .val (.int 4), .val (.ref bR5_1), .val (.long pJ917), .second]) rfl ?_
    refine XS.lload X25.here hx rfl (hb hby at_99) rfl ?_
    refine XS.iloadN X25.here hx rfl (hb hby at_101) rfl ?_
    refine XS.i2l X25.here hx rfl (hb hby at_102) rfl ?_
    refine XS.lcmp X25.here hx rfl (hb hby at_103) rfl ?_
    refine XS.ifYes X25.here hx rfl (pc0 := 104) (pc' := 109) rfl (hb hby at_104) rfl ((if0 _ _).trans (teq hc104).1) (by decide) (by decide) ?_
    refine XS.aload X25.here hx rfl (hb hby at_109) rfl rfl ?_
    show oS p e below T25 m 111 #[.val (.int pI1), .val (.int pI2), .val (.int pI900), .val (.int 4), .val (.ref bR5_1), .val (.long pJ917), .second] [(.ref bR5_1)] _
    refine XS.iconst X25.here hx rfl (hb hby at_111) ?_
    refine XS.iloadN X25.here hx rfl (hb hby at_112) rfl ?_
    refine XS.iloadN X25.here hx rfl (hb hby at_113) rfl ?_
    refine st26 _ ?_
    refine XS.ifNo X26.here hx rfl (hb hby at_117) rfl ((if0 _ _).trans (feq (by decide : ¬ ((1 : Int32) = (0 : Int32)))).1) ?_
    refine XS.aload X26.here hx rfl (hb hby at_120) rfl rfl ?_
    refine XS.iconst X26.here hx rfl (hb hby at_122) ?_
    refine XS.iloadN X26.here hx rfl (hb hby at_123) rfl ?_
    show oS p e below T26 m 124 #[.val (.int pI1), .val (.int pI2), .val (.int pI900), .val (.int 4), .val (.ref bR5_1), .val (.long pJ917), .second] [(.int 4), (.int 2), (.ref bR5_1)] _
    refine XS.iloadN X26.here hx rfl (hb hby at_124) rfl ?_
    refine st27 _ ?_
    refine XS.ifNo X27.here hx rfl (hb hby at_128) rfl ((if0 _ _).trans (feq (by decide : ¬ ((1 : Int32) = (0 : Int32)))).1) ?_
    refine XS.aload X27.here hx rfl (hb hby at_131) rfl rfl ?_
    refine XS.iconst X27.here hx rfl (hb hby at_133) ?_
    refine XS.iloadN X27.here hx rfl (hb hby at_134) rfl ?_
    refine XS.iloadN X27.here hx rfl (hb hby at_135) rfl ?_
    refine st28 _ ?_
    show oS p e below T28 m 139 #[.val (.int pI1), .val (.int pI2), .val (.int pI900), .val (.int 4), .val (.ref bR5_1), .val (.long pJ917), .second] [(.int 1)] _
    refine XS.ifNo X28.here hx rfl (hb hby at_139) rfl ((if0 _ _).trans (feq (by decide : ¬ ((1 : Int32) = (0 : Int32)))).1) ?_
    refine XS.aload X28.here hx rfl (hb hby at_142) rfl rfl ?_
    refine XS.iconst X28.here hx rfl (hb hby at_144) ?_
    refine XS.iloadN X28.here hx rfl (hb hby at_145) rfl ?_
    refine XS.iloadN X28.here hx rfl (hb hby at_146) rfl ?_
    refine st29 _ ?_
    refine XS.ifNo X29.here hx rfl (hb hby at_150) rfl ((if0 _ _).trans (feq (by decide : ¬ ((1 : Int32) = (0 : Int32)))).1) ?_
    refine XS.aload X29.here hx rfl (hb hby at_153) rfl rfl ?_
    show oS p e below T29 m 155 #[.val (.int pI1), .val (.int pI2), .val (.int pI900), .val (.int 4), .val (.ref bR5_1), .val (.long pJ917), .second] [(.ref bR5_1)] _
    refine XS.iconst X29.here hx rfl (hb hby at_155) ?_
    refine XS.iloadN X29.here hx rfl (hb hby at_156) rfl ?_
    refine XS.iloadN X29.here hx rfl (hb hby at_157) rfl ?_
    refine st30 _ ?_
    refine XS.ifNo X30.here hx rfl (hb hby at_161) rfl ((if0 _ _).trans (feq (by decide : ¬ ((1 : Int32) = (0 : Int32)))).1) ?_
    refine XS.aload X30.here hx rfl (hb hby at_164) rfl rfl ?_
    refine XS.bipush X30.here hx rfl (hb hby at_166) ?_
    refine XS.iloadN X30.here hx rfl (hb hby at_168) rfl ?_
    show oS p e below T30 m 169 #[.val (.int pI1), .val (.int pI2), .val (.int pI900), .val (.int 4), .val (.ref bR5_1), .val (.long pJ917), .second] [(.int 4), (.int 6), (.ref bR5_1)] _
    refine XS.iloadN X30.here hx rfl (hb hby at_169) rfl ?_
    refine st31 _ ?_
    refine XS.ifNo X31.here hx rfl (hb hby at_173) rfl ((if0 _ _).trans (feq (by decide : ¬ ((1 : Int32) = (0 : Int32)))).1) ?_
    refine XS.aload X31.here hx rfl (hb hby at_176) rfl rfl ?_
    refine XS.bipush X31.here hx rfl (hb hby at_178) ?_
    refine XS.iloadN X31.here hx rfl (hb hby at_180) rfl ?_
    refine XS.iloadN X31.here hx rfl (hb hby at_181) rfl ?_
    refine st32 _ ?_
    show oS p e below T32 m 185 #[.val (.int pI1), .val (.int pI2), .val (.int pI900), .val (.int 4), .val (.ref bR5_1), .val (.long pJ917), .second] [(.int 1)] _
    refine XS.ifNo X32.here hx rfl (hb hby at_185) rfl ((if0 _ _).trans (feq (by decide : ¬ ((1 : Int32) = (0 : Int32)))).1) ?_
    refine XS.iconst X32.here hx rfl (hb hby at_188) ?_
    refine XS.goto X32.here hx rfl (pc0 := 189) (pc' := 193) rfl (hb hby at_189) (by decide) (by decide) ?_
    exact retN X32 hx (t := .boolean) Bd.returns (by simp) (hb hby at_193) hr
  · show Qlaw4 Z pI1 pI2 pI900 pR3 pC4 pJ911 pJ912 pJ913 pJ914 pJ915 pJ916 pJ917 h0 n0 _ T32.heap _
    rw [e32]
    exact ⟨rfl, N32⟩
theorem ef_law5 (m : MethodId) (pI1 : Int32) (pI2 : Int32) : entryFrame m #[(.int pI1), (.int pI2)] maxLocals = mkF m 0 #[.val (.int pI1), .val (.int pI2), .unset, .unset, .unset, .unset, .unset] [] := by first | (simp [entryFrame, mkF, argsToLocals, Value.category, maxLocals]; done) | rfl
def Qlaw5 (Z : State) (pI1 : Int32) (pI2 : Int32) (pI900 : Int32) (pR3 : Addr) (pC4 : Cell) (pJ911 : Int64) (pJ912 : Int64) (pJ913 : Int64) (pJ914 : Int64) (pJ915 : Int64) (pJ916 : Int64) (pJ917 : Int64) (h0 : Heap) (n0 : Nat) (v : Option Value) (h : Heap) (L : List Loc) : Prop := v = some (.int 1) ∧ Fr n0 L
set_option maxRecDepth 65536 in
set_option maxHeartbeats 40000000 in
theorem law5 (l : Launch) (Z : State) (a0 : Array Value) (hw : ∀ d ∈ tables_1, d.before a0 Z = true) (ws : List Jvm.Cond) (pI1 : Int32) (pI2 : Int32) (pI900 : Int32) (pR3 : Addr) (pC4 : Cell) (pJ911 : Int64) (pJ912 : Int64) (pJ913 : Int64) (pJ914 : Int64) (pJ915 : Int64) (pJ916 : Int64) (pJ917 : Int64) (h0 : Heap) (n0 : Nat) (Z0 : n0 ≤ h0.size) (S_Integer_IntegerCache_high : Sta Z h0 "java/lang/Integer$IntegerCache" "high" "I" (.int 127)) (S_Integer_IntegerCache_cache : Sta Z h0 "java/lang/Integer$IntegerCache" "cache" "[Ljava/lang/Integer;" (.ref pR3)) (B_pR3 : Bxs Z pR3 pC4 "java/lang/Integer" "I" (256 : Int32) (fun j => .int (j - 128))) (D0 : Old Z n0 h0) (hr3 : (pI1 &&& (2147483647 : Int32)) = pI900) (hc8 : (pI2 &&& (7 : Int32)) = (4 : Int32)) (hr46 : ((((pI900 / (5 : Int32)) + (pI900 % (5 : Int32))).toInt64) + ((pI900 / (5 : Int32)).toInt64)) = pJ911) (hr54 : (pJ911 + ((pI900 / (5 : Int32)).toInt64)) = pJ912) (hr62 : (pJ912 + ((pI900 / (5 : Int32)).toInt64)) = pJ913) (hr70 : (pJ913 + ((pI900 / (5 : Int32)).toInt64)) = pJ914) (hr78 : (pJ914 + (0 : Int64)) = pJ915) (hr87 : (pJ915 + (0 : Int64)) = pJ916) (hr96 : (pJ916 + (0 : Int64)) = pJ917) (hc104 : (lcmpW pJ917 (pI900.toInt64)) = (0 : Int32)) (hc114 : ¬ ((0 : Int32) < (lcmpW (((pI900 / (5 : Int32)).toInt64) * ((5 : Int32).toInt64)) (pI900.toInt64)))) (hc114' : (lcmpW (pI900.toInt64) ((((pI900 / (5 : Int32)).toInt64) + (1 : Int64)) * ((5 : Int32).toInt64))) < (0 : Int32)) :
    oM l x code maxLocals ret ws room_1 #[(.int pI1), (.int pI2)] Z h0 (Qlaw5 Z pI1 pI2 pI900 pR3 pC4 pJ911 pJ912 pJ913 pJ914 pJ915 pJ916 pJ917 h0 n0) := by
  refine MetFree.of_bodySF (plainFor_of_name pn_12) hisR ?_
  intro p e s m args below meth c s₁ Bd hml0 hP hK
  obtain ⟨rfl, hZ, hh⟩ := hP
  have hx := Bd.exec
  have hby := Bd.bytes
  have hml : c.maxLocals = 7 := hml0
  have hown : s.vm.findClass "com/example/watchful_junction/watchfuljunction/scenario/ProportionalSpecEqualSharesPinLaw" = some m.cls := findClass_of_methodNamed Bd.named
  have hnm := (name_of_methodNamed Bd.named Bd.method).1
  have X0 : Stand p l e room_1 s m #[(.int pI1), (.int pI2)] below meth c s₁ [] 0 0 := Stand.of_body Bd
  have e0 : s₁.heap = h0 := by rw [← hh, Bd.state]; rfl
  have N0 := Fr.nil n0
  obtain ⟨_, _, ⟨T5, L5, k5, n5⟩, -, X5, ⟨Lc5, hQ5, l5, y5, z5⟩, st5⟩ := Jvm.LawKit.callS X0 hx (y := yN14) hown (mvT hZ (ow hw 1 rfl)) (mvT hZ (ow hw 2 rfl)) (mvT hZ (ow hw 3 rfl)) (mvT hZ (ow hw 4 rfl)) (by decide) (backOf (W := 0) (eqs5 l Z a0 hw [] pI900 pR3 pC4 h0 n0 Z0 S_Integer_IntegerCache_high S_Integer_IntegerCache_cache B_pR3 D0) hZ (ow hw 4 rfl) (ow hw 3 rfl) (by decide) (by decide)) (g := (mkF m 14 #[.val (.int pI1), .val (.int pI2), .val (.int pI900), .val (.int 5), .unset, .unset, .unset] [(.int 5), (.int pI900)])) rfl (by rw [hml]; rfl) (argsL := [(.int pI900), (.int 5)]) (rest := []) (lenOf pd_12 rfl) rfl (Nat.le_refl _) (hb hby at_14) (fun _ _ => ⟨rfl, e0, (by decide : 0 + 5 ≤ _), (by decide : 0 + 14 ≤ _)⟩)
  dsimp only [Pt.U, Pt.locs, Pt.cells, Pt.slots] at X5 l5 y5 z5 st5 hQ5
  subst l5 y5 z5
  obtain ⟨bR5_0, bR5_1, bR5_2, bR5_3, kK5_0, rfl, Nq5, Kq5, sz5_0, sz5_1, x5_0, x5_1, x5_2, x5_3, x5_4, x5_5, x5_6, x5_7⟩ := hQ5
  have N5 := Fr.app N0 Nq5
  obtain ⟨Lh5, X5, N5⟩ := own_hide X5 N5
  have Z7 : n0 ≤ T5.heap.size := (Nat.le_trans Z0 Kq5.1)
  obtain ⟨cq8, kq8, q8a, q8b, q8c⟩ := isOf hZ rfl x5_5
  obtain ⟨_, _, ⟨T8, L8, k8, n8⟩, -, X8, ⟨Lc8, hQ8, l8, y8, z8⟩, st8⟩ := X5.interfaceBack hx (xi := yN23) (y := yN16) hown (mvT hZ (ow hw 73 rfl)) (mvT hZ (ow hw 74 rfl)) (mvT hZ (ow hw 75 rfl)) (mvT hZ (ow hw 76 rfl)) (mvT hZ (ow hw 77 rfl)) (mvT hZ (ow hw 78 rfl)) (mvT hZ (ow hw 79 rfl)) (mvT hZ (ow hw 80 rfl)) (by decide) (backOf (W := 0) (lnS5 l Z a0 hw [] bR5_1 bR5_0 bR5_3 bR5_2 kK5_0 T5.heap n0 Z7 x5_6 x5_4) hZ (ow hw 81 rfl) (ow hw 43 rfl) (by decide) (by decide)) q8a q8b q8c (g := (mkF m 21 #[.val (.int pI1), .val (.int pI2), .val (.int pI900), .val (.int 5), .val (.ref bR5_1), .unset, .unset] [(.ref bR5_1)])) rfl (by rw [hml]; rfl) (Steps.refl _) (argsL := []) (rest := []) (lenOf pd_6 rfl) rfl (Nat.le_refl _) (hb hby at_21) (fun _ _ => ⟨rfl, rfl, (by decide : 5 + 0 ≤ _), (by decide : 14 + 0 ≤ _)⟩)
  dsimp only [Pt.U, Pt.locs, Pt.cells, Pt.slots] at X8 l8 y8 z8 st8 hQ8
  subst l8 y8 z8
  obtain ⟨rfl, Nq8, e8⟩ := hQ8
  have N8 := Fr.app N5 Nq8
  obtain ⟨clq9, Arq9, Akq9, Asq9, Anq9, Ahq9, Agq9⟩ := id x5_4
  have hin10 : ¬ ((0 : Int32) < 0 ∨ clq9.slots.size ≤ ((0 : Int32)).toNatClampNeg) := inb_of Asq9 ⟨by decide, by decide⟩
  have hat11 : clq9.slots[((0 : Int32)).toNatClampNeg]? = some (.ref bR5_3) := Has.at Ahq9 hin10 rfl
  obtain ⟨_, _, ⟨T12, L12, k12, n12⟩, -, X12, ⟨Lc12, hQ12, l12, y12, z12⟩, st12⟩ := Jvm.LawKit.callS X8 hx (y := yN20) hown (mvT hZ (ow hw 82 rfl)) (mvT hZ (ow hw 83 rfl)) (mvT hZ (ow hw 84 rfl)) (mvT hZ (ow hw 85 rfl)) (by decide) (backOf (W := 0) (atN l Z a0 hw [] bR5_1 (0 : Int32) (5 : Int32) bR5_0 clq9 bR5_3 ((pI900 / (5 : Int32)) + (pI900 % (5 : Int32))) T5.heap n0 Z7 x5_6 Arq9 hat11 x5_5 x5_2 x5_3 (by decide) hin10) hZ (ow hw 85 rfl) (ow hw 84 rfl) (by decide) (by decide)) (g := (mkF m 36 #[.val (.int pI1), .val (.int pI2), .val (.int pI900), .val (.int 5), .val (.ref bR5_1), .unset, .unset] [(.int 5), (.int 0), (.ref bR5_1)])) rfl (by rw [hml]; rfl) (argsL := [(.ref bR5_1), (.int 0), (.int 5)]) (rest := []) (lenOf pd_13 rfl) rfl (Nat.le_refl _) (hb hby at_36) (fun _ _ => ⟨rfl, e8, (by decide : 5 + 0 ≤ _), (by decide : 14 + 0 ≤ _)⟩)
  dsimp only [Pt.U, Pt.locs, Pt.cells, Pt.slots] at X12 l12 y12 z12 st12 hQ12
  subst l12 y12 z12
  obtain ⟨rfl, Nq12, e12⟩ := hQ12
  have N12 := Fr.app N8 Nq12
  have hin13 : ¬ ((1 : Int32) < 0 ∨ clq9.slots.size ≤ ((1 : Int32)).toNatClampNeg) := inb_of Asq9 ⟨by decide, by decide⟩
  have hat14 : clq9.slots[((1 : Int32)).toNatClampNeg]? = some (.ref bR5_2) := Has.at Ahq9 hin13 rfl
  obtain ⟨_, _, ⟨T15, L15, k15, n15⟩, -, X15, ⟨Lc15, hQ15, l15, y15, z15⟩, st15⟩ := Jvm.LawKit.callS X12 hx (y := yN20) hown (mvT hZ (ow hw 82 rfl)) (mvT hZ (ow hw 83 rfl)) (mvT hZ (ow hw 84 rfl)) (mvT hZ (ow hw 85 rfl)) (by decide) (backOf (W := 2) (atN l Z a0 hw [] bR5_1 (1 : Int32) (5 : Int32) bR5_0 clq9 bR5_2 (pI900 / (5 : Int32)) T5.heap n0 Z7 x5_6 Arq9 hat14 x5_5 x5_0 x5_1 (by decide) hin13) hZ (ow hw 85 rfl) (ow hw 84 rfl) (by decide) (by decide)) (g := (mkF m 43 #[.val (.int pI1), .val (.int pI2), .val (.int pI900), .val (.int 5), .val (.ref bR5_1), .unset, .unset] [(.int 5), (.int 1), (.ref bR5_1), (.long (((pI900 / (5 : Int32)) + (pI900 % (5 : Int32))).toInt64))])) rfl (by rw [hml]; rfl) (argsL := [(.ref bR5_1), (.int 1), (.int 5)]) (rest := [(.long (((pI900 / (5 : Int32)) + (pI900 % (5 : Int32))).toInt64))]) (lenOf pd_13 rfl) rfl (Nat.le_refl _) (hb hby at_43) (fun _ _ => ⟨rfl, e12, (by decide : 5 + 0 ≤ _), (by decide : 14 + 0 ≤ _)⟩)
  dsimp only [Pt.U, Pt.locs, Pt.cells, Pt.slots] at X15 l15 y15 z15 st15 hQ15
  subst l15 y15 z15
  obtain ⟨rfl, Nq15, e15⟩ := hQ15
  have N15 := Fr.app N12 Nq15
  have hin16 : ¬ ((2 : Int32) < 0 ∨ clq9.slots.size ≤ ((2 : Int32)).toNatClampNeg) := inb_of Asq9 ⟨by decide, by decide⟩
  have hat17 : clq9.slots[((2 : Int32)).toNatClampNeg]? = some (.ref bR5_2) := Has.at Ahq9 hin16 rfl
  obtain ⟨_, _, ⟨T18, L18, k18, n18⟩, -, X18, ⟨Lc18, hQ18, l18, y18, z18⟩, st18⟩ := Jvm.LawKit.callS X15 hx (y := yN20) hown (mvT hZ (ow hw 82 rfl)) (mvT hZ (ow hw 83 rfl)) (mvT hZ (ow hw 84 rfl)) (mvT hZ (ow hw 85 rfl)) (by decide) (backOf (W := 2) (atN l Z a0 hw [] bR5_1 (2 : Int32) (5 : Int32) bR5_0 clq9 bR5_2 (pI900 / (5 : Int32)) T5.heap n0 Z7 x5_6 Arq9 hat17 x5_5 x5_0 x5_1 (by decide) hin16) hZ (ow hw 85 rfl) (ow hw 84 rfl) (by decide) (by decide)) (g := (mkF m 51 #[.val (.int pI1), .val (.int pI2), .val (.int pI900), .val (.int 5), .val (.ref bR5_1), .unset, .unset] [(.int 5), (.int 2), (.ref bR5_1), (.long pJ911)])) rfl (by rw [hml]; rfl) (argsL := [(.ref bR5_1), (.int 2), (.int 5)]) (rest := [(.long pJ911)]) (lenOf pd_13 rfl) rfl (Nat.le_refl _) (hb hby at_51) (fun _ _ => ⟨rfl, e15, (by decide : 5 + 0 ≤ _), (by decide : 14 + 0 ≤ _)⟩)
  dsimp only [Pt.U, Pt.locs, Pt.cells, Pt.slots] at X18 l18 y18 z18 st18 hQ18
  subst l18 y18 z18
  obtain ⟨rfl, Nq18, e18⟩ := hQ18
  have N18 := Fr.app N15 Nq18
  have hin19 : ¬ ((3 : Int32) < 0 ∨ clq9.slots.size ≤ ((3 : Int32)).toNatClampNeg) := inb_of Asq9 ⟨by decide, by decide⟩
  have hat20 : clq9.slots[((3 : Int32)).toNatClampNeg]? = some (.ref bR5_2) := Has.at Ahq9 hin19 rfl
  obtain ⟨_, _, ⟨T21, L21, k21, n21⟩, -, X21, ⟨Lc21, hQ21, l21, y21, z21⟩, st21⟩ := Jvm.LawKit.callS X18 hx (y := yN20) hown (mvT hZ (ow hw 82 rfl)) (mvT hZ (ow hw 83 rfl)) (mvT hZ (ow hw 84 rfl)) (mvT hZ (ow hw 85 rfl)) (by decide) (backOf (W := 2) (atN l Z a0 hw [] bR5_1 (3 : Int32) (5 : Int32) bR5_0 clq9 bR5_2 (pI900 / (5 : Int32)) T5.heap n0 Z7 x5_6 Arq9 hat20 x5_5 x5_0 x5_1 (by decide) hin19) hZ (ow hw 85 rfl) (ow hw 84 rfl) (by decide) (by decide)) (g := (mkF m 59 #[.val (.int pI1), .val (.int pI2), .val (.int pI900), .val (.int 5), .val (.ref bR5_1), .unset, .unset] [(.int 5), (.int 3), (.ref bR5_1), (.long pJ912)])) rfl (by rw [hml]; rfl) (argsL := [(.ref bR5_1), (.int 3), (.int 5)]) (rest := [(.long pJ912)]) (lenOf pd_13 rfl) rfl (Nat.le_refl _) (hb hby at_59) (fun _ _ => ⟨rfl, e18, (by decide : 5 + 0 ≤ _), (by decide : 14 + 0 ≤ _)⟩)
  dsimp only [Pt.U, Pt.locs, Pt.cells, Pt.slots] at X21 l21 y21 z21 st21 hQ21
  subst l21 y21 z21
  obtain ⟨rfl, Nq21, e21⟩ := hQ21
  have N21 := Fr.app N18 Nq21
  have hin22 : ¬ ((4 : Int32) < 0 ∨ clq9.slots.size ≤ ((4 : Int32)).toNatClampNeg) := inb_of Asq9 ⟨by decide, by decide⟩
  have hat23 : clq9.slots[((4 : Int32)).toNatClampNeg]? = some (.ref bR5_2) := Has.at Ahq9 hin22 rfl
  obtain ⟨_, _, ⟨T24, L24, k24, n24⟩, -, X24, ⟨Lc24, hQ24, l24, y24, z24⟩, st24⟩ := Jvm.LawKit.callS X21 hx (y := yN20) hown (mvT hZ (ow hw 82 rfl)) (mvT hZ (ow hw 83 rfl)) (mvT hZ (ow hw 84 rfl)) (mvT hZ (ow hw 85 rfl)) (by decide) (backOf (W := 2) (atN l Z a0 hw [] bR5_1 (4 : Int32) (5 : Int32) bR5_0 clq9 bR5_2 (pI900 / (5 : Int32)) T5.heap n0 Z7 x5_6 Arq9 hat23 x5_5 x5_0 x5_1 (by decide) hin22) hZ (ow hw 85 rfl) (ow hw 84 rfl) (by decide) (by decide)) (g := (mkF m 67 #[.val (.int pI1), .val (.int pI2), .val (.int pI900), .val (.int 5), .val (.ref bR5_1), .unset, .unset] [(.int 5), (.int 4), (.ref bR5_1), (.long pJ913)])) rfl (by rw [hml]; rfl) (argsL := [(.ref bR5_1), (.int 4), (.int 5)]) (rest := [(.long pJ913)]) (lenOf pd_13 rfl) rfl (Nat.le_refl _) (hb hby at_67) (fun _ _ => ⟨rfl, e21, (by decide : 5 + 0 ≤ _), (by decide : 14 + 0 ≤ _)⟩)
  dsimp only [Pt.U, Pt.locs, Pt.cells, Pt.slots] at X24 l24 y24 z24 st24 hQ24
  subst l24 y24 z24
  obtain ⟨rfl, Nq24, e24⟩ := hQ24
  have N24 := Fr.app N21 Nq24
  obtain ⟨_, _, ⟨T25, L25, k25, n25⟩, -, X25, ⟨Lc25, hQ25, l25, y25, z25⟩, st25⟩ := Jvm.LawKit.callS X24 hx (y := yN20) hown (mvT hZ (ow hw 82 rfl)) (mvT hZ (ow hw 83 rfl)) (mvT hZ (ow hw 84 rfl)) (mvT hZ (ow hw 85 rfl)) (by decide) (backOf (W := 2) (atE l Z a0 hw [] bR5_1 (5 : Int32) (5 : Int32) T5.heap n0 Z7 (by decide)) hZ (ow hw 85 rfl) (ow hw 84 rfl) (by decide) (by decide)) (g := (mkF m 75 #[.val (.int pI1), .val (.int pI2), .val (.int pI900), .val (.int 5), .val (.ref bR5_1), .unset, .unset] [(.int 5), (.int 5), (.ref bR5_1), (.long pJ914)])) rfl (by rw [hml]; rfl) (argsL := [(.ref bR5_1), (.int 5), (.int 5)]) (rest := [(.long pJ914)]) (lenOf pd_13 rfl) rfl (Nat.le_refl _) (hb hby at_75) (fun _ _ => ⟨rfl, e24, (by decide : 5 + 0 ≤ _), (by decide : 14 + 0 ≤ _)⟩)
  dsimp only [Pt.U, Pt.locs, Pt.cells, Pt.slots] at X25 l25 y25 z25 st25 hQ25
  subst l25 y25 z25
  obtain ⟨rfl, Nq25, e25⟩ := hQ25
  have N25 := Fr.app N24 Nq25
  obtain ⟨_, _, ⟨T26, L26, k26, n26⟩, -, X26, ⟨Lc26, hQ26, l26, y26, z26⟩, st26⟩ := Jvm.LawKit.callS X25 hx (y := yN20) hown (mvT hZ (ow hw 82 rfl)) (mvT hZ (ow hw 83 rfl)) (mvT hZ (ow hw 84 rfl)) (mvT hZ (ow hw 85 rfl)) (by decide) (backOf (W := 2) (atE l Z a0 hw [] bR5_1 (6 : Int32) (5 : Int32) T5.heap n0 Z7 (by decide)) hZ (ow hw 85 rfl) (ow hw 84 rfl) (by decide) (by decide)) (g := (mkF m 84 #[.val (.int pI1), .val (.int pI2), .val (.int pI900), .val (.int 5), .val (.ref bR5_1), .unset, .unset] [(.int 5), (.int 6), (.ref bR5_1), (.long pJ915)])) rfl (by rw [hml]; rfl) (argsL := [(.ref bR5_1), (.int 6), (.int 5)]) (rest := [(.long pJ915)]) (lenOf pd_13 rfl) rfl (Nat.le_refl _) (hb hby at_84) (fun _ _ => ⟨rfl, e25, (by decide : 5 + 0 ≤ _), (by decide : 14 + 0 ≤ _)⟩)
  dsimp only [Pt.U, Pt.locs, Pt.cells, Pt.slots] at X26 l26 y26 z26 st26 hQ26
  subst l26 y26 z26
  obtain ⟨rfl, Nq26, e26⟩ := hQ26
  have N26 := Fr.app N25 Nq26
  obtain ⟨_, _, ⟨T27, L27, k27, n27⟩, -, X27, ⟨Lc27, hQ27, l27, y27, z27⟩, st27⟩ := Jvm.LawKit.callS X26 hx (y := yN20) hown (mvT hZ (ow hw 82 rfl)) (mvT hZ (ow hw 83 rfl)) (mvT hZ (ow hw 84 rfl)) (mvT hZ (ow hw 85 rfl)) (by decide) (backOf (W := 2) (atE l Z a0 hw [] bR5_1 (7 : Int32) (5 : Int32) T5.heap n0 Z7 (by decide)) hZ (ow hw 85 rfl) (ow hw 84 rfl) (by decide) (by decide)) (g := (mkF m 93 #[.val (.int pI1), .val (.int pI2), .val (.int pI900), .val (.int 5), .val (.ref bR5_1), .unset, .unset] [(.int 5), (.int 7), (.ref bR5_1), (.long pJ916)])) rfl (by rw [hml]; rfl) (argsL := [(.ref bR5_1), (.int 7), (.int 5)]) (rest := [(.long pJ916)]) (lenOf pd_13 rfl) rfl (Nat.le_refl _) (hb hby at_93) (fun _ _ => ⟨rfl, e26, (by decide : 5 + 0 ≤ _), (by decide : 14 + 0 ≤ _)⟩)
  dsimp only [Pt.U, Pt.locs, Pt.cells, Pt.slots] at X27 l27 y27 z27 st27 hQ27
  subst l27 y27 z27
  obtain ⟨rfl, Nq27, e27⟩ := hQ27
  have N27 := Fr.app N26 Nq27
  obtain ⟨_, _, ⟨T28, L28, k28, n28⟩, -, X28, ⟨Lc28, hQ28, l28, y28, z28⟩, st28⟩ := Jvm.LawKit.callS X27 hx (y := yN22) hown (mvT hZ (ow hw 100 rfl)) (mvT hZ (ow hw 101 rfl)) (mvT hZ (ow hw 84 rfl)) (mvT hZ (ow hw 102 rfl)) (by decide) (backOf (W := 0) (laN l Z a0 hw [] bR5_1 (1 : Int32) (5 : Int32) pI900 bR5_0 clq9 bR5_2 (pI900 / (5 : Int32)) T5.heap n0 Z7 x5_6 Arq9 hat14 x5_5 x5_0 x5_1 (by decide) hin13 hc114 hc114') hZ (ow hw 102 rfl) (ow hw 84 rfl) (by decide) (by decide)) (g := (mkF m 114 #[.val (.int pI1), .val (.int pI2), .val (.int pI900), .val (.int 5), .val (.ref bR5_1), .val (.long pJ917), .second] [(.int pI900), (.int 5), (.int 1), (.ref bR5_1)])) rfl (by rw [hml]; rfl) (argsL := [(.ref bR5_1), (.int 1), (.int 5), (.int pI900)]) (rest := []) (lenOf pd_14 rfl) rfl (Nat.le_refl _) (hb hby at_114) (fun _ _ => ⟨rfl, e27, (by decide : 5 + 0 ≤ _), (by decide : 14 + 0 ≤ _)⟩)
  dsimp only [Pt.U, Pt.locs, Pt.cells, Pt.slots] at X28 l28 y28 z28 st28 hQ28
  subst l28 y28 z28
  obtain ⟨rfl, Nq28, e28⟩ := hQ28
  have N28 := Fr.app N27 Nq28
  obtain ⟨_, _, ⟨T29, L29, k29, n29⟩, -, X29, ⟨Lc29, hQ29, l29, y29, z29⟩, st29⟩ := Jvm.LawKit.callS X28 hx (y := yN22) hown (mvT hZ (ow hw 100 rfl)) (mvT hZ (ow hw 101 rfl)) (mvT hZ (ow hw 84 rfl)) (mvT hZ (ow hw 102 rfl)) (by decide) (backOf (W := 0) (laN l Z a0 hw [] bR5_1 (2 : Int32) (5 : Int32) pI900 bR5_0 clq9 bR5_2 (pI900 / (5 : Int32)) T5.heap n0 Z7 x5_6 Arq9 hat17 x5_5 x5_0 x5_1 (by decide) hin16 hc114 hc114') hZ (ow hw 102 rfl) (ow hw 84 rfl) (by decide) (by decide)) (g := (mkF m 125 #[.val (.int pI1), .val (.int pI2), .val (.int pI900), .val (.int 5), .val (.ref bR5_1), .val (.long pJ917), .second] [(.int pI900), (.int 5), (.int 2), (.ref bR5_1)])) rfl (by rw [hml]; rfl) (argsL := [(.ref bR5_1), (.int 2), (.int 5), (.int pI900)]) (rest := []) (lenOf pd_14 rfl) rfl (Nat.le_refl _) (hb hby at_125) (fun _ _ => ⟨rfl, e28, (by decide : 5 + 0 ≤ _), (by decide : 14 + 0 ≤ _)⟩)
  dsimp only [Pt.U, Pt.locs, Pt.cells, Pt.slots] at X29 l29 y29 z29 st29 hQ29
  subst l29 y29 z29
  obtain ⟨rfl, Nq29, e29⟩ := hQ29
  have N29 := Fr.app N28 Nq29
  obtain ⟨_, _, ⟨T30, L30, k30, n30⟩, -, X30, ⟨Lc30, hQ30, l30, y30, z30⟩, st30⟩ := Jvm.LawKit.callS X29 hx (y := yN22) hown (mvT hZ (ow hw 100 rfl)) (mvT hZ (ow hw 101 rfl)) (mvT hZ (ow hw 84 rfl)) (mvT hZ (ow hw 102 rfl)) (by decide) (backOf (W := 0) (laN l Z a0 hw [] bR5_1 (3 : Int32) (5 : Int32) pI900 bR5_0 clq9 bR5_2 (pI900 / (5 : Int32)) T5.heap n0 Z7 x5_6 Arq9 hat20 x5_5 x5_0 x5_1 (by decide) hin19 hc114 hc114') hZ (ow hw 102 rfl) (ow hw 84 rfl) (by decide) (by decide)) (g := (mkF m 136 #[.val (.int pI1), .val (.int pI2), .val (.int pI900), .val (.int 5), .val (.ref bR5_1), .val (.long pJ917), .second] [(.int pI900), (.int 5), (.int 3), (.ref bR5_1)])) rfl (by rw [hml]; rfl) (argsL := [(.ref bR5_1), (.int 3), (.int 5), (.int pI900)]) (rest := []) (lenOf pd_14 rfl) rfl (Nat.le_refl _) (hb hby at_136) (fun _ _ => ⟨rfl, e29, (by decide : 5 + 0 ≤ _), (by decide : 14 + 0 ≤ _)⟩)
  dsimp only [Pt.U, Pt.locs, Pt.cells, Pt.slots] at X30 l30 y30 z30 st30 hQ30
  subst l30 y30 z30
  obtain ⟨rfl, Nq30, e30⟩ := hQ30
  have N30 := Fr.app N29 Nq30
  obtain ⟨_, _, ⟨T31, L31, k31, n31⟩, -, X31, ⟨Lc31, hQ31, l31, y31, z31⟩, st31⟩ := Jvm.LawKit.callS X30 hx (y := yN22) hown (mvT hZ (ow hw 100 rfl)) (mvT hZ (ow hw 101 rfl)) (mvT hZ (ow hw 84 rfl)) (mvT hZ (ow hw 102 rfl)) (by decide) (backOf (W := 0) (laN l Z a0 hw [] bR5_1 (4 : Int32) (5 : Int32) pI900 bR5_0 clq9 bR5_2 (pI900 / (5 : Int32)) T5.heap n0 Z7 x5_6 Arq9 hat23 x5_5 x5_0 x5_1 (by decide) hin22 hc114 hc114') hZ (ow hw 102 rfl) (ow hw 84 rfl) (by decide) (by decide)) (g := (mkF m 147 #[.val (.int pI1), .val (.int pI2), .val (.int pI900), .val (.int 5), .val (.ref bR5_1), .val (.long pJ917), .second] [(.int pI900), (.int 5), (.int 4), (.ref bR5_1)])) rfl (by rw [hml]; rfl) (argsL := [(.ref bR5_1), (.int 4), (.int 5), (.int pI900)]) (rest := []) (lenOf pd_14 rfl) rfl (Nat.le_refl _) (hb hby at_147) (fun _ _ => ⟨rfl, e30, (by decide : 5 + 0 ≤ _), (by decide : 14 + 0 ≤ _)⟩)
  dsimp only [Pt.U, Pt.locs, Pt.cells, Pt.slots] at X31 l31 y31 z31 st31 hQ31
  subst l31 y31 z31
  obtain ⟨rfl, Nq31, e31⟩ := hQ31
  have N31 := Fr.app N30 Nq31
  obtain ⟨_, _, ⟨T32, L32, k32, n32⟩, -, X32, ⟨Lc32, hQ32, l32, y32, z32⟩, st32⟩ := Jvm.LawKit.callS X31 hx (y := yN22) hown (mvT hZ (ow hw 100 rfl)) (mvT hZ (ow hw 101 rfl)) (mvT hZ (ow hw 84 rfl)) (mvT hZ (ow hw 102 rfl)) (by decide) (backOf (W := 0) (laE l Z a0 hw [] bR5_1 (5 : Int32) (5 : Int32) pI900 T5.heap n0 Z7 (by decide)) hZ (ow hw 102 rfl) (ow hw 84 rfl) (by decide) (by decide)) (g := (mkF m 158 #[.val (.int pI1), .val (.int pI2), .val (.int pI900), .val (.int 5), .val (.ref bR5_1), .val (.long pJ917), .second] [(.int pI900), (.int 5), (.int 5), (.ref bR5_1)])) rfl (by rw [hml]; rfl) (argsL := [(.ref bR5_1), (.int 5), (.int 5), (.int pI900)]) (rest := []) (lenOf pd_14 rfl) rfl (Nat.le_refl _) (hb hby at_158) (fun _ _ => ⟨rfl, e31, (by decide : 5 + 0 ≤ _), (by decide : 14 + 0 ≤ _)⟩)
  dsimp only [Pt.U, Pt.locs, Pt.cells, Pt.slots] at X32 l32 y32 z32 st32 hQ32
  subst l32 y32 z32
  obtain ⟨rfl, Nq32, e32⟩ := hQ32
  have N32 := Fr.app N31 Nq32
  obtain ⟨_, _, ⟨T33, L33, k33, n33⟩, -, X33, ⟨Lc33, hQ33, l33, y33, z33⟩, st33⟩ := Jvm.LawKit.callS X32 hx (y := yN22) hown (mvT hZ (ow hw 100 rfl)) (mvT hZ (ow hw 101 rfl)) (mvT hZ (ow hw 84 rfl)) (mvT hZ (ow hw 102 rfl)) (by decide) (backOf (W := 0) (laE l Z a0 hw [] bR5_1 (6 : Int32) (5 : Int32) pI900 T5.heap n0 Z7 (by decide)) hZ (ow hw 102 rfl) (ow hw 84 rfl) (by decide) (by decide)) (g := (mkF m 170 #[.val (.int pI1), .val (.int pI2), .val (.int pI900), .val (.int 5), .val (.ref bR5_1), .val (.long pJ917), .second] [(.int pI900), (.int 5), (.int 6), (.ref bR5_1)])) rfl (by rw [hml]; rfl) (argsL := [(.ref bR5_1), (.int 6), (.int 5), (.int pI900)]) (rest := []) (lenOf pd_14 rfl) rfl (Nat.le_refl _) (hb hby at_170) (fun _ _ => ⟨rfl, e32, (by decide : 5 + 0 ≤ _), (by decide : 14 + 0 ≤ _)⟩)
  dsimp only [Pt.U, Pt.locs, Pt.cells, Pt.slots] at X33 l33 y33 z33 st33 hQ33
  subst l33 y33 z33
  obtain ⟨rfl, Nq33, e33⟩ := hQ33
  have N33 := Fr.app N32 Nq33
  obtain ⟨_, _, ⟨T34, L34, k34, n34⟩, -, X34, ⟨Lc34, hQ34, l34, y34, z34⟩, st34⟩ := Jvm.LawKit.callS X33 hx (y := yN22) hown (mvT hZ (ow hw 100 rfl)) (mvT hZ (ow hw 101 rfl)) (mvT hZ (ow hw 84 rfl)) (mvT hZ (ow hw 102 rfl)) (by decide) (backOf (W := 0) (laE l Z a0 hw [] bR5_1 (7 : Int32) (5 : Int32) pI900 T5.heap n0 Z7 (by decide)) hZ (ow hw 102 rfl) (ow hw 84 rfl) (by decide) (by decide)) (g := (mkF m 182 #[.val (.int pI1), .val (.int pI2), .val (.int pI900), .val (.int 5), .val (.ref bR5_1), .val (.long pJ917), .second] [(.int pI900), (.int 5), (.int 7), (.ref bR5_1)])) rfl (by rw [hml]; rfl) (argsL := [(.ref bR5_1), (.int 7), (.int 5), (.int pI900)]) (rest := []) (lenOf pd_14 rfl) rfl (Nat.le_refl _) (hb hby at_182) (fun _ _ => ⟨rfl, e33, (by decide : 5 + 0 ≤ _), (by decide : 14 + 0 ≤ _)⟩)
  dsimp only [Pt.U, Pt.locs, Pt.cells, Pt.slots] at X34 l34 y34 z34 st34 hQ34
  subst l34 y34 z34
  obtain ⟨rfl, Nq34, e34⟩ := hQ34
  have N34 := Fr.app N33 Nq34
  obtain ⟨fs, hr, hrun, hended, hW, hsame⟩ := X34.leave (v := some (.int 1)) (fun h => by rw [Bd.returns] at h; cases h)
  refine ⟨_, _, castTop (ef_law5 m pI1 pI2) ?_, hrun, hended, _, _, rfl, ?_, ⟨_, rfl⟩, hW, hsame.mono (by decide) (by decide)⟩
  · show oS p e below s₁ m 0 #[.val (.int pI1), .val (.int pI2), .unset, .unset, .unset, .unset, .unset] [] _
    refine XS.iloadN X0.here hx rfl (hb hby at_0) rfl ?_
    refine X0.ldcInt hx hown (mvT hZ (ow hw 0 rfl)) (g := (mkF m 1 #[.val (.int pI1), .val (.int pI2), .unset, .unset, .unset, .unset, .unset] [(.int pI1)])) rfl (hb hby at_1) _ ?_
    refine XS.iand X0.here hx rfl (hb hby at_3) rfl ?_
    show Steps p.tables e below (s₁.setTop (mkF m 4 #[.val (.int pI1), .val (.int pI2), .unset, .unset, .unset, .unset, .unset] [(.int (pI1 &&& (2147483647 : Int32)))])) _
    rw [hr3]
    refine XS.istoreN X0.here hx rfl (hb hby at_4) rfl (l' := #[.val (.int pI1), .val (.int pI2), .val (.int pI900), .unset, .unset, .unset, .unset]) rfl ?_
    refine XS.iloadN X0.here hx rfl (hb hby at_5) rfl ?_
    refine XS.bipush X0.here hx rfl (hb hby at_6) ?_
    refine XS.iand X0.here hx rfl (hb hby at_8) rfl ?_
    show Steps p.tables e below (s₁.setTop (mkF m 9 #[.val (.int pI1), .val (.int pI2), .val (.int pI900), .unset, .unset, .unset, .unset] [(.int (pI2 &&& (7 : Int32)))])) _
    rw [hc8]
    refine XS.iconst X0.here hx rfl (hb hby at_9) ?_
    show oS p e below s₁ m 10 #[.val (.int pI1), .val (.int pI2), .val (.int pI900), .unset, .unset, .unset, .unset] [(.int 1), (.int 4)] _
    refine XS.iadd X0.here hx rfl (hb hby at_10) rfl ?_
    refine XS.istoreN X0.here hx rfl (hb hby at_11) rfl (l' := #[.val (.int pI1), .val (.int pI2), .val (.int pI900), .val (.int 5), .unset, .unset, .unset]) rfl ?_
    refine XS.iloadN X0.here hx rfl (hb hby at_12) rfl ?_
    refine XS.iloadN X0.here hx rfl (hb hby at_13) rfl ?_
    refine st5 _ ?_
    refine XS.astore X5.here hx rfl (hb hby at_17) rfl rfl (l' := #[.val (.int pI1), .val (.int pI2), .val (.int pI900), .val (.int 5), .val (.ref bR5_1), .unset, .unset]) rfl ?_
    refine XS.aload X5.here hx rfl (hb hby at_19) rfl rfl ?_
    refine st8.trans ?_
    show oS p e below T8 m 26 #[.val (.int pI1), .val (.int pI2), .val (.int pI900), .val (.int 5), .val (.ref bR5_1), .unset, .unset] [(.int 5)] _
    refine XS.iloadN X8.here hx rfl (hb hby at_26) rfl ?_
    refine XS.icmpYes X8.here hx rfl (pc0 := 27) (pc' := 32) rfl (hb hby at_27) rfl (teq (by decide : (5 : Int32) = (5 : Int32))).1 (by decide) (by decide) ?_
    refine XS.aload X8.here hx rfl (hb hby at_32) rfl rfl ?_
    refine XS.iconst X8.here hx rfl (hb hby at_34) ?_
    refine XS.iloadN X8.here hx rfl (hb hby at_35) rfl ?_
    refine st12 _ ?_
    refine XS.aload X12.here hx rfl (hb hby at_39) rfl rfl ?_
    refine XS.iconst X12.here hx rfl (hb hby at_41) ?_
    show oS p e below T12 m 42 #[.val (.int pI1), .val (.int pI2), .val (.int pI900), .val (.int 5), .val (.ref bR5_1), .unset, .unset] [(.int 1), (.ref bR5_1), (.long (((pI900 / (5 : Int32)) + (pI900 % (5 : Int32))).toInt64))] _
    refine XS.iloadN X12.here hx rfl (hb hby at_42) rfl ?_
    refine st15 _ ?_
    refine XS.ladd X15.here hx rfl (hb hby at_46) rfl ?_
    show Steps p.tables e below (T15.setTop (mkF m 47 #[.val (.int pI1), .val (.int pI2), .val (.int pI900), .val (.int 5), .val (.ref bR5_1), .unset, .unset] [(.long ((((pI900 / (5 : Int32)) + (pI900 % (5 : Int32))).toInt64) + ((pI900 / (5 : Int32)).toInt64)))])) _
    rw [hr46]
    refine XS.aload X15.here hx rfl (hb hby at_47) rfl rfl ?_
    refine XS.iconst X15.here hx rfl (hb hby at_49) ?_
    refine XS.iloadN X15.here hx rfl (hb hby at_50) rfl ?_
    refine st18 _ ?_
    refine XS.ladd X18.here hx rfl (hb hby at_54) rfl ?_
    show Steps p.tables e below (T18.setTop (mkF m 55 #[.val (.int pI1), .val (.int pI2), .val (.int pI900), .val (.int 5), .val (.ref bR5_1), .unset, .unset] [(.long (pJ911 + ((pI900 / (5 : Int32)).toInt64)))])) _
    rw [hr54]
    show oS p e below T18 m 55 #[.val (.int pI1), .val (.int pI2), .val (.int pI900), .val (.int 5), .val (.ref bR5_1), .unset, .unset] [(.long pJ912)] _
    refine XS.aload X18.here hx rfl (hb hby at_55) rfl rfl ?_
    refine XS.iconst X18.here hx rfl (hb hby at_57) ?_
    refine XS.iloadN X18.here hx rfl (hb hby at_58) rfl ?_
    refine st21 _ ?_
    refine XS.ladd X21.here hx rfl (hb hby at_62) rfl ?_
    show Steps p.tables e below (T21.setTop (mkF m 63 #[.val (.int pI1), .val (.int pI2), .val (.int pI900), .val (.int 5), .val (.ref bR5_1), .unset, .unset] [(.long (pJ912 + ((pI900 / (5 : Int32)).toInt64)))])) _
    rw [hr62]
    refine XS.aload X21.here hx rfl (hb hby at_63) rfl rfl ?_
    refine XS.iconst X21.here hx rfl (hb hby at_65) ?_
    refine XS.iloadN X21.here hx rfl (hb hby at_66) rfl ?_
    show oS p e below T21 m 67 #[.val (.int pI1), .val (.int pI2), .val (.int pI900), .val (.int 5), .val (.ref bR5_1), .unset, .unset] [(.int 5), (.int 4), (.ref bR5_1), (.long pJ913)] _
    refine st24 _ ?_
    refine XS.ladd X24.here hx rfl (hb hby at_70) rfl ?_
    show Steps p.tables e below (T24.setTop (mkF m 71 #[.val (.int pI1), .val (.int pI2), .val (.int pI900), .val (.int 5), .val (.ref bR5_1), .unset, .unset] [(.long (pJ913 + ((pI900 / (5 : Int32)).toInt64)))])) _
    rw [hr70]
    refine XS.aload X24.here hx rfl (hb hby at_71) rfl rfl ?_
    refine XS.iconst X24.here hx rfl (hb hby at_73) ?_
    refine XS.iloadN X24.here hx rfl (hb hby at_74) rfl ?_
    refine st25 _ ?_
    refine XS.ladd X25.here hx rfl (hb hby at_78) rfl ?_
    show Steps p.tables e below (T25.setTop (mkF m 79 #[.val (.int pI1), .val (.int pI2), .val (.int pI900), .val (.int 5), .val (.ref bR5_1), .unset, .unset] [(.long (pJ914 + (0 : Int64)))])) _
    rw [hr78]
    refine XS.aload X25.here hx rfl (hb hby at_79) rfl rfl ?_
    show oS p e below T25 m 81 #[.val (.int pI1), .val (.int pI2), .val (.int pI900), .val (.int 5), .val (.ref bR5_1), .unset, .unset] [(.ref bR5_1), (.long pJ915)] _
    refine XS.bipush X25.here hx rfl (hb hby at_81) ?_
    refine XS.iloadN X25.here hx rfl (hb hby at_83) rfl ?_
    refine st26 _ ?_
    refine XS.ladd X26.here hx rfl (hb hby at_87) rfl ?_
    show Steps p.tables e below (T26.setTop (mkF m 88 #[.val (.int pI1), .val (.int pI2), .val (.int pI900), .val (.int 5), .val (.ref bR5_1), .unset, .unset] [(.long (pJ915 + (0 : Int64)))])) _
    rw [hr87]
    refine XS.aload X26.here hx rfl (hb hby at_88) rfl rfl ?_
    refine XS.bipush X26.here hx rfl (hb hby at_90) ?_
    refine XS.iloadN X26.here hx rfl (hb hby at_92) rfl ?_
    refine st27 _ ?_
    show oS p e below T27 m 96 #[.val (.int pI1), .val (.int pI2), .val (.int pI900), .val (.int 5), .val (.ref bR5_1), .unset, .unset] [(.long 0), (.long pJ916)] _
    refine XS.ladd X27.here hx rfl (hb hby at_96) rfl ?_
    show Steps p.tables e below (T27.setTop (mkF m 97 #[.val (.int pI1), .val (.int pI2), .val (.int pI900), .val (.int 5), .val (.ref bR5_1), .unset, .unset] [(.long (pJ916 + (0 : Int64)))])) _
    rw [hr96]
    refine XS.lstore X27.here hx rfl (hb hby at_97) rfl (l' := #[.val (.int pI1), .val (.int pI2), .val (.int pI900), .val (.int 5), .val (.ref bR5_1), .val (.long pJ917), .second]) rfl ?_
    refine XS.lload X27.here hx rfl (hb hby at_99) rfl ?_
    refine XS.iloadN X27.here hx rfl (hb hby at_101) rfl ?_
    refine XS.i2l X27.here hx rfl (hb hby at_102) rfl ?_
    refine XS.lcmp X27.here hx rfl (hb hby at_103) rfl ?_
    refine XS.ifYes X27.here hx rfl (pc0 := 104) (pc' := 109) rfl (hb hby at_104) rfl ((if0 _ _).trans (teq hc104).1) (by decide) (by decide) ?_
    refine XS.aload X27.here hx rfl (hb hby at_109) rfl rfl ?_
    show oS p e below T27 m 111 #[.val (.int pI1), .val (.int pI2), .val (.int pI900), .val (.int 5), .val (.ref bR5_1), .val (.long pJ917), .second] [(.ref bR5_1)] _
    refine XS.iconst X27.here hx rfl (hb hby at_111) ?_
    refine XS.iloadN X27.here hx rfl (hb hby at_112) rfl ?_
    refine XS.iloadN X27.here hx rfl (hb hby at_113) rfl ?_
    refine st28 _ ?_
    refine XS.ifNo X28.here hx rfl (hb hby at_117) rfl ((if0 _ _).trans (feq (by decide : ¬ ((1 : Int32) = (0 : Int32)))).1) ?_
    refine XS.aload X28.here hx rfl (hb hby at_120) rfl rfl ?_
    refine XS.iconst X28.here hx rfl (hb hby at_122) ?_
    refine XS.iloadN X28.here hx rfl (hb hby at_123) rfl ?_
    show oS p e below T28 m 124 #[.val (.int pI1), .val (.int pI2), .val (.int pI900), .val (.int 5), .val (.ref bR5_1), .val (.long pJ917), .second] [(.int 5), (.int 2), (.ref bR5_1)] _
    refine XS.iloadN X28.here hx rfl (hb hby at_124) rfl ?_
    refine st29 _ ?_
    refine XS.ifNo X29.here hx rfl (hb hby at_128) rfl ((if0 _ _).trans (feq (by decide : ¬ ((1 : Int32) = (0 : Int32)))).1) ?_
    refine XS.aload X29.here hx rfl (hb hby at_131) rfl rfl ?_
    refine XS.iconst X29.here hx rfl (hb hby at_133) ?_
    refine XS.iloadN X29.here hx rfl (hb hby at_134) rfl ?_
    refine XS.iloadN X29.here hx rfl (hb hby at_135) rfl ?_
    refine st30 _ ?_
    show oS p e below T30 m 139 #[.val (.int pI1), .val (.int pI2), .val (.int pI900), .val (.int 5), .val (.ref bR5_1), .val (.long pJ917), .second] [(.int 1)] _
    refine XS.ifNo X30.here hx rfl (hb hby at_139) rfl ((if0 _ _).trans (feq (by decide : ¬ ((1 : Int32) = (0 : Int32)))).1) ?_
    refine XS.aload X30.here hx rfl (hb hby at_142) rfl rfl ?_
    refine XS.iconst X30.here hx rfl (hb hby at_144) ?_
    refine XS.iloadN X30.here hx rfl (hb hby at_145) rfl ?_
    refine XS.iloadN X30.here hx rfl (hb hby at_146) rfl ?_
    refine st31 _ ?_
    refine XS.ifNo X31.here hx rfl (hb hby at_150) rfl ((if0 _ _).trans (feq (by decide : ¬ ((1 : Int32) = (0 : Int32)))).1) ?_
    refine XS.aload X31.here hx rfl (hb hby at_153) rfl rfl ?_
    show oS p e below T31 m 155 #[.val (.int pI1), .val (.int pI2), .val (.int pI900), .val (.int 5), .val (.ref bR5_1), .val (.long pJ917), .second] [(.ref bR5_1)] _
    refine XS.iconst X31.here hx rfl (hb hby at_155) ?_
    refine XS.iloadN X31.here hx rfl (hb hby at_156) rfl ?_
    refine XS.iloadN X31.here hx rfl (hb hby at_157) rfl ?_
    refine st32 _ ?_
    refine XS.ifNo X32.here hx rfl (hb hby at_161) rfl ((if0 _ _).trans (feq (by decide : ¬ ((1 : Int32) = (0 : Int32)))).1) ?_
    refine XS.aload X32.here hx rfl (hb hby at_164) rfl rfl ?_
    refine XS.bipush X32.here hx rfl (hb hby at_166) ?_
    refine XS.iloadN X32.here hx rfl (hb hby at_168) rfl ?_
    show oS p e below T32 m 169 #[.val (.int pI1), .val (.int pI2), .val (.int pI900), .val (.int 5), .val (.ref bR5_1), .val (.long pJ917), .second] [(.int 5), (.int 6), (.ref bR5_1)] _
    refine XS.iloadN X32.here hx rfl (hb hby at_169) rfl ?_
    refine st33 _ ?_
    refine XS.ifNo X33.here hx rfl (hb hby at_173) rfl ((if0 _ _).trans (feq (by decide : ¬ ((1 : Int32) = (0 : Int32)))).1) ?_
    refine XS.aload X33.here hx rfl (hb hby at_176) rfl rfl ?_
    refine XS.bipush X33.here hx rfl (hb hby at_178) ?_
    refine XS.iloadN X33.here hx rfl (hb hby at_180) rfl ?_
    refine XS.iloadN X33.here hx rfl (hb hby at_181) rfl ?_
    refine st34 _ ?_
    show oS p e below T34 m 185 #[.val (.int pI1), .val (.int pI2), .val (.int pI900), .val (.int 5), .val (.ref bR5_1), .val (.long pJ917), .second] [(.int 1)] _
    refine XS.ifNo X34.here hx rfl (hb hby at_185) rfl ((if0 _ _).trans (feq (by decide : ¬ ((1 : Int32) = (0 : Int32)))).1) ?_
    refine XS.iconst X34.here hx rfl (hb hby at_188) ?_
    refine XS.goto X34.here hx rfl (pc0 := 189) (pc' := 193) rfl (hb hby at_189) (by decide) (by decide) ?_
    exact retN X34 hx (t := .boolean) Bd.returns (by simp) (hb hby at_193) hr
  · show Qlaw5 Z pI1 pI2 pI900 pR3 pC4 pJ911 pJ912 pJ913 pJ914 pJ915 pJ916 pJ917 h0 n0 _ T34.heap _
    rw [e34]
    exact ⟨rfl, N34⟩
theorem ef_law6 (m : MethodId) (pI1 : Int32) (pI2 : Int32) : entryFrame m #[(.int pI1), (.int pI2)] maxLocals = mkF m 0 #[.val (.int pI1), .val (.int pI2), .unset, .unset, .unset, .unset, .unset] [] := by first | (simp [entryFrame, mkF, argsToLocals, Value.category, maxLocals]; done) | rfl
def Qlaw6 (Z : State) (pI1 : Int32) (pI2 : Int32) (pI900 : Int32) (pR3 : Addr) (pC4 : Cell) (pJ911 : Int64) (pJ912 : Int64) (pJ913 : Int64) (pJ914 : Int64) (pJ915 : Int64) (pJ916 : Int64) (pJ917 : Int64) (h0 : Heap) (n0 : Nat) (v : Option Value) (h : Heap) (L : List Loc) : Prop := v = some (.int 1) ∧ Fr n0 L
set_option maxRecDepth 65536 in
set_option maxHeartbeats 40000000 in
theorem law6 (l : Launch) (Z : State) (a0 : Array Value) (hw : ∀ d ∈ tables_1, d.before a0 Z = true) (ws : List Jvm.Cond) (pI1 : Int32) (pI2 : Int32) (pI900 : Int32) (pR3 : Addr) (pC4 : Cell) (pJ911 : Int64) (pJ912 : Int64) (pJ913 : Int64) (pJ914 : Int64) (pJ915 : Int64) (pJ916 : Int64) (pJ917 : Int64) (h0 : Heap) (n0 : Nat) (Z0 : n0 ≤ h0.size) (S_Integer_IntegerCache_high : Sta Z h0 "java/lang/Integer$IntegerCache" "high" "I" (.int 127)) (S_Integer_IntegerCache_cache : Sta Z h0 "java/lang/Integer$IntegerCache" "cache" "[Ljava/lang/Integer;" (.ref pR3)) (B_pR3 : Bxs Z pR3 pC4 "java/lang/Integer" "I" (256 : Int32) (fun j => .int (j - 128))) (D0 : Old Z n0 h0) (hr3 : (pI1 &&& (2147483647 : Int32)) = pI900) (hc8 : (pI2 &&& (7 : Int32)) = (5 : Int32)) (hr46 : ((((pI900 / (6 : Int32)) + (pI900 % (6 : Int32))).toInt64) + ((pI900 / (6 : Int32)).toInt64)) = pJ911) (hr54 : (pJ911 + ((pI900 / (6 : Int32)).toInt64)) = pJ912) (hr62 : (pJ912 + ((pI900 / (6 : Int32)).toInt64)) = pJ913) (hr70 : (pJ913 + ((pI900 / (6 : Int32)).toInt64)) = pJ914) (hr78 : (pJ914 + ((pI900 / (6 : Int32)).toInt64)) = pJ915) (hr87 : (pJ915 + (0 : Int64)) = pJ916) (hr96 : (pJ916 + (0 : Int64)) = pJ917) (hc104 : (lcmpW pJ917 (pI900.toInt64)) = (0 : Int32)) (hc114 : ¬ ((0 : Int32) < (lcmpW (((pI900 / (6 : Int32)).toInt64) * ((6 : Int32).toInt64)) (pI900.toInt64)))) (hc114' : (lcmpW (pI900.toInt64) ((((pI900 / (6 : Int32)).toInt64) + (1 : Int64)) * ((6 : Int32).toInt64))) < (0 : Int32)) :
    oM l x code maxLocals ret ws room_1 #[(.int pI1), (.int pI2)] Z h0 (Qlaw6 Z pI1 pI2 pI900 pR3 pC4 pJ911 pJ912 pJ913 pJ914 pJ915 pJ916 pJ917 h0 n0) := by
  refine MetFree.of_bodySF (plainFor_of_name pn_12) hisR ?_
  intro p e s m args below meth c s₁ Bd hml0 hP hK
  obtain ⟨rfl, hZ, hh⟩ := hP
  have hx := Bd.exec
  have hby := Bd.bytes
  have hml : c.maxLocals = 7 := hml0
  have hown : s.vm.findClass "com/example/watchful_junction/watchfuljunction/scenario/ProportionalSpecEqualSharesPinLaw" = some m.cls := findClass_of_methodNamed Bd.named
  have hnm := (name_of_methodNamed Bd.named Bd.method).1
  have X0 : Stand p l e room_1 s m #[(.int pI1), (.int pI2)] below meth c s₁ [] 0 0 := Stand.of_body Bd
  have e0 : s₁.heap = h0 := by rw [← hh, Bd.state]; rfl
  have N0 := Fr.nil n0
  obtain ⟨_, _, ⟨T5, L5, k5, n5⟩, -, X5, ⟨Lc5, hQ5, l5, y5, z5⟩, st5⟩ := Jvm.LawKit.callS X0 hx (y := yN14) hown (mvT hZ (ow hw 1 rfl)) (mvT hZ (ow hw 2 rfl)) (mvT hZ (ow hw 3 rfl)) (mvT hZ (ow hw 4 rfl)) (by decide) (backOf (W := 0) (eqs6 l Z a0 hw [] pI900 pR3 pC4 h0 n0 Z0 S_Integer_IntegerCache_high S_Integer_IntegerCache_cache B_pR3 D0) hZ (ow hw 4 rfl) (ow hw 3 rfl) (by decide) (by decide)) (g := (mkF m 14 #[.val (.int pI1), .val (.int pI2), .val (.int pI900), .val (.int 6), .unset, .unset, .unset] [(.int 6), (.int pI900)])) rfl (by rw [hml]; rfl) (argsL := [(.int pI900), (.int 6)]) (rest := []) (lenOf pd_12 rfl) rfl (Nat.le_refl _) (hb hby at_14) (fun _ _ => ⟨rfl, e0, (by decide : 0 + 5 ≤ _), (by decide : 0 + 16 ≤ _)⟩)
  dsimp only [Pt.U, Pt.locs, Pt.cells, Pt.slots] at X5 l5 y5 z5 st5 hQ5
  subst l5 y5 z5
  obtain ⟨bR5_0, bR5_1, bR5_2, bR5_3, kK5_0, rfl, Nq5, Kq5, sz5_0, sz5_1, x5_0, x5_1, x5_2, x5_3, x5_4, x5_5, x5_6, x5_7⟩ := hQ5
  have N5 := Fr.app N0 Nq5
  obtain ⟨Lh5, X5, N5⟩ := own_hide X5 N5
  have Z7 : n0 ≤ T5.heap.size := (Nat.le_trans Z0 Kq5.1)
  obtain ⟨cq8, kq8, q8a, q8b, q8c⟩ := isOf hZ rfl x5_5
  obtain ⟨_, _, ⟨T8, L8, k8, n8⟩, -, X8, ⟨Lc8, hQ8, l8, y8, z8⟩, st8⟩ := X5.interfaceBack hx (xi := yN23) (y := yN16) hown (mvT hZ (ow hw 73 rfl)) (mvT hZ (ow hw 74 rfl)) (mvT hZ (ow hw 75 rfl)) (mvT hZ (ow hw 76 rfl)) (mvT hZ (ow hw 77 rfl)) (mvT hZ (ow hw 78 rfl)) (mvT hZ (ow hw 79 rfl)) (mvT hZ (ow hw 80 rfl)) (by decide) (backOf (W := 0) (lnS6 l Z a0 hw [] bR5_1 bR5_0 bR5_3 bR5_2 kK5_0 T5.heap n0 Z7 x5_6 x5_4) hZ (ow hw 81 rfl) (ow hw 43 rfl) (by decide) (by decide)) q8a q8b q8c (g := (mkF m 21 #[.val (.int pI1), .val (.int pI2), .val (.int pI900), .val (.int 6), .val (.ref bR5_1), .unset, .unset] [(.ref bR5_1)])) rfl (by rw [hml]; rfl) (Steps.refl _) (argsL := []) (rest := []) (lenOf pd_6 rfl) rfl (Nat.le_refl _) (hb hby at_21) (fun _ _ => ⟨rfl, rfl, (by decide : 5 + 0 ≤ _), (by decide : 16 + 0 ≤ _)⟩)
  dsimp only [Pt.U, Pt.locs, Pt.cells, Pt.slots] at X8 l8 y8 z8 st8 hQ8
  subst l8 y8 z8
  obtain ⟨rfl, Nq8, e8⟩ := hQ8
  have N8 := Fr.app N5 Nq8
  obtain ⟨clq9, Arq9, Akq9, Asq9, Anq9, Ahq9, Agq9⟩ := id x5_4
  have hin10 : ¬ ((0 : Int32) < 0 ∨ clq9.slots.size ≤ ((0 : Int32)).toNatClampNeg) := inb_of Asq9 ⟨by decide, by decide⟩
  have hat11 : clq9.slots[((0 : Int32)).toNatClampNeg]? = some (.ref bR5_3) := Has.at Ahq9 hin10 rfl
  obtain ⟨_, _, ⟨T12, L12, k12, n12⟩, -, X12, ⟨Lc12, hQ12, l12, y12, z12⟩, st12⟩ := Jvm.LawKit.callS X8 hx (y := yN20) hown (mvT hZ (ow hw 82 rfl)) (mvT hZ (ow hw 83 rfl)) (mvT hZ (ow hw 84 rfl)) (mvT hZ (ow hw 85 rfl)) (by decide) (backOf (W := 0) (atN l Z a0 hw [] bR5_1 (0 : Int32) (6 : Int32) bR5_0 clq9 bR5_3 ((pI900 / (6 : Int32)) + (pI900 % (6 : Int32))) T5.heap n0 Z7 x5_6 Arq9 hat11 x5_5 x5_2 x5_3 (by decide) hin10) hZ (ow hw 85 rfl) (ow hw 84 rfl) (by decide) (by decide)) (g := (mkF m 36 #[.val (.int pI1), .val (.int pI2), .val (.int pI900), .val (.int 6), .val (.ref bR5_1), .unset, .unset] [(.int 6), (.int 0), (.ref bR5_1)])) rfl (by rw [hml]; rfl) (argsL := [(.ref bR5_1), (.int 0), (.int 6)]) (rest := []) (lenOf pd_13 rfl) rfl (Nat.le_refl _) (hb hby at_36) (fun _ _ => ⟨rfl, e8, (by decide : 5 + 0 ≤ _), (by decide : 16 + 0 ≤ _)⟩)
  dsimp only [Pt.U, Pt.locs, Pt.cells, Pt.slots] at X12 l12 y12 z12 st12 hQ12
  subst l12 y12 z12
  obtain ⟨rfl, Nq12, e12⟩ := hQ12
  have N12 := Fr.app N8 Nq12
  have hin13 : ¬ ((1 : Int32) < 0 ∨ clq9.slots.size ≤ ((1 : Int32)).toNatClampNeg) := inb_of Asq9 ⟨by decide, by decide⟩
  have hat14 : clq9.slots[((1 : Int32)).toNatClampNeg]? = some (.ref bR5_2) := Has.at Ahq9 hin13 rfl
  obtain ⟨_, _, ⟨T15, L15, k15, n15⟩, -, X15, ⟨Lc15, hQ15, l15, y15, z15⟩, st15⟩ := Jvm.LawKit.callS X12 hx (y := yN20) hown (mvT hZ (ow hw 82 rfl)) (mvT hZ (ow hw 83 rfl)) (mvT hZ (ow hw 84 rfl)) (mvT hZ (ow hw 85 rfl)) (by decide) (backOf (W := 2) (atN l Z a0 hw [] bR5_1 (1 : Int32) (6 : Int32) bR5_0 clq9 bR5_2 (pI900 / (6 : Int32)) T5.heap n0 Z7 x5_6 Arq9 hat14 x5_5 x5_0 x5_1 (by decide) hin13) hZ (ow hw 85 rfl) (ow hw 84 rfl) (by decide) (by decide)) (g := (mkF m 43 #[.val (.int pI1), .val (.int pI2), .val (.int pI900), .val (.int 6), .val (.ref bR5_1), .unset, .unset] [(.int 6), (.int 1), (.ref bR5_1), (.long (((pI900 / (6 : Int32)) + (pI900 % (6 : Int32))).toInt64))])) rfl (by rw [hml]; rfl) (argsL := [(.ref bR5_1), (.int 1), (.int 6)]) (rest := [(.long (((pI900 / (6 : Int32)) + (pI900 % (6 : Int32))).toInt64))]) (lenOf pd_13 rfl) rfl (Nat.le_refl _) (hb hby at_43) (fun _ _ => ⟨rfl, e12, (by decide : 5 + 0 ≤ _), (by decide : 16 + 0 ≤ _)⟩)
  dsimp only [Pt.U, Pt.locs, Pt.cells, Pt.slots] at X15 l15 y15 z15 st15 hQ15
  subst l15 y15 z15
  obtain ⟨rfl, Nq15, e15⟩ := hQ15
  have N15 := Fr.app N12 Nq15
  have hin16 : ¬ ((2 : Int32) < 0 ∨ clq9.slots.size ≤ ((2 : Int32)).toNatClampNeg) := inb_of Asq9 ⟨by decide, by decide⟩
  have hat17 : clq9.slots[((2 : Int32)).toNatClampNeg]? = some (.ref bR5_2) := Has.at Ahq9 hin16 rfl
  obtain ⟨_, _, ⟨T18, L18, k18, n18⟩, -, X18, ⟨Lc18, hQ18, l18, y18, z18⟩, st18⟩ := Jvm.LawKit.callS X15 hx (y := yN20) hown (mvT hZ (ow hw 82 rfl)) (mvT hZ (ow hw 83 rfl)) (mvT hZ (ow hw 84 rfl)) (mvT hZ (ow hw 85 rfl)) (by decide) (backOf (W := 2) (atN l Z a0 hw [] bR5_1 (2 : Int32) (6 : Int32) bR5_0 clq9 bR5_2 (pI900 / (6 : Int32)) T5.heap n0 Z7 x5_6 Arq9 hat17 x5_5 x5_0 x5_1 (by decide) hin16) hZ (ow hw 85 rfl) (ow hw 84 rfl) (by decide) (by decide)) (g := (mkF m 51 #[.val (.int pI1), .val (.int pI2), .val (.int pI900), .val (.int 6), .val (.ref bR5_1), .unset, .unset] [(.int 6), (.int 2), (.ref bR5_1), (.long pJ911)])) rfl (by rw [hml]; rfl) (argsL := [(.ref bR5_1), (.int 2), (.int 6)]) (rest := [(.long pJ911)]) (lenOf pd_13 rfl) rfl (Nat.le_refl _) (hb hby at_51) (fun _ _ => ⟨rfl, e15, (by decide : 5 + 0 ≤ _), (by decide : 16 + 0 ≤ _)⟩)
  dsimp only [Pt.U, Pt.locs, Pt.cells, Pt.slots] at X18 l18 y18 z18 st18 hQ18
  subst l18 y18 z18
  obtain ⟨rfl, Nq18, e18⟩ := hQ18
  have N18 := Fr.app N15 Nq18
  have hin19 : ¬ ((3 : Int32) < 0 ∨ clq9.slots.size ≤ ((3 : Int32)).toNatClampNeg) := inb_of Asq9 ⟨by decide, by decide⟩
  have hat20 : clq9.slots[((3 : Int32)).toNatClampNeg]? = some (.ref bR5_2) := Has.at Ahq9 hin19 rfl
  obtain ⟨_, _, ⟨T21, L21, k21, n21⟩, -, X21, ⟨Lc21, hQ21, l21, y21, z21⟩, st21⟩ := Jvm.LawKit.callS X18 hx (y := yN20) hown (mvT hZ (ow hw 82 rfl)) (mvT hZ (ow hw 83 rfl)) (mvT hZ (ow hw 84 rfl)) (mvT hZ (ow hw 85 rfl)) (by decide) (backOf (W := 2) (atN l Z a0 hw [] bR5_1 (3 : Int32) (6 : Int32) bR5_0 clq9 bR5_2 (pI900 / (6 : Int32)) T5.heap n0 Z7 x5_6 Arq9 hat20 x5_5 x5_0 x5_1 (by decide) hin19) hZ (ow hw 85 rfl) (ow hw 84 rfl) (by decide) (by decide)) (g := (mkF m 59 #[.val (.int pI1), .val (.int pI2), .val (.int pI900), .val (.int 6), .val (.ref bR5_1), .unset, .unset] [(.int 6), (.int 3), (.ref bR5_1), (.long pJ912)])) rfl (by rw [hml]; rfl) (argsL := [(.ref bR5_1), (.int 3), (.int 6)]) (rest := [(.long pJ912)]) (lenOf pd_13 rfl) rfl (Nat.le_refl _) (hb hby at_59) (fun _ _ => ⟨rfl, e18, (by decide : 5 + 0 ≤ _), (by decide : 16 + 0 ≤ _)⟩)
  dsimp only [Pt.U, Pt.locs, Pt.cells, Pt.slots] at X21 l21 y21 z21 st21 hQ21
  subst l21 y21 z21
  obtain ⟨rfl, Nq21, e21⟩ := hQ21
  have N21 := Fr.app N18 Nq21
  have hin22 : ¬ ((4 : Int32) < 0 ∨ clq9.slots.size ≤ ((4 : Int32)).toNatClampNeg) := inb_of Asq9 ⟨by decide, by decide⟩
  have hat23 : clq9.slots[((4 : Int32)).toNatClampNeg]? = some (.ref bR5_2) := Has.at Ahq9 hin22 rfl
  obtain ⟨_, _, ⟨T24, L24, k24, n24⟩, -, X24, ⟨Lc24, hQ24, l24, y24, z24⟩, st24⟩ := Jvm.LawKit.callS X21 hx (y := yN20) hown (mvT hZ (ow hw 82 rfl)) (mvT hZ (ow hw 83 rfl)) (mvT hZ (ow hw 84 rfl)) (mvT hZ (ow hw 85 rfl)) (by decide) (backOf (W := 2) (atN l Z a0 hw [] bR5_1 (4 : Int32) (6 : Int32) bR5_0 clq9 bR5_2 (pI900 / (6 : Int32)) T5.heap n0 Z7 x5_6 Arq9 hat23 x5_5 x5_0 x5_1 (by decide) hin22) hZ (ow hw 85 rfl) (ow hw 84 rfl) (by decide) (by decide)) (g := (mkF m 67 #[.val (.int pI1), .val (.int pI2), .val (.int pI900), .val (.int 6), .val (.ref bR5_1), .unset, .unset] [(.int 6), (.int 4), (.ref bR5_1), (.long pJ913)])) rfl (by rw [hml]; rfl) (argsL := [(.ref bR5_1), (.int 4), (.int 6)]) (rest := [(.long pJ913)]) (lenOf pd_13 rfl) rfl (Nat.le_refl _) (hb hby at_67) (fun _ _ => ⟨rfl, e21, (by decide : 5 + 0 ≤ _), (by decide : 16 + 0 ≤ _)⟩)
  dsimp only [Pt.U, Pt.locs, Pt.cells, Pt.slots] at X24 l24 y24 z24 st24 hQ24
  subst l24 y24 z24
  obtain ⟨rfl, Nq24, e24⟩ := hQ24
  have N24 := Fr.app N21 Nq24
  have hin25 : ¬ ((5 : Int32) < 0 ∨ clq9.slots.size ≤ ((5 : Int32)).toNatClampNeg) := inb_of Asq9 ⟨by decide, by decide⟩
  have hat26 : clq9.slots[((5 : Int32)).toNatClampNeg]? = some (.ref bR5_2) := Has.at Ahq9 hin25 rfl
  obtain ⟨_, _, ⟨T27, L27, k27, n27⟩, -, X27, ⟨Lc27, hQ27, l27, y27, z27⟩, st27⟩ := Jvm.LawKit.callS X24 hx (y := yN20) hown (mvT hZ (ow hw 82 rfl)) (mvT hZ (ow hw 83 rfl)) (mvT hZ (ow hw 84 rfl)) (mvT hZ (ow hw 85 rfl)) (by decide) (backOf (W := 2) (atN l Z a0 hw [] bR5_1 (5 : Int32) (6 : Int32) bR5_0 clq9 bR5_2 (pI900 / (6 : Int32)) T5.heap n0 Z7 x5_6 Arq9 hat26 x5_5 x5_0 x5_1 (by decide) hin25) hZ (ow hw 85 rfl) (ow hw 84 rfl) (by decide) (by decide)) (g := (mkF m 75 #[.val (.int pI1), .val (.int pI2), .val (.int pI900), .val (.int 6), .val (.ref bR5_1), .unset, .unset] [(.int 6), (.int 5), (.ref bR5_1), (.long pJ914)])) rfl (by rw [hml]; rfl) (argsL := [(.ref bR5_1), (.int 5), (.int 6)]) (rest := [(.long pJ914)]) (lenOf pd_13 rfl) rfl (Nat.le_refl _) (hb hby at_75) (fun _ _ => ⟨rfl, e24, (by decide : 5 + 0 ≤ _), (by decide : 16 + 0 ≤ _)⟩)
  dsimp only [Pt.U, Pt.locs, Pt.cells, Pt.slots] at X27 l27 y27 z27 st27 hQ27
  subst l27 y27 z27
  obtain ⟨rfl, Nq27, e27⟩ := hQ27
  have N27 := Fr.app N24 Nq27
  obtain ⟨_, _, ⟨T28, L28, k28, n28⟩, -, X28, ⟨Lc28, hQ28, l28, y28, z28⟩, st28⟩ := Jvm.LawKit.callS X27 hx (y := yN20) hown (mvT hZ (ow hw 82 rfl)) (mvT hZ (ow hw 83 rfl)) (mvT hZ (ow hw 84 rfl)) (mvT hZ (ow hw 85 rfl)) (by decide) (backOf (W := 2) (atE l Z a0 hw [] bR5_1 (6 : Int32) (6 : Int32) T5.heap n0 Z7 (by decide)) hZ (ow hw 85 rfl) (ow hw 84 rfl) (by decide) (by decide)) (g := (mkF m 84 #[.val (.int pI1), .val (.int pI2), .val (.int pI900), .val (.int 6), .val (.ref bR5_1), .unset, .unset] [(.int 6), (.int 6), (.ref bR5_1), (.long pJ915)])) rfl (by rw [hml]; rfl) (argsL := [(.ref bR5_1), (.int 6), (.int 6)]) (rest := [(.long pJ915)]) (lenOf pd_13 rfl) rfl (Nat.le_refl _) (hb hby at_84) (fun _ _ => ⟨rfl, e27, (by decide : 5 + 0 ≤ _), (by decide : 16 + 0 ≤ _)⟩)
  dsimp only [Pt.U, Pt.locs, Pt.cells, Pt.slots] at X28 l28 y28 z28 st28 hQ28
  subst l28 y28 z28
  obtain ⟨rfl, Nq28, e28⟩ := hQ28
  have N28 := Fr.app N27 Nq28
  obtain ⟨_, _, ⟨T29, L29, k29, n29⟩, -, X29, ⟨Lc29, hQ29, l29, y29, z29⟩, st29⟩ := Jvm.LawKit.callS X28 hx (y := yN20) hown (mvT hZ (ow hw 82 rfl)) (mvT hZ (ow hw 83 rfl)) (mvT hZ (ow hw 84 rfl)) (mvT hZ (ow hw 85 rfl)) (by decide) (backOf (W := 2) (atE l Z a0 hw [] bR5_1 (7 : Int32) (6 : Int32) T5.heap n0 Z7 (by decide)) hZ (ow hw 85 rfl) (ow hw 84 rfl) (by decide) (by decide)) (g := (mkF m 93 #[.val (.int pI1), .val (.int pI2), .val (.int pI900), .val (.int 6), .val (.ref bR5_1), .unset, .unset] [(.int 6), (.int 7), (.ref bR5_1), (.long pJ916)])) rfl (by rw [hml]; rfl) (argsL := [(.ref bR5_1), (.int 7), (.int 6)]) (rest := [(.long pJ916)]) (lenOf pd_13 rfl) rfl (Nat.le_refl _) (hb hby at_93) (fun _ _ => ⟨rfl, e28, (by decide : 5 + 0 ≤ _), (by decide : 16 + 0 ≤ _)⟩)
  dsimp only [Pt.U, Pt.locs, Pt.cells, Pt.slots] at X29 l29 y29 z29 st29 hQ29
  subst l29 y29 z29
  obtain ⟨rfl, Nq29, e29⟩ := hQ29
  have N29 := Fr.app N28 Nq29
  obtain ⟨_, _, ⟨T30, L30, k30, n30⟩, -, X30, ⟨Lc30, hQ30, l30, y30, z30⟩, st30⟩ := Jvm.LawKit.callS X29 hx (y := yN22) hown (mvT hZ (ow hw 100 rfl)) (mvT hZ (ow hw 101 rfl)) (mvT hZ (ow hw 84 rfl)) (mvT hZ (ow hw 102 rfl)) (by decide) (backOf (W := 0) (laN l Z a0 hw [] bR5_1 (1 : Int32) (6 : Int32) pI900 bR5_0 clq9 bR5_2 (pI900 / (6 : Int32)) T5.heap n0 Z7 x5_6 Arq9 hat14 x5_5 x5_0 x5_1 (by decide) hin13 hc114 hc114') hZ (ow hw 102 rfl) (ow hw 84 rfl) (by decide) (by decide)) (g := (mkF m 114 #[.val (.int pI1), .val (.int pI2), .val (.int pI900), .val (.int 6), .val (.ref bR5_1), .val (.long pJ917), .second] [(.int pI900), (.int 6), (.int 1), (.ref bR5_1)])) rfl (by rw [hml]; rfl) (argsL := [(.ref bR5_1), (.int 1), (.int 6), (.int pI900)]) (rest := []) (lenOf pd_14 rfl) rfl (Nat.le_refl _) (hb hby at_114) (fun _ _ => ⟨rfl, e29, (by decide : 5 + 0 ≤ _), (by decide : 16 + 0 ≤ _)⟩)
  dsimp only [Pt.U, Pt.locs, Pt.cells, Pt.slots] at X30 l30 y30 z30 st30 hQ30
  subst l30 y30 z30
  obtain ⟨rfl, Nq30, e30⟩ := hQ30
  have N30 := Fr.app N29 Nq30
  obtain ⟨_, _, ⟨T31, L31, k31, n31⟩, -, X31, ⟨Lc31, hQ31, l31, y31, z31⟩, st31⟩ := Jvm.LawKit.callS X30 hx (y := yN22) hown (mvT hZ (ow hw 100 rfl)) (mvT hZ (ow hw 101 rfl)) (mvT hZ (ow hw 84 rfl)) (mvT hZ (ow hw 102 rfl)) (by decide) (backOf (W := 0) (laN l Z a0 hw [] bR5_1 (2 : Int32) (6 : Int32) pI900 bR5_0 clq9 bR5_2 (pI900 / (6 : Int32)) T5.heap n0 Z7 x5_6 Arq9 hat17 x5_5 x5_0 x5_1 (by decide) hin16 hc114 hc114') hZ (ow hw 102 rfl) (ow hw 84 rfl) (by decide) (by decide)) (g := (mkF m 125 #[.val (.int pI1), .val (.int pI2), .val (.int pI900), .val (.int 6), .val (.ref bR5_1), .val (.long pJ917), .second] [(.int pI900), (.int 6), (.int 2), (.ref bR5_1)])) rfl (by rw [hml]; rfl) (argsL := [(.ref bR5_1), (.int 2), (.int 6), (.int pI900)]) (rest := []) (lenOf pd_14 rfl) rfl (Nat.le_refl _) (hb hby at_125) (fun _ _ => ⟨rfl, e30, (by decide : 5 + 0 ≤ _), (by decide : 16 + 0 ≤ _)⟩)
  dsimp only [Pt.U, Pt.locs, Pt.cells, Pt.slots] at X31 l31 y31 z31 st31 hQ31
  subst l31 y31 z31
  obtain ⟨rfl, Nq31, e31⟩ := hQ31
  have N31 := Fr.app N30 Nq31
  obtain ⟨_, _, ⟨T32, L32, k32, n32⟩, -, X32, ⟨Lc32, hQ32, l32, y32, z32⟩, st32⟩ := Jvm.LawKit.callS X31 hx (y := yN22) hown (mvT hZ (ow hw 100 rfl)) (mvT hZ (ow hw 101 rfl)) (mvT hZ (ow hw 84 rfl)) (mvT hZ (ow hw 102 rfl)) (by decide) (backOf (W := 0) (laN l Z a0 hw [] bR5_1 (3 : Int32) (6 : Int32) pI900 bR5_0 clq9 bR5_2 (pI900 / (6 : Int32)) T5.heap n0 Z7 x5_6 Arq9 hat20 x5_5 x5_0 x5_1 (by decide) hin19 hc114 hc114') hZ (ow hw 102 rfl) (ow hw 84 rfl) (by decide) (by decide)) (g := (mkF m 136 #[.val (.int pI1), .val (.int pI2), .val (.int pI900), .val (.int 6), .val (.ref bR5_1), .val (.long pJ917), .second] [(.int pI900), (.int 6), (.int 3), (.ref bR5_1)])) rfl (by rw [hml]; rfl) (argsL := [(.ref bR5_1), (.int 3), (.int 6), (.int pI900)]) (rest := []) (lenOf pd_14 rfl) rfl (Nat.le_refl _) (hb hby at_136) (fun _ _ => ⟨rfl, e31, (by decide : 5 + 0 ≤ _), (by decide : 16 + 0 ≤ _)⟩)
  dsimp only [Pt.U, Pt.locs, Pt.cells, Pt.slots] at X32 l32 y32 z32 st32 hQ32
  subst l32 y32 z32
  obtain ⟨rfl, Nq32, e32⟩ := hQ32
  have N32 := Fr.app N31 Nq32
  obtain ⟨_, _, ⟨T33, L33, k33, n33⟩, -, X33, ⟨Lc33, hQ33, l33, y33, z33⟩, st33⟩ := Jvm.LawKit.callS X32 hx (y := yN22) hown (mvT hZ (ow hw 100 rfl)) (mvT hZ (ow hw 101 rfl)) (mvT hZ (ow hw 84 rfl)) (mvT hZ (ow hw 102 rfl)) (by decide) (backOf (W := 0) (laN l Z a0 hw [] bR5_1 (4 : Int32) (6 : Int32) pI900 bR5_0 clq9 bR5_2 (pI900 / (6 : Int32)) T5.heap n0 Z7 x5_6 Arq9 hat23 x5_5 x5_0 x5_1 (by decide) hin22 hc114 hc114') hZ (ow hw 102 rfl) (ow hw 84 rfl) (by decide) (by decide)) (g := (mkF m 147 #[.val (.int pI1), .val (.int pI2), .val (.int pI900), .val (.int 6), .val (.ref bR5_1), .val (.long pJ917), .second] [(.int pI900), (.int 6), (.int 4), (.ref bR5_1)])) rfl (by rw [hml]; rfl) (argsL := [(.ref bR5_1), (.int 4), (.int 6), (.int pI900)]) (rest := []) (lenOf pd_14 rfl) rfl (Nat.le_refl _) (hb hby at_147) (fun _ _ => ⟨rfl, e32, (by decide : 5 + 0 ≤ _), (by decide : 16 + 0 ≤ _)⟩)
  dsimp only [Pt.U, Pt.locs, Pt.cells, Pt.slots] at X33 l33 y33 z33 st33 hQ33
  subst l33 y33 z33
  obtain ⟨rfl, Nq33, e33⟩ := hQ33
  have N33 := Fr.app N32 Nq33
  obtain ⟨_, _, ⟨T34, L34, k34, n34⟩, -, X34, ⟨Lc34, hQ34, l34, y34, z34⟩, st34⟩ := Jvm.LawKit.callS X33 hx (y := yN22) hown (mvT hZ (ow hw 100 rfl)) (mvT hZ (ow hw 101 rfl)) (mvT hZ (ow hw 84 rfl)) (mvT hZ (ow hw 102 rfl)) (by decide) (backOf (W := 0) (laN l Z a0 hw [] bR5_1 (5 : Int32) (6 : Int32) pI900 bR5_0 clq9 bR5_2 (pI900 / (6 : Int32)) T5.heap n0 Z7 x5_6 Arq9 hat26 x5_5 x5_0 x5_1 (by decide) hin25 hc114 hc114') hZ (ow hw 102 rfl) (ow hw 84 rfl) (by decide) (by decide)) (g := (mkF m 158 #[.val (.int pI1), .val (.int pI2), .val (.int pI900), .val (.int 6), .val (.ref bR5_1), .val (.long pJ917), .second] [(.int pI900), (.int 6), (.int 5), (.ref bR5_1)])) rfl (by rw [hml]; rfl) (argsL := [(.ref bR5_1), (.int 5), (.int 6), (.int pI900)]) (rest := []) (lenOf pd_14 rfl) rfl (Nat.le_refl _) (hb hby at_158) (fun _ _ => ⟨rfl, e33, (by decide : 5 + 0 ≤ _), (by decide : 16 + 0 ≤ _)⟩)
  dsimp only [Pt.U, Pt.locs, Pt.cells, Pt.slots] at X34 l34 y34 z34 st34 hQ34
  subst l34 y34 z34
  obtain ⟨rfl, Nq34, e34⟩ := hQ34
  have N34 := Fr.app N33 Nq34
  obtain ⟨_, _, ⟨T35, L35, k35, n35⟩, -, X35, ⟨Lc35, hQ35, l35, y35, z35⟩, st35⟩ := Jvm.LawKit.callS X34 hx (y := yN22) hown (mvT hZ (ow hw 100 rfl)) (mvT hZ (ow hw 101 rfl)) (mvT hZ (ow hw 84 rfl)) (mvT hZ (ow hw 102 rfl)) (by decide) (backOf (W := 0) (laE l Z a0 hw [] bR5_1 (6 : Int32) (6 : Int32) pI900 T5.heap n0 Z7 (by decide)) hZ (ow hw 102 rfl) (ow hw 84 rfl) (by decide) (by decide)) (g := (mkF m 170 #[.val (.int pI1), .val (.int pI2), .val (.int pI900), .val (.int 6), .val (.ref bR5_1), .val (.long pJ917), .second] [(.int pI900), (.int 6), (.int 6), (.ref bR5_1)])) rfl (by rw [hml]; rfl) (argsL := [(.ref bR5_1), (.int 6), (.int 6), (.int pI900)]) (rest := []) (lenOf pd_14 rfl) rfl (Nat.le_refl _) (hb hby at_170) (fun _ _ => ⟨rfl, e34, (by decide : 5 + 0 ≤ _), (by decide : 16 + 0 ≤ _)⟩)
  dsimp only [Pt.U, Pt.locs, Pt.cells, Pt.slots] at X35 l35 y35 z35 st35 hQ35
  subst l35 y35 z35
  obtain ⟨rfl, Nq35, e35⟩ := hQ35
  have N35 := Fr.app N34 Nq35
  obtain ⟨_, _, ⟨T36, L36, k36, n36⟩, -, X36, ⟨Lc36, hQ36, l36, y36, z36⟩, st36⟩ := Jvm.LawKit.callS X35 hx (y := yN22) hown (mvT hZ (ow hw 100 rfl)) (mvT hZ (ow hw 101 rfl)) (mvT hZ (ow hw 84 rfl)) (mvT hZ (ow hw 102 rfl)) (by decide) (backOf (W := 0) (laE l Z a0 hw [] bR5_1 (7 : Int32) (6 : Int32) pI900 T5.heap n0 Z7 (by decide)) hZ (ow hw 102 rfl) (ow hw 84 rfl) (by decide) (by decide)) (g := (mkF m 182 #[.val (.int pI1), .val (.int pI2), .val (.int pI900), .val (.int 6), .val (.ref bR5_1), .val (.long pJ917), .second] [(.int pI900), (.int 6), (.int 7), (.ref bR5_1)])) rfl (by rw [hml]; rfl) (argsL := [(.ref bR5_1), (.int 7), (.int 6), (.int pI900)]) (rest := []) (lenOf pd_14 rfl) rfl (Nat.le_refl _) (hb hby at_182) (fun _ _ => ⟨rfl, e35, (by decide : 5 + 0 ≤ _), (by decide : 16 + 0 ≤ _)⟩)
  dsimp only [Pt.U, Pt.locs, Pt.cells, Pt.slots] at X36 l36 y36 z36 st36 hQ36
  subst l36 y36 z36
  obtain ⟨rfl, Nq36, e36⟩ := hQ36
  have N36 := Fr.app N35 Nq36
  obtain ⟨fs, hr, hrun, hended, hW, hsame⟩ := X36.leave (v := some (.int 1)) (fun h => by rw [Bd.returns] at h; cases h)
  refine ⟨_, _, castTop (ef_law6 m pI1 pI2) ?_, hrun, hended, _, _, rfl, ?_, ⟨_, rfl⟩, hW, hsame.mono (by decide) (by decide)⟩
  · show oS p e below s₁ m 0 #[.val (.int pI1), .val (.int pI2), .unset, .unset, .unset, .unset, .unset] [] _
    refine XS.iloadN X0.here hx rfl (hb hby at_0) rfl ?_
    refine X0.ldcInt hx hown (mvT hZ (ow hw 0 rfl)) (g := (mkF m 1 #[.val (.int pI1), .val (.int pI2), .unset, .unset, .unset, .unset, .unset] [(.int pI1)])) rfl (hb hby at_1) _ ?_
    refine XS.iand X0.here hx rfl (hb hby at_3) rfl ?_
    show Steps p.tables e below (s₁.setTop (mkF m 4 #[.val (.int pI1), .val (.int pI2), .unset, .unset, .unset, .unset, .unset] [(.int (pI1 &&& (2147483647 : Int32)))])) _
    rw [hr3]
    refine XS.istoreN X0.here hx rfl (hb hby at_4) rfl (l' := #[.val (.int pI1), .val (.int pI2), .val (.int pI900), .unset, .unset, .unset, .unset]) rfl ?_
    refine XS.iloadN X0.here hx rfl (hb hby at_5) rfl ?_
    refine XS.bipush X0.here hx rfl (hb hby at_6) ?_
    refine XS.iand X0.here hx rfl (hb hby at_8) rfl ?_
    show Steps p.tables e below (s₁.setTop (mkF m 9 #[.val (.int pI1), .val (.int pI2), .val (.int pI900), .unset, .unset, .unset, .unset] [(.int (pI2 &&& (7 : Int32)))])) _
    rw [hc8]
    refine XS.iconst X0.here hx rfl (hb hby at_9) ?_
    show oS p e below s₁ m 10 #[.val (.int pI1), .val (.int pI2), .val (.int pI900), .unset, .unset, .unset, .unset] [(.int 1), (.int 5)] _
    refine XS.iadd X0.here hx rfl (hb hby at_10) rfl ?_
    refine XS.istoreN X0.here hx rfl (hb hby at_11) rfl (l' := #[.val (.int pI1), .val (.int pI2), .val (.int pI900), .val (.int 6), .unset, .unset, .unset]) rfl ?_
    refine XS.iloadN X0.here hx rfl (hb hby at_12) rfl ?_
    refine XS.iloadN X0.here hx rfl (hb hby at_13) rfl ?_
    refine st5 _ ?_
    refine XS.astore X5.here hx rfl (hb hby at_17) rfl rfl (l' := #[.val (.int pI1), .val (.int pI2), .val (.int pI900), .val (.int 6), .val (.ref bR5_1), .unset, .unset]) rfl ?_
    refine XS.aload X5.here hx rfl (hb hby at_19) rfl rfl ?_
    refine st8.trans ?_
    show oS p e below T8 m 26 #[.val (.int pI1), .val (.int pI2), .val (.int pI900), .val (.int 6), .val (.ref bR5_1), .unset, .unset] [(.int 6)] _
    refine XS.iloadN X8.here hx rfl (hb hby at_26) rfl ?_
    refine XS.icmpYes X8.here hx rfl (pc0 := 27) (pc' := 32) rfl (hb hby at_27) rfl (teq (by decide : (6 : Int32) = (6 : Int32))).1 (by decide) (by decide) ?_
    refine XS.aload X8.here hx rfl (hb hby at_32) rfl rfl ?_
    refine XS.iconst X8.here hx rfl (hb hby at_34) ?_
    refine XS.iloadN X8.here hx rfl (hb hby at_35) rfl ?_
    refine st12 _ ?_
    refine XS.aload X12.here hx rfl (hb hby at_39) rfl rfl ?_
    refine XS.iconst X12.here hx rfl (hb hby at_41) ?_
    show oS p e below T12 m 42 #[.val (.int pI1), .val (.int pI2), .val (.int pI900), .val (.int 6), .val (.ref bR5_1), .unset, .unset] [(.int 1), (.ref bR5_1), (.long (((pI900 / (6 : Int32)) + (pI900 % (6 : Int32))).toInt64))] _
    refine XS.iloadN X12.here hx rfl (hb hby at_42) rfl ?_
    refine st15 _ ?_
    refine XS.ladd X15.here hx rfl (hb hby at_46) rfl ?_
    show Steps p.tables e below (T15.setTop (mkF m 47 #[.val (.int pI1), .val (.int pI2), .val (.int pI900), .val (.int 6), .val (.ref bR5_1), .unset, .unset] [(.long ((((pI900 / (6 : Int32)) + (pI900 % (6 : Int32))).toInt64) + ((pI900 / (6 : Int32)).toInt64)))])) _
    rw [hr46]
    refine XS.aload X15.here hx rfl (hb hby at_47) rfl rfl ?_
    refine XS.iconst X15.here hx rfl (hb hby at_49) ?_
    refine XS.iloadN X15.here hx rfl (hb hby at_50) rfl ?_
    refine st18 _ ?_
    refine XS.ladd X18.here hx rfl (hb hby at_54) rfl ?_
    show Steps p.tables e below (T18.setTop (mkF m 55 #[.val (.int pI1), .val (.int pI2), .val (.int pI900), .val (.int 6), .val (.ref bR5_1), .unset, .unset] [(.long (pJ911 + ((pI900 / (6 : Int32)).toInt64)))])) _
    rw [hr54]
    show oS p e below T18 m 55 #[.val (.int pI1), .val (.int pI2), .val (.int pI900), .val (.int 6), .val (.ref bR5_1), .unset, .unset] [(.long pJ912)] _
    refine XS.aload X18.here hx rfl (hb hby at_55) rfl rfl ?_
    refine XS.iconst X18.here hx rfl (hb hby at_57) ?_
    refine XS.iloadN X18.here hx rfl (hb hby at_58) rfl ?_
    refine st21 _ ?_
    refine XS.ladd X21.here hx rfl (hb hby at_62) rfl ?_
    show Steps p.tables e below (T21.setTop (mkF m 63 #[.val (.int pI1), .val (.int pI2), .val (.int pI900), .val (.int 6), .val (.ref bR5_1), .unset, .unset] [(.long (pJ912 + ((pI900 / (6 : Int32)).toInt64)))])) _
    rw [hr62]
    refine XS.aload X21.here hx rfl (hb hby at_63) rfl rfl ?_
    refine XS.iconst X21.here hx rfl (hb hby at_65) ?_
    refine XS.iloadN X21.here hx rfl (hb hby at_66) rfl ?_
    show oS p e below T21 m 67 #[.val (.int pI1), .val (.int pI2), .val (.int pI900), .val (.int 6), .val (.ref bR5_1), .unset, .unset] [(.int 6), (.int 4), (.ref bR5_1), (.long pJ913)] _
    refine st24 _ ?_
    refine XS.ladd X24.here hx rfl (hb hby at_70) rfl ?_
    show Steps p.tables e below (T24.setTop (mkF m 71 #[.val (.int pI1), .val (.int pI2), .val (.int pI900), .val (.int 6), .val (.ref bR5_1), .unset, .unset] [(.long (pJ913 + ((pI900 / (6 : Int32)).toInt64)))])) _
    rw [hr70]
    refine XS.aload X24.here hx rfl (hb hby at_71) rfl rfl ?_
    refine XS.iconst X24.here hx rfl (hb hby at_73) ?_
    refine XS.iloadN X24.here hx rfl (hb hby at_74) rfl ?_
    refine st27 _ ?_
    refine XS.ladd X27.here hx rfl (hb hby at_78) rfl ?_
    show Steps p.tables e below (T27.setTop (mkF m 79 #[.val (.int pI1), .val (.int pI2), .val (.int pI900), .val (.int 6), .val (.ref bR5_1), .unset, .unset] [(.long (pJ914 + ((pI900 / (6 : Int32)).toInt64)))])) _
    rw [hr78]
    refine XS.aload X27.here hx rfl (hb hby at_79) rfl rfl ?_
    show oS p e below T27 m 81 #[.val (.int pI1), .val (.int pI2), .val (.int pI900), .val (.int 6), .val (.ref bR5_1), .unset, .unset] [(.ref bR5_1), (.long pJ915)] _
    refine XS.bipush X27.here hx rfl (hb hby at_81) ?_
    refine XS.iloadN X27.here hx rfl (hb hby at_83) rfl ?_
    refine st28 _ ?_
    refine XS.ladd X28.here hx rfl (hb hby at_87) rfl ?_
    show Steps p.tables e below (T28.setTop (mkF m 88 #[.val (.int pI1), .val (.int pI2), .val (.int pI900), .val (.int 6), .val (.ref bR5_1), .unset, .unset] [(.long (pJ915 + (0 : Int64)))])) _
    rw [hr87]
    refine XS.aload X28.here hx rfl (hb hby at_88) rfl rfl ?_
    refine XS.bipush X28.here hx rfl (hb hby at_90) ?_
    refine XS.iloadN X28.here hx rfl (hb hby at_92) rfl ?_
    refine st29 _ ?_
    show oS p e below T29 m 96 #[.val (.int pI1), .val (.int pI2), .val (.int pI900), .val (.int 6), .val (.ref bR5_1), .unset, .unset] [(.long 0), (.long pJ916)] _
    refine XS.ladd X29.here hx rfl (hb hby at_96) rfl ?_
    show Steps p.tables e below (T29.setTop (mkF m 97 #[.val (.int pI1), .val (.int pI2), .val (.int pI900), .val (.int 6), .val (.ref bR5_1), .unset, .unset] [(.long (pJ916 + (0 : Int64)))])) _
    rw [hr96]
    refine XS.lstore X29.here hx rfl (hb hby at_97) rfl (l' := #[.val (.int pI1), .val (.int pI2), .val (.int pI900), .val (.int 6), .val (.ref bR5_1), .val (.long pJ917), .second]) rfl ?_
    refine XS.lload X29.here hx rfl (hb hby at_99) rfl ?_
    refine XS.iloadN X29.here hx rfl (hb hby at_101) rfl ?_
    refine XS.i2l X29.here hx rfl (hb hby at_102) rfl ?_
    refine XS.lcmp X29.here hx rfl (hb hby at_103) rfl ?_
    refine XS.ifYes X29.here hx rfl (pc0 := 104) (pc' := 109) rfl (hb hby at_104) rfl ((if0 _ _).trans (teq hc104).1) (by decide) (by decide) ?_
    refine XS.aload X29.here hx rfl (hb hby at_109) rfl rfl ?_
    show oS p e below T29 m 111 #[.val (.int pI1), .val (.int pI2), .val (.int pI900), .val (.int 6), .val (.ref bR5_1), .val (.long pJ917), .second] [(.ref bR5_1)] _
    refine XS.iconst X29.here hx rfl (hb hby at_111) ?_
    refine XS.iloadN X29.here hx rfl (hb hby at_112) rfl ?_
    refine XS.iloadN X29.here hx rfl (hb hby at_113) rfl ?_
    refine st30 _ ?_
    refine XS.ifNo X30.here hx rfl (hb hby at_117) rfl ((if0 _ _).trans (feq (by decide : ¬ ((1 : Int32) = (0 : Int32)))).1) ?_
    refine XS.aload X30.here hx rfl (hb hby at_120) rfl rfl ?_
    refine XS.iconst X30.here hx rfl (hb hby at_122) ?_
    refine XS.iloadN X30.here hx rfl (hb hby at_123) rfl ?_
    show oS p e below T30 m 124 #[.val (.int pI1), .val (.int pI2), .val (.int pI900), .val (.int 6), .val (.ref bR5_1), .val (.long pJ917), .second] [(.int 6), (.int 2), (.ref bR5_1)] _
    refine XS.iloadN X30.here hx rfl (hb hby at_124) rfl ?_
    refine st31 _ ?_
    refine XS.ifNo X31.here hx rfl (hb hby at_128) rfl ((if0 _ _).trans (feq (by decide : ¬ ((1 : Int32) = (0 : Int32)))).1) ?_
    refine XS.aload X31.here hx rfl (hb hby at_131) rfl rfl ?_
    refine XS.iconst X31.here hx rfl (hb hby at_133) ?_
    refine XS.iloadN X31.here hx rfl (hb hby at_134) rfl ?_
    refine XS.iloadN X31.here hx rfl (hb hby at_135) rfl ?_
    refine st32 _ ?_
    show oS p e below T32 m 139 #[.val (.int pI1), .val (.int pI2), .val (.int pI900), .val (.int 6), .val (.ref bR5_1), .val (.long pJ917), .second] [(.int 1)] _
    refine XS.ifNo X32.here hx rfl (hb hby at_139) rfl ((if0 _ _).trans (feq (by decide : ¬ ((1 : Int32) = (0 : Int32)))).1) ?_
    refine XS.aload X32.here hx rfl (hb hby at_142) rfl rfl ?_
    refine XS.iconst X32.here hx rfl (hb hby at_144) ?_
    refine XS.iloadN X32.here hx rfl (hb hby at_145) rfl ?_
    refine XS.iloadN X32.here hx rfl (hb hby at_146) rfl ?_
    refine st33 _ ?_
    refine XS.ifNo X33.here hx rfl (hb hby at_150) rfl ((if0 _ _).trans (feq (by decide : ¬ ((1 : Int32) = (0 : Int32)))).1) ?_
    refine XS.aload X33.here hx rfl (hb hby at_153) rfl rfl ?_
    show oS p e below T33 m 155 #[.val (.int pI1), .val (.int pI2), .val (.int pI900), .val (.int 6), .val (.ref bR5_1), .val (.long pJ917), .second] [(.ref bR5_1)] _
    refine XS.iconst X33.here hx rfl (hb hby at_155) ?_
    refine XS.iloadN X33.here hx rfl (hb hby at_156) rfl ?_
    refine XS.iloadN X33.here hx rfl (hb hby at_157) rfl ?_
    refine st34 _ ?_
    refine XS.ifNo X34.here hx rfl (hb hby at_161) rfl ((if0 _ _).trans (feq (by decide : ¬ ((1 : Int32) = (0 : Int32)))).1) ?_
    refine XS.aload X34.here hx rfl (hb hby at_164) rfl rfl ?_
    refine XS.bipush X34.here hx rfl (hb hby at_166) ?_
    refine XS.iloadN X34.here hx rfl (hb hby at_168) rfl ?_
    show oS p e below T34 m 169 #[.val (.int pI1), .val (.int pI2), .val (.int pI900), .val (.int 6), .val (.ref bR5_1), .val (.long pJ917), .second] [(.int 6), (.int 6), (.ref bR5_1)] _
    refine XS.iloadN X34.here hx rfl (hb hby at_169) rfl ?_
    refine st35 _ ?_
    refine XS.ifNo X35.here hx rfl (hb hby at_173) rfl ((if0 _ _).trans (feq (by decide : ¬ ((1 : Int32) = (0 : Int32)))).1) ?_
    refine XS.aload X35.here hx rfl (hb hby at_176) rfl rfl ?_
    refine XS.bipush X35.here hx rfl (hb hby at_178) ?_
    refine XS.iloadN X35.here hx rfl (hb hby at_180) rfl ?_
    refine XS.iloadN X35.here hx rfl (hb hby at_181) rfl ?_
    refine st36 _ ?_
    show oS p e below T36 m 185 #[.val (.int pI1), .val (.int pI2), .val (.int pI900), .val (.int 6), .val (.ref bR5_1), .val (.long pJ917), .second] [(.int 1)] _
    refine XS.ifNo X36.here hx rfl (hb hby at_185) rfl ((if0 _ _).trans (feq (by decide : ¬ ((1 : Int32) = (0 : Int32)))).1) ?_
    refine XS.iconst X36.here hx rfl (hb hby at_188) ?_
    refine XS.goto X36.here hx rfl (pc0 := 189) (pc' := 193) rfl (hb hby at_189) (by decide) (by decide) ?_
    exact retN X36 hx (t := .boolean) Bd.returns (by simp) (hb hby at_193) hr
  · show Qlaw6 Z pI1 pI2 pI900 pR3 pC4 pJ911 pJ912 pJ913 pJ914 pJ915 pJ916 pJ917 h0 n0 _ T36.heap _
    rw [e36]
    exact ⟨rfl, N36⟩
theorem ef_law7 (m : MethodId) (pI1 : Int32) (pI2 : Int32) : entryFrame m #[(.int pI1), (.int pI2)] maxLocals = mkF m 0 #[.val (.int pI1), .val (.int pI2), .unset, .unset, .unset, .unset, .unset] [] := by first | (simp [entryFrame, mkF, argsToLocals, Value.category, maxLocals]; done) | rfl
def Qlaw7 (Z : State) (pI1 : Int32) (pI2 : Int32) (pI900 : Int32) (pR3 : Addr) (pC4 : Cell) (pJ911 : Int64) (pJ912 : Int64) (pJ913 : Int64) (pJ914 : Int64) (pJ915 : Int64) (pJ916 : Int64) (pJ917 : Int64) (h0 : Heap) (n0 : Nat) (v : Option Value) (h : Heap) (L : List Loc) : Prop := v = some (.int 1) ∧ Fr n0 L
set_option maxRecDepth 65536 in
set_option maxHeartbeats 40000000 in
theorem law7 (l : Launch) (Z : State) (a0 : Array Value) (hw : ∀ d ∈ tables_1, d.before a0 Z = true) (ws : List Jvm.Cond) (pI1 : Int32) (pI2 : Int32) (pI900 : Int32) (pR3 : Addr) (pC4 : Cell) (pJ911 : Int64) (pJ912 : Int64) (pJ913 : Int64) (pJ914 : Int64) (pJ915 : Int64) (pJ916 : Int64) (pJ917 : Int64) (h0 : Heap) (n0 : Nat) (Z0 : n0 ≤ h0.size) (S_Integer_IntegerCache_high : Sta Z h0 "java/lang/Integer$IntegerCache" "high" "I" (.int 127)) (S_Integer_IntegerCache_cache : Sta Z h0 "java/lang/Integer$IntegerCache" "cache" "[Ljava/lang/Integer;" (.ref pR3)) (B_pR3 : Bxs Z pR3 pC4 "java/lang/Integer" "I" (256 : Int32) (fun j => .int (j - 128))) (D0 : Old Z n0 h0) (hr3 : (pI1 &&& (2147483647 : Int32)) = pI900) (hc8 : (pI2 &&& (7 : Int32)) = (6 : Int32)) (hr46 : ((((pI900 / (7 : Int32)) + (pI900 % (7 : Int32))).toInt64) + ((pI900 / (7 : Int32)).toInt64)) = pJ911) (hr54 : (pJ911 + ((pI900 / (7 : Int32)).toInt64)) = pJ912) (hr62 : (pJ912 + ((pI900 / (7 : Int32)).toInt64)) = pJ913) (hr70 : (pJ913 + ((pI900 / (7 : Int32)).toInt64)) = pJ914) (hr78 : (pJ914 + ((pI900 / (7 : Int32)).toInt64)) = pJ915) (hr87 : (pJ915 + ((pI900 / (7 : Int32)).toInt64)) = pJ916) (hr96 : (pJ916 + (0 : Int64)) = pJ917) (hc104 : (lcmpW pJ917 (pI900.toInt64)) = (0 : Int32)) (hc114 : ¬ ((0 : Int32) < (lcmpW (((pI900 / (7 : Int32)).toInt64) * ((7 : Int32).toInt64)) (pI900.toInt64)))) (hc114' : (lcmpW (pI900.toInt64) ((((pI900 / (7 : Int32)).toInt64) + (1 : Int64)) * ((7 : Int32).toInt64))) < (0 : Int32)) :
    oM l x code maxLocals ret ws room_1 #[(.int pI1), (.int pI2)] Z h0 (Qlaw7 Z pI1 pI2 pI900 pR3 pC4 pJ911 pJ912 pJ913 pJ914 pJ915 pJ916 pJ917 h0 n0) := by
  refine MetFree.of_bodySF (plainFor_of_name pn_12) hisR ?_
  intro p e s m args below meth c s₁ Bd hml0 hP hK
  obtain ⟨rfl, hZ, hh⟩ := hP
  have hx := Bd.exec
  have hby := Bd.bytes
  have hml : c.maxLocals = 7 := hml0
  have hown : s.vm.findClass "com/example/watchful_junction/watchfuljunction/scenario/ProportionalSpecEqualSharesPinLaw" = some m.cls := findClass_of_methodNamed Bd.named
  have hnm := (name_of_methodNamed Bd.named Bd.method).1
  have X0 : Stand p l e room_1 s m #[(.int pI1), (.int pI2)] below meth c s₁ [] 0 0 := Stand.of_body Bd
  have e0 : s₁.heap = h0 := by rw [← hh, Bd.state]; rfl
  have N0 := Fr.nil n0
  obtain ⟨_, _, ⟨T5, L5, k5, n5⟩, -, X5, ⟨Lc5, hQ5, l5, y5, z5⟩, st5⟩ := Jvm.LawKit.callS X0 hx (y := yN14) hown (mvT hZ (ow hw 1 rfl)) (mvT hZ (ow hw 2 rfl)) (mvT hZ (ow hw 3 rfl)) (mvT hZ (ow hw 4 rfl)) (by decide) (backOf (W := 0) (eqs7 l Z a0 hw [] pI900 pR3 pC4 h0 n0 Z0 S_Integer_IntegerCache_high S_Integer_IntegerCache_cache B_pR3 D0) hZ (ow hw 4 rfl) (ow hw 3 rfl) (by decide) (by decide)) (g := (mkF m 14 #[.val (.int pI1), .val (.int pI2), .val (.int pI900), .val (.int 7), .unset, .unset, .unset] [(.int 7), (.int pI900)])) rfl (by rw [hml]; rfl) (argsL := [(.int pI900), (.int 7)]) (rest := []) (lenOf pd_12 rfl) rfl (Nat.le_refl _) (hb hby at_14) (fun _ _ => ⟨rfl, e0, (by decide : 0 + 5 ≤ _), (by decide : 0 + 18 ≤ _)⟩)
  dsimp only [Pt.U, Pt.locs, Pt.cells, Pt.slots] at X5 l5 y5 z5 st5 hQ5
  subst l5 y5 z5
  obtain ⟨bR5_0, bR5_1, bR5_2, bR5_3, kK5_0, rfl, Nq5, Kq5, sz5_0, sz5_1, x5_0, x5_1, x5_2, x5_3, x5_4, x5_5, x5_6, x5_7⟩ := hQ5
  have N5 := Fr.app N0 Nq5
  obtain ⟨Lh5, X5, N5⟩ := own_hide X5 N5
  have Z7 : n0 ≤ T5.heap.size := (Nat.le_trans Z0 Kq5.1)
  obtain ⟨cq8, kq8, q8a, q8b, q8c⟩ := isOf hZ rfl x5_5
  obtain ⟨_, _, ⟨T8, L8, k8, n8⟩, -, X8, ⟨Lc8, hQ8, l8, y8, z8⟩, st8⟩ := X5.interfaceBack hx (xi := yN23) (y := yN16) hown (mvT hZ (ow hw 73 rfl)) (mvT hZ (ow hw 74 rfl)) (mvT hZ (ow hw 75 rfl)) (mvT hZ (ow hw 76 rfl)) (mvT hZ (ow hw 77 rfl)) (mvT hZ (ow hw 78 rfl)) (mvT hZ (ow hw 79 rfl)) (mvT hZ (ow hw 80 rfl)) (by decide) (backOf (W := 0) (lnS7 l Z a0 hw [] bR5_1 bR5_0 bR5_3 bR5_2 kK5_0 T5.heap n0 Z7 x5_6 x5_4) hZ (ow hw 81 rfl) (ow hw 43 rfl) (by decide) (by decide)) q8a q8b q8c (g := (mkF m 21 #[.val (.int pI1), .val (.int pI2), .val (.int pI900), .val (.int 7), .val (.ref bR5_1), .unset, .unset] [(.ref bR5_1)])) rfl (by rw [hml]; rfl) (Steps.refl _) (argsL := []) (rest := []) (lenOf pd_6 rfl) rfl (Nat.le_refl _) (hb hby at_21) (fun _ _ => ⟨rfl, rfl, (by decide : 5 + 0 ≤ _), (by decide : 18 + 0 ≤ _)⟩)
  dsimp only [Pt.U, Pt.locs, Pt.cells, Pt.slots] at X8 l8 y8 z8 st8 hQ8
  subst l8 y8 z8
  obtain ⟨rfl, Nq8, e8⟩ := hQ8
  have N8 := Fr.app N5 Nq8
  obtain ⟨clq9, Arq9, Akq9, Asq9, Anq9, Ahq9, Agq9⟩ := id x5_4
  have hin10 : ¬ ((0 : Int32) < 0 ∨ clq9.slots.size ≤ ((0 : Int32)).toNatClampNeg) := inb_of Asq9 ⟨by decide, by decide⟩
  have hat11 : clq9.slots[((0 : Int32)).toNatClampNeg]? = some (.ref bR5_3) := Has.at Ahq9 hin10 rfl
  obtain ⟨_, _, ⟨T12, L12, k12, n12⟩, -, X12, ⟨Lc12, hQ12, l12, y12, z12⟩, st12⟩ := Jvm.LawKit.callS X8 hx (y := yN20) hown (mvT hZ (ow hw 82 rfl)) (mvT hZ (ow hw 83 rfl)) (mvT hZ (ow hw 84 rfl)) (mvT hZ (ow hw 85 rfl)) (by decide) (backOf (W := 0) (atN l Z a0 hw [] bR5_1 (0 : Int32) (7 : Int32) bR5_0 clq9 bR5_3 ((pI900 / (7 : Int32)) + (pI900 % (7 : Int32))) T5.heap n0 Z7 x5_6 Arq9 hat11 x5_5 x5_2 x5_3 (by decide) hin10) hZ (ow hw 85 rfl) (ow hw 84 rfl) (by decide) (by decide)) (g := (mkF m 36 #[.val (.int pI1), .val (.int pI2), .val (.int pI900), .val (.int 7), .val (.ref bR5_1), .unset, .unset] [(.int 7), (.int 0), (.ref bR5_1)])) rfl (by rw [hml]; rfl) (argsL := [(.ref bR5_1), (.int 0), (.int 7)]) (rest := []) (lenOf pd_13 rfl) rfl (Nat.le_refl _) (hb hby at_36) (fun _ _ => ⟨rfl, e8, (by decide : 5 + 0 ≤ _), (by decide : 18 + 0 ≤ _)⟩)
  dsimp only [Pt.U, Pt.locs, Pt.cells, Pt.slots] at X12 l12 y12 z12 st12 hQ12
  subst l12 y12 z12
  obtain ⟨rfl, Nq12, e12⟩ := hQ12
  have N12 := Fr.app N8 Nq12
  have hin13 : ¬ ((1 : Int32) < 0 ∨ clq9.slots.size ≤ ((1 : Int32)).toNatClampNeg) := inb_of Asq9 ⟨by decide, by decide⟩
  have hat14 : clq9.slots[((1 : Int32)).toNatClampNeg]? = some (.ref bR5_2) := Has.at Ahq9 hin13 rfl
  obtain ⟨_, _, ⟨T15, L15, k15, n15⟩, -, X15, ⟨Lc15, hQ15, l15, y15, z15⟩, st15⟩ := Jvm.LawKit.callS X12 hx (y := yN20) hown (mvT hZ (ow hw 82 rfl)) (mvT hZ (ow hw 83 rfl)) (mvT hZ (ow hw 84 rfl)) (mvT hZ (ow hw 85 rfl)) (by decide) (backOf (W := 2) (atN l Z a0 hw [] bR5_1 (1 : Int32) (7 : Int32) bR5_0 clq9 bR5_2 (pI900 / (7 : Int32)) T5.heap n0 Z7 x5_6 Arq9 hat14 x5_5 x5_0 x5_1 (by decide) hin13) hZ (ow hw 85 rfl) (ow hw 84 rfl) (by decide) (by decide)) (g := (mkF m 43 #[.val (.int pI1), .val (.int pI2), .val (.int pI900), .val (.int 7), .val (.ref bR5_1), .unset, .unset] [(.int 7), (.int 1), (.ref bR5_1), (.long (((pI900 / (7 : Int32)) + (pI900 % (7 : Int32))).toInt64))])) rfl (by rw [hml]; rfl) (argsL := [(.ref bR5_1), (.int 1), (.int 7)]) (rest := [(.long (((pI900 / (7 : Int32)) + (pI900 % (7 : Int32))).toInt64))]) (lenOf pd_13 rfl) rfl (Nat.le_refl _) (hb hby at_43) (fun _ _ => ⟨rfl, e12, (by decide : 5 + 0 ≤ _), (by decide : 18 + 0 ≤ _)⟩)
  dsimp only [Pt.U, Pt.locs, Pt.cells, Pt.slots] at X15 l15 y15 z15 st15 hQ15
  subst l15 y15 z15
  obtain ⟨rfl, Nq15, e15⟩ := hQ15
  have N15 := Fr.app N12 Nq15
  have hin16 : ¬ ((2 : Int32) < 0 ∨ clq9.slots.size ≤ ((2 : Int32)).toNatClampNeg) := inb_of Asq9 ⟨by decide, by decide⟩
  have hat17 : clq9.slots[((2 : Int32)).toNatClampNeg]? = some (.ref bR5_2) := Has.at Ahq9 hin16 rfl
  obtain ⟨_, _, ⟨T18, L18, k18, n18⟩, -, X18, ⟨Lc18, hQ18, l18, y18, z18⟩, st18⟩ := Jvm.LawKit.callS X15 hx (y := yN20) hown (mvT hZ (ow hw 82 rfl)) (mvT hZ (ow hw 83 rfl)) (mvT hZ (ow hw 84 rfl)) (mvT hZ (ow hw 85 rfl)) (by decide) (backOf (W := 2) (atN l Z a0 hw [] bR5_1 (2 : Int32) (7 : Int32) bR5_0 clq9 bR5_2 (pI900 / (7 : Int32)) T5.heap n0 Z7 x5_6 Arq9 hat17 x5_5 x5_0 x5_1 (by decide) hin16) hZ (ow hw 85 rfl) (ow hw 84 rfl) (by decide) (by decide)) (g := (mkF m 51 #[.val (.int pI1), .val (.int pI2), .val (.int pI900), .val (.int 7), .val (.ref bR5_1), .unset, .unset] [(.int 7), (.int 2), (.ref bR5_1), (.long pJ911)])) rfl (by rw [hml]; rfl) (argsL := [(.ref bR5_1), (.int 2), (.int 7)]) (rest := [(.long pJ911)]) (lenOf pd_13 rfl) rfl (Nat.le_refl _) (hb hby at_51) (fun _ _ => ⟨rfl, e15, (by decide : 5 + 0 ≤ _), (by decide : 18 + 0 ≤ _)⟩)
  dsimp only [Pt.U, Pt.locs, Pt.cells, Pt.slots] at X18 l18 y18 z18 st18 hQ18
  subst l18 y18 z18
  obtain ⟨rfl, Nq18, e18⟩ := hQ18
  have N18 := Fr.app N15 Nq18
  have hin19 : ¬ ((3 : Int32) < 0 ∨ clq9.slots.size ≤ ((3 : Int32)).toNatClampNeg) := inb_of Asq9 ⟨by decide, by decide⟩
  have hat20 : clq9.slots[((3 : Int32)).toNatClampNeg]? = some (.ref bR5_2) := Has.at Ahq9 hin19 rfl
  obtain ⟨_, _, ⟨T21, L21, k21, n21⟩, -, X21, ⟨Lc21, hQ21, l21, y21, z21⟩, st21⟩ := Jvm.LawKit.callS X18 hx (y := yN20) hown (mvT hZ (ow hw 82 rfl)) (mvT hZ (ow hw 83 rfl)) (mvT hZ (ow hw 84 rfl)) (mvT hZ (ow hw 85 rfl)) (by decide) (backOf (W := 2) (atN l Z a0 hw [] bR5_1 (3 : Int32) (7 : Int32) bR5_0 clq9 bR5_2 (pI900 / (7 : Int32)) T5.heap n0 Z7 x5_6 Arq9 hat20 x5_5 x5_0 x5_1 (by decide) hin19) hZ (ow hw 85 rfl) (ow hw 84 rfl) (by decide) (by decide)) (g := (mkF m 59 #[.val (.int pI1), .val (.int pI2), .val (.int pI900), .val (.int 7), .val (.ref bR5_1), .unset, .unset] [(.int 7), (.int 3), (.ref bR5_1), (.long pJ912)])) rfl (by rw [hml]; rfl) (argsL := [(.ref bR5_1), (.int 3), (.int 7)]) (rest := [(.long pJ912)]) (lenOf pd_13 rfl) rfl (Nat.le_refl _) (hb hby at_59) (fun _ _ => ⟨rfl, e18, (by decide : 5 + 0 ≤ _), (by decide : 18 + 0 ≤ _)⟩)
  dsimp only [Pt.U, Pt.locs, Pt.cells, Pt.slots] at X21 l21 y21 z21 st21 hQ21
  subst l21 y21 z21
  obtain ⟨rfl, Nq21, e21⟩ := hQ21
  have N21 := Fr.app N18 Nq21
  have hin22 : ¬ ((4 : Int32) < 0 ∨ clq9.slots.size ≤ ((4 : Int32)).toNatClampNeg) := inb_of Asq9 ⟨by decide, by decide⟩
  have hat23 : clq9.slots[((4 : Int32)).toNatClampNeg]? = some (.ref bR5_2) := Has.at Ahq9 hin22 rfl
  obtain ⟨_, _, ⟨T24, L24, k24, n24⟩, -, X24, ⟨Lc24, hQ24, l24, y24, z24⟩, st24⟩ := Jvm.LawKit.callS X21 hx (y := yN20) hown (mvT hZ (ow hw 82 rfl)) (mvT hZ (ow hw 83 rfl)) (mvT hZ (ow hw 84 rfl)) (mvT hZ (ow hw 85 rfl)) (by decide) (backOf (W := 2) (atN l Z a0 hw [] bR5_1 (4 : Int32) (7 : Int32) bR5_0 clq9 bR5_2 (pI900 / (7 : Int32)) T5.heap n0 Z7 x5_6 Arq9 hat23 x5_5 x5_0 x5_1 (by decide) hin22) hZ (ow hw 85 rfl) (ow hw 84 rfl) (by decide) (by decide)) (g := (mkF m 67 #[.val (.int pI1), .val (.int pI2), .val (.int pI900), .val (.int 7), .val (.ref bR5_1), .unset, .unset] [(.int 7), (.int 4), (.ref bR5_1), (.long pJ913)])) rfl (by rw [hml]; rfl) (argsL := [(.ref bR5_1), (.int 4), (.int 7)]) (rest := [(.long pJ913)]) (lenOf pd_13 rfl) rfl (Nat.le_refl _) (hb hby at_67) (fun _ _ => ⟨rfl, e21, (by decide : 5 + 0 ≤ _), (by decide : 18 + 0 ≤ _)⟩)
  dsimp only [Pt.U, Pt.locs, Pt.cells, Pt.slots] at X24 l24 y24 z24 st24 hQ24
  subst l24 y24 z24
  obtain ⟨rfl, Nq24, e24⟩ := hQ24
  have N24 := Fr.app N21 Nq24
  have hin25 : ¬ ((5 : Int32) < 0 ∨ clq9.slots.size ≤ ((5 : Int32)).toNatClampNeg) := inb_of Asq9 ⟨by decide, by decide⟩
  have hat26 : clq9.slots[((5 : Int32)).toNatClampNeg]? = some (.ref bR5_2) := Has.at Ahq9 hin25 rfl
  obtain ⟨_, _, ⟨T27, L27, k27, n27⟩, -, X27, ⟨Lc27, hQ27, l27, y27, z27⟩, st27⟩ := Jvm.LawKit.callS X24 hx (y := yN20) hown (mvT hZ (ow hw 82 rfl)) (mvT hZ (ow hw 83 rfl)) (mvT hZ (ow hw 84 rfl)) (mvT hZ (ow hw 85 rfl)) (by decide) (backOf (W := 2) (atN l Z a0 hw [] bR5_1 (5 : Int32) (7 : Int32) bR5_0 clq9 bR5_2 (pI900 / (7 : Int32)) T5.heap n0 Z7 x5_6 Arq9 hat26 x5_5 x5_0 x5_1 (by decide) hin25) hZ (ow hw 85 rfl) (ow hw 84 rfl) (by decide) (by decide)) (g := (mkF m 75 #[.val (.int pI1), .val (.int pI2), .val (.int pI900), .val (.int 7), .val (.ref bR5_1), .unset, .unset] [(.int 7), (.int 5), (.ref bR5_1), (.long pJ914)])) rfl (by rw [hml]; rfl) (argsL := [(.ref bR5_1), (.int 5), (.int 7)]) (rest := [(.long pJ914)]) (lenOf pd_13 rfl) rfl (Nat.le_refl _) (hb hby at_75) (fun _ _ => ⟨rfl, e24, (by decide : 5 + 0 ≤ _), (by decide : 18 + 0 ≤ _)⟩)
  dsimp only [Pt.U, Pt.locs, Pt.cells, Pt.slots] at X27 l27 y27 z27 st27 hQ27
  subst l27 y27 z27
  obtain ⟨rfl, Nq27, e27⟩ := hQ27
  have N27 := Fr.app N24 Nq27
  have hin28 : ¬ ((6 : Int32) < 0 ∨ clq9.slots.size ≤ ((6 : Int32)).toNatClampNeg) := inb_of Asq9 ⟨by decide, by decide⟩
  have hat29 : clq9.slots[((6 : Int32)).toNatClampNeg]? = some (.ref bR5_2) := Has.at Ahq9 hin28 rfl
  obtain ⟨_, _, ⟨T30, L30, k30, n30⟩, -, X30, ⟨Lc30, hQ30, l30, y30, z30⟩, st30⟩ := Jvm.LawKit.callS X27 hx (y := yN20) hown (mvT hZ (ow hw 82 rfl)) (mvT hZ (ow hw 83 rfl)) (mvT hZ (ow hw 84 rfl)) (mvT hZ (ow hw 85 rfl)) (by decide) (backOf (W := 2) (atN l Z a0 hw [] bR5_1 (6 : Int32) (7 : Int32) bR5_0 clq9 bR5_2 (pI900 / (7 : Int32)) T5.heap n0 Z7 x5_6 Arq9 hat29 x5_5 x5_0 x5_1 (by decide) hin28) hZ (ow hw 85 rfl) (ow hw 84 rfl) (by decide) (by decide)) (g := (mkF m 84 #[.val (.int pI1), .val (.int pI2), .val (.int pI900), .val (.int 7), .val (.ref bR5_1), .unset, .unset] [(.int 7), (.int 6), (.ref bR5_1), (.long pJ915)])) rfl (by rw [hml]; rfl) (argsL := [(.ref bR5_1), (.int 6), (.int 7)]) (rest := [(.long pJ915)]) (lenOf pd_13 rfl) rfl (Nat.le_refl _) (hb hby at_84) (fun _ _ => ⟨rfl, e27, (by decide : 5 + 0 ≤ _), (by decide : 18 + 0 ≤ _)⟩)
  dsimp only [Pt.U, Pt.locs, Pt.cells, Pt.slots] at X30 l30 y30 z30 st30 hQ30
  subst l30 y30 z30
  obtain ⟨rfl, Nq30, e30⟩ := hQ30
  have N30 := Fr.app N27 Nq30
  obtain ⟨_, _, ⟨T31, L31, k31, n31⟩, -, X31, ⟨Lc31, hQ31, l31, y31, z31⟩, st31⟩ := Jvm.LawKit.callS X30 hx (y := yN20) hown (mvT hZ (ow hw 82 rfl)) (mvT hZ (ow hw 83 rfl)) (mvT hZ (ow hw 84 rfl)) (mvT hZ (ow hw 85 rfl)) (by decide) (backOf (W := 2) (atE l Z a0 hw [] bR5_1 (7 : Int32) (7 : Int32) T5.heap n0 Z7 (by decide)) hZ (ow hw 85 rfl) (ow hw 84 rfl) (by decide) (by decide)) (g := (mkF m 93 #[.val (.int pI1), .val (.int pI2), .val (.int pI900), .val (.int 7), .val (.ref bR5_1), .unset, .unset] [(.int 7), (.int 7), (.ref bR5_1), (.long pJ916)])) rfl (by rw [hml]; rfl) (argsL := [(.ref bR5_1), (.int 7), (.int 7)]) (rest := [(.long pJ916)]) (lenOf pd_13 rfl) rfl (Nat.le_refl _) (hb hby at_93) (fun _ _ => ⟨rfl, e30, (by decide : 5 + 0 ≤ _), (by decide : 18 + 0 ≤ _)⟩)
  dsimp only [Pt.U, Pt.locs, Pt.cells, Pt.slots] at X31 l31 y31 z31 st31 hQ31
  subst l31 y31 z31
  obtain ⟨rfl, Nq31, e31⟩ := hQ31
  have N31 := Fr.app N30 Nq31
  obtain ⟨_, _, ⟨T32, L32, k32, n32⟩, -, X32, ⟨Lc32, hQ32, l32, y32, z32⟩, st32⟩ := Jvm.LawKit.callS X31 hx (y := yN22) hown (mvT hZ (ow hw 100 rfl)) (mvT hZ (ow hw 101 rfl)) (mvT hZ (ow hw 84 rfl)) (mvT hZ (ow hw 102 rfl)) (by decide) (backOf (W := 0) (laN l Z a0 hw [] bR5_1 (1 : Int32) (7 : Int32) pI900 bR5_0 clq9 bR5_2 (pI900 / (7 : Int32)) T5.heap n0 Z7 x5_6 Arq9 hat14 x5_5 x5_0 x5_1 (by decide) hin13 hc114 hc114') hZ (ow hw 102 rfl) (ow hw 84 rfl) (by decide) (by decide)) (g := (mkF m 114 #[.val (.int pI1), .val (.int pI2), .val (.int pI900), .val (.int 7), .val (.ref bR5_1), .val (.long pJ917), .second] [(.int pI900), (.int 7), (.int 1), (.ref bR5_1)])) rfl (by rw [hml]; rfl) (argsL := [(.ref bR5_1), (.int 1), (.int 7), (.int pI900)]) (rest := []) (lenOf pd_14 rfl) rfl (Nat.le_refl _) (hb hby at_114) (fun _ _ => ⟨rfl, e31, (by decide : 5 + 0 ≤ _), (by decide : 18 + 0 ≤ _)⟩)
  dsimp only [Pt.U, Pt.locs, Pt.cells, Pt.slots] at X32 l32 y32 z32 st32 hQ32
  subst l32 y32 z32
  obtain ⟨rfl, Nq32, e32⟩ := hQ32
  have N32 := Fr.app N31 Nq32
  obtain ⟨_, _, ⟨T33, L33, k33, n33⟩, -, X33, ⟨Lc33, hQ33, l33, y33, z33⟩, st33⟩ := Jvm.LawKit.callS X32 hx (y := yN22) hown (mvT hZ (ow hw 100 rfl)) (mvT hZ (ow hw 101 rfl)) (mvT hZ (ow hw 84 rfl)) (mvT hZ (ow hw 102 rfl)) (by decide) (backOf (W := 0) (laN l Z a0 hw [] bR5_1 (2 : Int32) (7 : Int32) pI900 bR5_0 clq9 bR5_2 (pI900 / (7 : Int32)) T5.heap n0 Z7 x5_6 Arq9 hat17 x5_5 x5_0 x5_1 (by decide) hin16 hc114 hc114') hZ (ow hw 102 rfl) (ow hw 84 rfl) (by decide) (by decide)) (g := (mkF m 125 #[.val (.int pI1), .val (.int pI2), .val (.int pI900), .val (.int 7), .val (.ref bR5_1), .val (.long pJ917), .second] [(.int pI900), (.int 7), (.int 2), (.ref bR5_1)])) rfl (by rw [hml]; rfl) (argsL := [(.ref bR5_1), (.int 2), (.int 7), (.int pI900)]) (rest := []) (lenOf pd_14 rfl) rfl (Nat.le_refl _) (hb hby at_125) (fun _ _ => ⟨rfl, e32, (by decide : 5 + 0 ≤ _), (by decide : 18 + 0 ≤ _)⟩)
  dsimp only [Pt.U, Pt.locs, Pt.cells, Pt.slots] at X33 l33 y33 z33 st33 hQ33
  subst l33 y33 z33
  obtain ⟨rfl, Nq33, e33⟩ := hQ33
  have N33 := Fr.app N32 Nq33
  obtain ⟨_, _, ⟨T34, L34, k34, n34⟩, -, X34, ⟨Lc34, hQ34, l34, y34, z34⟩, st34⟩ := Jvm.LawKit.callS X33 hx (y := yN22) hown (mvT hZ (ow hw 100 rfl)) (mvT hZ (ow hw 101 rfl)) (mvT hZ (ow hw 84 rfl)) (mvT hZ (ow hw 102 rfl)) (by decide) (backOf (W := 0) (laN l Z a0 hw [] bR5_1 (3 : Int32) (7 : Int32) pI900 bR5_0 clq9 bR5_2 (pI900 / (7 : Int32)) T5.heap n0 Z7 x5_6 Arq9 hat20 x5_5 x5_0 x5_1 (by decide) hin19 hc114 hc114') hZ (ow hw 102 rfl) (ow hw 84 rfl) (by decide) (by decide)) (g := (mkF m 136 #[.val (.int pI1), .val (.int pI2), .val (.int pI900), .val (.int 7), .val (.ref bR5_1), .val (.long pJ917), .second] [(.int pI900), (.int 7), (.int 3), (.ref bR5_1)])) rfl (by rw [hml]; rfl) (argsL := [(.ref bR5_1), (.int 3), (.int 7), (.int pI900)]) (rest := []) (lenOf pd_14 rfl) rfl (Nat.le_refl _) (hb hby at_136) (fun _ _ => ⟨rfl, e33, (by decide : 5 + 0 ≤ _), (by decide : 18 + 0 ≤ _)⟩)
  dsimp only [Pt.U, Pt.locs, Pt.cells, Pt.slots] at X34 l34 y34 z34 st34 hQ34
  subst l34 y34 z34
  obtain ⟨rfl, Nq34, e34⟩ := hQ34
  have N34 := Fr.app N33 Nq34
  obtain ⟨_, _, ⟨T35, L35, k35, n35⟩, -, X35, ⟨Lc35, hQ35, l35, y35, z35⟩, st35⟩ := Jvm.LawKit.callS X34 hx (y := yN22) hown (mvT hZ (ow hw 100 rfl)) (mvT hZ (ow hw 101 rfl)) (mvT hZ (ow hw 84 rfl)) (mvT hZ (ow hw 102 rfl)) (by decide) (backOf (W := 0) (laN l Z a0 hw [] bR5_1 (4 : Int32) (7 : Int32) pI900 bR5_0 clq9 bR5_2 (pI900 / (7 : Int32)) T5.heap n0 Z7 x5_6 Arq9 hat23 x5_5 x5_0 x5_1 (by decide) hin22 hc114 hc114') hZ (ow hw 102 rfl) (ow hw 84 rfl) (by decide) (by decide)) (g := (mkF m 147 #[.val (.int pI1), .val (.int pI2), .val (.int pI900), .val (.int 7), .val (.ref bR5_1), .val (.long pJ917), .second] [(.int pI900), (.int 7), (.int 4), (.ref bR5_1)])) rfl (by rw [hml]; rfl) (argsL := [(.ref bR5_1), (.int 4), (.int 7), (.int pI900)]) (rest := []) (lenOf pd_14 rfl) rfl (Nat.le_refl _) (hb hby at_147) (fun _ _ => ⟨rfl, e34, (by decide : 5 + 0 ≤ _), (by decide : 18 + 0 ≤ _)⟩)
  dsimp only [Pt.U, Pt.locs, Pt.cells, Pt.slots] at X35 l35 y35 z35 st35 hQ35
  subst l35 y35 z35
  obtain ⟨rfl, Nq35, e35⟩ := hQ35
  have N35 := Fr.app N34 Nq35
  obtain ⟨_, _, ⟨T36, L36, k36, n36⟩, -, X36, ⟨Lc36, hQ36, l36, y36, z36⟩, st36⟩ := Jvm.LawKit.callS X35 hx (y := yN22) hown (mvT hZ (ow hw 100 rfl)) (mvT hZ (ow hw 101 rfl)) (mvT hZ (ow hw 84 rfl)) (mvT hZ (ow hw 102 rfl)) (by decide) (backOf (W := 0) (laN l Z a0 hw [] bR5_1 (5 : Int32) (7 : Int32) pI900 bR5_0 clq9 bR5_2 (pI900 / (7 : Int32)) T5.heap n0 Z7 x5_6 Arq9 hat26 x5_5 x5_0 x5_1 (by decide) hin25 hc114 hc114') hZ (ow hw 102 rfl) (ow hw 84 rfl) (by decide) (by decide)) (g := (mkF m 158 #[.val (.int pI1), .val (.int pI2), .val (.int pI900), .val (.int 7), .val (.ref bR5_1), .val (.long pJ917), .second] [(.int pI900), (.int 7), (.int 5), (.ref bR5_1)])) rfl (by rw [hml]; rfl) (argsL := [(.ref bR5_1), (.int 5), (.int 7), (.int pI900)]) (rest := []) (lenOf pd_14 rfl) rfl (Nat.le_refl _) (hb hby at_158) (fun _ _ => ⟨rfl, e35, (by decide : 5 + 0 ≤ _), (by decide : 18 + 0 ≤ _)⟩)
  dsimp only [Pt.U, Pt.locs, Pt.cells, Pt.slots] at X36 l36 y36 z36 st36 hQ36
  subst l36 y36 z36
  obtain ⟨rfl, Nq36, e36⟩ := hQ36
  have N36 := Fr.app N35 Nq36
  obtain ⟨_, _, ⟨T37, L37, k37, n37⟩, -, X37, ⟨Lc37, hQ37, l37, y37, z37⟩, st37⟩ := Jvm.LawKit.callS X36 hx (y := yN22) hown (mvT hZ (ow hw 100 rfl)) (mvT hZ (ow hw 101 rfl)) (mvT hZ (ow hw 84 rfl)) (mvT hZ (ow hw 102 rfl)) (by decide) (backOf (W := 0) (laN l Z a0 hw [] bR5_1 (6 : Int32) (7 : Int32) pI900 bR5_0 clq9 bR5_2 (pI900 / (7 : Int32)) T5.heap n0 Z7 x5_6 Arq9 hat29 x5_5 x5_0 x5_1 (by decide) hin28 hc114 hc114') hZ (ow hw 102 rfl) (ow hw 84 rfl) (by decide) (by decide)) (g := (mkF m 170 #[.val (.int pI1), .val (.int pI2), .val (.int pI900), .val (.int 7), .val (.ref bR5_1), .val (.long pJ917), .second] [(.int pI900), (.int 7), (.int 6), (.ref bR5_1)])) rfl (by rw [hml]; rfl) (argsL := [(.ref bR5_1), (.int 6), (.int 7), (.int pI900)]) (rest := []) (lenOf pd_14 rfl) rfl (Nat.le_refl _) (hb hby at_170) (fun _ _ => ⟨rfl, e36, (by decide : 5 + 0 ≤ _), (by decide : 18 + 0 ≤ _)⟩)
  dsimp only [Pt.U, Pt.locs, Pt.cells, Pt.slots] at X37 l37 y37 z37 st37 hQ37
  subst l37 y37 z37
  obtain ⟨rfl, Nq37, e37⟩ := hQ37
  have N37 := Fr.app N36 Nq37
  obtain ⟨_, _, ⟨T38, L38, k38, n38⟩, -, X38, ⟨Lc38, hQ38, l38, y38, z38⟩, st38⟩ := Jvm.LawKit.callS X37 hx (y := yN22) hown (mvT hZ (ow hw 100 rfl)) (mvT hZ (ow hw 101 rfl)) (mvT hZ (ow hw 84 rfl)) (mvT hZ (ow hw 102 rfl)) (by decide) (backOf (W := 0) (laE l Z a0 hw [] bR5_1 (7 : Int32) (7 : Int32) pI900 T5.heap n0 Z7 (by decide)) hZ (ow hw 102 rfl) (ow hw 84 rfl) (by decide) (by decide)) (g := (mkF m 182 #[.val (.int pI1), .val (.int pI2), .val (.int pI900), .val (.int 7), .val (.ref bR5_1), .val (.long pJ917), .second] [(.int pI900), (.int 7), (.int 7), (.ref bR5_1)])) rfl (by rw [hml]; rfl) (argsL := [(.ref bR5_1), (.int 7), (.int 7), (.int pI900)]) (rest := []) (lenOf pd_14 rfl) rfl (Nat.le_refl _) (hb hby at_182) (fun _ _ => ⟨rfl, e37, (by decide : 5 + 0 ≤ _), (by decide : 18 + 0 ≤ _)⟩)
  dsimp only [Pt.U, Pt.locs, Pt.cells, Pt.slots] at X38 l38 y38 z38 st38 hQ38
  subst l38 y38 z38
  obtain ⟨rfl, Nq38, e38⟩ := hQ38
  have N38 := Fr.app N37 Nq38
  obtain ⟨fs, hr, hrun, hended, hW, hsame⟩ := X38.leave (v := some (.int 1)) (fun h => by rw [Bd.returns] at h; cases h)
  refine ⟨_, _, castTop (ef_law7 m pI1 pI2) ?_, hrun, hended, _, _, rfl, ?_, ⟨_, rfl⟩, hW, hsame.mono (by decide) (by decide)⟩
  · show oS p e below s₁ m 0 #[.val (.int pI1), .val (.int pI2), .unset, .unset, .unset, .unset, .unset] [] _
    refine XS.iloadN X0.here hx rfl (hb hby at_0) rfl ?_
    refine X0.ldcInt hx hown (mvT hZ (ow hw 0 rfl)) (g := (mkF m 1 #[.val (.int pI1), .val (.int pI2), .unset, .unset, .unset, .unset, .unset] [(.int pI1)])) rfl (hb hby at_1) _ ?_
    refine XS.iand X0.here hx rfl (hb hby at_3) rfl ?_
    show Steps p.tables e below (s₁.setTop (mkF m 4 #[.val (.int pI1), .val (.int pI2), .unset, .unset, .unset, .unset, .unset] [(.int (pI1 &&& (2147483647 : Int32)))])) _
    rw [hr3]
    refine XS.istoreN X0.here hx rfl (hb hby at_4) rfl (l' := #[.val (.int pI1), .val (.int pI2), .val (.int pI900), .unset, .unset, .unset, .unset]) rfl ?_
    refine XS.iloadN X0.here hx rfl (hb hby at_5) rfl ?_
    refine XS.bipush X0.here hx rfl (hb hby at_6) ?_
    refine XS.iand X0.here hx rfl (hb hby at_8) rfl ?_
    show Steps p.tables e below (s₁.setTop (mkF m 9 #[.val (.int pI1), .val (.int pI2), .val (.int pI900), .unset, .unset, .unset, .unset] [(.int (pI2 &&& (7 : Int32)))])) _
    rw [hc8]
    refine XS.iconst X0.here hx rfl (hb hby at_9) ?_
    show oS p e below s₁ m 10 #[.val (.int pI1), .val (.int pI2), .val (.int pI900), .unset, .unset, .unset, .unset] [(.int 1), (.int 6)] _
    refine XS.iadd X0.here hx rfl (hb hby at_10) rfl ?_
    refine XS.istoreN X0.here hx rfl (hb hby at_11) rfl (l' := #[.val (.int pI1), .val (.int pI2), .val (.int pI900), .val (.int 7), .unset, .unset, .unset]) rfl ?_
    refine XS.iloadN X0.here hx rfl (hb hby at_12) rfl ?_
    refine XS.iloadN X0.here hx rfl (hb hby at_13) rfl ?_
    refine st5 _ ?_
    refine XS.astore X5.here hx rfl (hb hby at_17) rfl rfl (l' := #[.val (.int pI1), .val (.int pI2), .val (.int pI900), .val (.int 7), .val (.ref bR5_1), .unset, .unset]) rfl ?_
    refine XS.aload X5.here hx rfl (hb hby at_19) rfl rfl ?_
    refine st8.trans ?_
    show oS p e below T8 m 26 #[.val (.int pI1), .val (.int pI2), .val (.int pI900), .val (.int 7), .val (.ref bR5_1), .unset, .unset] [(.int 7)] _
    refine XS.iloadN X8.here hx rfl (hb hby at_26) rfl ?_
    refine XS.icmpYes X8.here hx rfl (pc0 := 27) (pc' := 32) rfl (hb hby at_27) rfl (teq (by decide : (7 : Int32) = (7 : Int32))).1 (by decide) (by decide) ?_
    refine XS.aload X8.here hx rfl (hb hby at_32) rfl rfl ?_
    refine XS.iconst X8.here hx rfl (hb hby at_34) ?_
    refine XS.iloadN X8.here hx rfl (hb hby at_35) rfl ?_
    refine st12 _ ?_
    refine XS.aload X12.here hx rfl (hb hby at_39) rfl rfl ?_
    refine XS.iconst X12.here hx rfl (hb hby at_41) ?_
    show oS p e below T12 m 42 #[.val (.int pI1), .val (.int pI2), .val (.int pI900), .val (.int 7), .val (.ref bR5_1), .unset, .unset] [(.int 1), (.ref bR5_1), (.long (((pI900 / (7 : Int32)) + (pI900 % (7 : Int32))).toInt64))] _
    refine XS.iloadN X12.here hx rfl (hb hby at_42) rfl ?_
    refine st15 _ ?_
    refine XS.ladd X15.here hx rfl (hb hby at_46) rfl ?_
    show Steps p.tables e below (T15.setTop (mkF m 47 #[.val (.int pI1), .val (.int pI2), .val (.int pI900), .val (.int 7), .val (.ref bR5_1), .unset, .unset] [(.long ((((pI900 / (7 : Int32)) + (pI900 % (7 : Int32))).toInt64) + ((pI900 / (7 : Int32)).toInt64)))])) _
    rw [hr46]
    refine XS.aload X15.here hx rfl (hb hby at_47) rfl rfl ?_
    refine XS.iconst X15.here hx rfl (hb hby at_49) ?_
    refine XS.iloadN X15.here hx rfl (hb hby at_50) rfl ?_
    refine st18 _ ?_
    refine XS.ladd X18.here hx rfl (hb hby at_54) rfl ?_
    show Steps p.tables e below (T18.setTop (mkF m 55 #[.val (.int pI1), .val (.int pI2), .val (.int pI900), .val (.int 7), .val (.ref bR5_1), .unset, .unset] [(.long (pJ911 + ((pI900 / (7 : Int32)).toInt64)))])) _
    rw [hr54]
    show oS p e below T18 m 55 #[.val (.int pI1), .val (.int pI2), .val (.int pI900), .val (.int 7), .val (.ref bR5_1), .unset, .unset] [(.long pJ912)] _
    refine XS.aload X18.here hx rfl (hb hby at_55) rfl rfl ?_
    refine XS.iconst X18.here hx rfl (hb hby at_57) ?_
    refine XS.iloadN X18.here hx rfl (hb hby at_58) rfl ?_
    refine st21 _ ?_
    refine XS.ladd X21.here hx rfl (hb hby at_62) rfl ?_
    show Steps p.tables e below (T21.setTop (mkF m 63 #[.val (.int pI1), .val (.int pI2), .val (.int pI900), .val (.int 7), .val (.ref bR5_1), .unset, .unset] [(.long (pJ912 + ((pI900 / (7 : Int32)).toInt64)))])) _
    rw [hr62]
    refine XS.aload X21.here hx rfl (hb hby at_63) rfl rfl ?_
    refine XS.iconst X21.here hx rfl (hb hby at_65) ?_
    refine XS.iloadN X21.here hx rfl (hb hby at_66) rfl ?_
    show oS p e below T21 m 67 #[.val (.int pI1), .val (.int pI2), .val (.int pI900), .val (.int 7), .val (.ref bR5_1), .unset, .unset] [(.int 7), (.int 4), (.ref bR5_1), (.long pJ913)] _
    refine st24 _ ?_
    refine XS.ladd X24.here hx rfl (hb hby at_70) rfl ?_
    show Steps p.tables e below (T24.setTop (mkF m 71 #[.val (.int pI1), .val (.int pI2), .val (.int pI900), .val (.int 7), .val (.ref bR5_1), .unset, .unset] [(.long (pJ913 + ((pI900 / (7 : Int32)).toInt64)))])) _
    rw [hr70]
    refine XS.aload X24.here hx rfl (hb hby at_71) rfl rfl ?_
    refine XS.iconst X24.here hx rfl (hb hby at_73) ?_
    refine XS.iloadN X24.here hx rfl (hb hby at_74) rfl ?_
    refine st27 _ ?_
    refine XS.ladd X27.here hx rfl (hb hby at_78) rfl ?_
    show Steps p.tables e below (T27.setTop (mkF m 79 #[.val (.int pI1), .val (.int pI2), .val (.int pI900), .val (.int 7), .val (.ref bR5_1), .unset, .unset] [(.long (pJ914 + ((pI900 / (7 : Int32)).toInt64)))])) _
    rw [hr78]
    refine XS.aload X27.here hx rfl (hb hby at_79) rfl rfl ?_
    show oS p e below T27 m 81 #[.val (.int pI1), .val (.int pI2), .val (.int pI900), .val (.int 7), .val (.ref bR5_1), .unset, .unset] [(.ref bR5_1), (.long pJ915)] _
    refine XS.bipush X27.here hx rfl (hb hby at_81) ?_
    refine XS.iloadN X27.here hx rfl (hb hby at_83) rfl ?_
    refine st30 _ ?_
    refine XS.ladd X30.here hx rfl (hb hby at_87) rfl ?_
    show Steps p.tables e below (T30.setTop (mkF m 88 #[.val (.int pI1), .val (.int pI2), .val (.int pI900), .val (.int 7), .val (.ref bR5_1), .unset, .unset] [(.long (pJ915 + ((pI900 / (7 : Int32)).toInt64)))])) _
    rw [hr87]
    refine XS.aload X30.here hx rfl (hb hby at_88) rfl rfl ?_
    refine XS.bipush X30.here hx rfl (hb hby at_90) ?_
    refine XS.iloadN X30.here hx rfl (hb hby at_92) rfl ?_
    refine st31 _ ?_
    show oS p e below T31 m 96 #[.val (.int pI1), .val (.int pI2), .val (.int pI900), .val (.int 7), .val (.ref bR5_1), .unset, .unset] [(.long 0), (.long pJ916)] _
    refine XS.ladd X31.here hx rfl (hb hby at_96) rfl ?_
    show Steps p.tables e below (T31.setTop (mkF m 97 #[.val (.int pI1), .val (.int pI2), .val (.int pI900), .val (.int 7), .val (.ref bR5_1), .unset, .unset] [(.long (pJ916 + (0 : Int64)))])) _
    rw [hr96]
    refine XS.lstore X31.here hx rfl (hb hby at_97) rfl (l' := #[.val (.int pI1), .val (.int pI2), .val (.int pI900), .val (.int 7), .val (.ref bR5_1), .val (.long pJ917), .second]) rfl ?_
    refine XS.lload X31.here hx rfl (hb hby at_99) rfl ?_
    refine XS.iloadN X31.here hx rfl (hb hby at_101) rfl ?_
    refine XS.i2l X31.here hx rfl (hb hby at_102) rfl ?_
    refine XS.lcmp X31.here hx rfl (hb hby at_103) rfl ?_
    refine XS.ifYes X31.here hx rfl (pc0 := 104) (pc' := 109) rfl (hb hby at_104) rfl ((if0 _ _).trans (teq hc104).1) (by decide) (by decide) ?_
    refine XS.aload X31.here hx rfl (hb hby at_109) rfl rfl ?_
    show oS p e below T31 m 111 #[.val (.int pI1), .val (.int pI2), .val (.int pI900), .val (.int 7), .val (.ref bR5_1), .val (.long pJ917), .second] [(.ref bR5_1)] _
    refine XS.iconst X31.here hx rfl (hb hby at_111) ?_
    refine XS.iloadN X31.here hx rfl (hb hby at_112) rfl ?_
    refine XS.iloadN X31.here hx rfl (hb hby at_113) rfl ?_
    refine st32 _ ?_
    refine XS.ifNo X32.here hx rfl (hb hby at_117) rfl ((if0 _ _).trans (feq (by decide : ¬ ((1 : Int32) = (0 : Int32)))).1) ?_
    refine XS.aload X32.here hx rfl (hb hby at_120) rfl rfl ?_
    refine XS.iconst X32.here hx rfl (hb hby at_122) ?_
    refine XS.iloadN X32.here hx rfl (hb hby at_123) rfl ?_
    show oS p e below T32 m 124 #[.val (.int pI1), .val (.int pI2), .val (.int pI900), .val (.int 7), .val (.ref bR5_1), .val (.long pJ917), .second] [(.int 7), (.int 2), (.ref bR5_1)] _
    refine XS.iloadN X32.here hx rfl (hb hby at_124) rfl ?_
    refine st33 _ ?_
    refine XS.ifNo X33.here hx rfl (hb hby at_128) rfl ((if0 _ _).trans (feq (by decide : ¬ ((1 : Int32) = (0 : Int32)))).1) ?_
    refine XS.aload X33.here hx rfl (hb hby at_131) rfl rfl ?_
    refine XS.iconst X33.here hx rfl (hb hby at_133) ?_
    refine XS.iloadN X33.here hx rfl (hb hby at_134) rfl ?_
    refine XS.iloadN X33.here hx rfl (hb hby at_135) rfl ?_
    refine st34 _ ?_
    show oS p e below T34 m 139 #[.val (.int pI1), .val (.int pI2), .val (.int pI900), .val (.int 7), .val (.ref bR5_1), .val (.long pJ917), .second] [(.int 1)] _
    refine XS.ifNo X34.here hx rfl (hb hby at_139) rfl ((if0 _ _).trans (feq (by decide : ¬ ((1 : Int32) = (0 : Int32)))).1) ?_
    refine XS.aload X34.here hx rfl (hb hby at_142) rfl rfl ?_
    refine XS.iconst X34.here hx rfl (hb hby at_144) ?_
    refine XS.iloadN X34.here hx rfl (hb hby at_145) rfl ?_
    refine XS.iloadN X34.here hx rfl (hb hby at_146) rfl ?_
    refine st35 _ ?_
    refine XS.ifNo X35.here hx rfl (hb hby at_150) rfl ((if0 _ _).trans (feq (by decide : ¬ ((1 : Int32) = (0 : Int32)))).1) ?_
    refine XS.aload X35.here hx rfl (hb hby at_153) rfl rfl ?_
    show oS p e below T35 m 155 #[.val (.int pI1), .val (.int pI2), .val (.int pI900), .val (.int 7), .val (.ref bR5_1), .val (.long pJ917), .second] [(.ref bR5_1)] _
    refine XS.iconst X35.here hx rfl (hb hby at_155) ?_
    refine XS.iloadN X35.here hx rfl (hb hby at_156) rfl ?_
    refine XS.iloadN X35.here hx rfl (hb hby at_157) rfl ?_
    refine st36 _ ?_
    refine XS.ifNo X36.here hx rfl (hb hby at_161) rfl ((if0 _ _).trans (feq (by decide : ¬ ((1 : Int32) = (0 : Int32)))).1) ?_
    refine XS.aload X36.here hx rfl (hb hby at_164) rfl rfl ?_
    refine XS.bipush X36.here hx rfl (hb hby at_166) ?_
    refine XS.iloadN X36.here hx rfl (hb hby at_168) rfl ?_
    show oS p e below T36 m 169 #[.val (.int pI1), .val (.int pI2), .val (.int pI900), .val (.int 7), .val (.ref bR5_1), .val (.long pJ917), .second] [(.int 7), (.int 6), (.ref bR5_1)] _
    refine XS.iloadN X36.here hx rfl (hb hby at_169) rfl ?_
    refine st37 _ ?_
    refine XS.ifNo X37.here hx rfl (hb hby at_173) rfl ((if0 _ _).trans (feq (by decide : ¬ ((1 : Int32) = (0 : Int32)))).1) ?_
    refine XS.aload X37.here hx rfl (hb hby at_176) rfl rfl ?_
    refine XS.bipush X37.here hx rfl (hb hby at_178) ?_
    refine XS.iloadN X37.here hx rfl (hb hby at_180) rfl ?_
    refine XS.iloadN X37.here hx rfl (hb hby at_181) rfl ?_
    refine st38 _ ?_
    show oS p e below T38 m 185 #[.val (.int pI1), .val (.int pI2), .val (.int pI900), .val (.int 7), .val (.ref bR5_1), .val (.long pJ917), .second] [(.int 1)] _
    refine XS.ifNo X38.here hx rfl (hb hby at_185) rfl ((if0 _ _).trans (feq (by decide : ¬ ((1 : Int32) = (0 : Int32)))).1) ?_
    refine XS.iconst X38.here hx rfl (hb hby at_188) ?_
    refine XS.goto X38.here hx rfl (pc0 := 189) (pc' := 193) rfl (hb hby at_189) (by decide) (by decide) ?_
    exact retN X38 hx (t := .boolean) Bd.returns (by simp) (hb hby at_193) hr
  · show Qlaw7 Z pI1 pI2 pI900 pR3 pC4 pJ911 pJ912 pJ913 pJ914 pJ915 pJ916 pJ917 h0 n0 _ T38.heap _
    rw [e38]
    exact ⟨rfl, N38⟩
theorem ef_law8 (m : MethodId) (pI1 : Int32) (pI2 : Int32) : entryFrame m #[(.int pI1), (.int pI2)] maxLocals = mkF m 0 #[.val (.int pI1), .val (.int pI2), .unset, .unset, .unset, .unset, .unset] [] := by first | (simp [entryFrame, mkF, argsToLocals, Value.category, maxLocals]; done) | rfl
def Qlaw8 (Z : State) (pI1 : Int32) (pI2 : Int32) (pI900 : Int32) (pR3 : Addr) (pC4 : Cell) (pJ911 : Int64) (pJ912 : Int64) (pJ913 : Int64) (pJ914 : Int64) (pJ915 : Int64) (pJ916 : Int64) (pJ917 : Int64) (h0 : Heap) (n0 : Nat) (v : Option Value) (h : Heap) (L : List Loc) : Prop := v = some (.int 1) ∧ Fr n0 L
set_option maxRecDepth 65536 in
set_option maxHeartbeats 40000000 in
theorem law8 (l : Launch) (Z : State) (a0 : Array Value) (hw : ∀ d ∈ tables_1, d.before a0 Z = true) (ws : List Jvm.Cond) (pI1 : Int32) (pI2 : Int32) (pI900 : Int32) (pR3 : Addr) (pC4 : Cell) (pJ911 : Int64) (pJ912 : Int64) (pJ913 : Int64) (pJ914 : Int64) (pJ915 : Int64) (pJ916 : Int64) (pJ917 : Int64) (h0 : Heap) (n0 : Nat) (Z0 : n0 ≤ h0.size) (S_Integer_IntegerCache_high : Sta Z h0 "java/lang/Integer$IntegerCache" "high" "I" (.int 127)) (S_Integer_IntegerCache_cache : Sta Z h0 "java/lang/Integer$IntegerCache" "cache" "[Ljava/lang/Integer;" (.ref pR3)) (B_pR3 : Bxs Z pR3 pC4 "java/lang/Integer" "I" (256 : Int32) (fun j => .int (j - 128))) (D0 : Old Z n0 h0) (hr3 : (pI1 &&& (2147483647 : Int32)) = pI900) (hc8 : (pI2 &&& (7 : Int32)) = (7 : Int32)) (hr46 : ((((pI900 / (8 : Int32)) + (pI900 % (8 : Int32))).toInt64) + ((pI900 / (8 : Int32)).toInt64)) = pJ911) (hr54 : (pJ911 + ((pI900 / (8 : Int32)).toInt64)) = pJ912) (hr62 : (pJ912 + ((pI900 / (8 : Int32)).toInt64)) = pJ913) (hr70 : (pJ913 + ((pI900 / (8 : Int32)).toInt64)) = pJ914) (hr78 : (pJ914 + ((pI900 / (8 : Int32)).toInt64)) = pJ915) (hr87 : (pJ915 + ((pI900 / (8 : Int32)).toInt64)) = pJ916) (hr96 : (pJ916 + ((pI900 / (8 : Int32)).toInt64)) = pJ917) (hc104 : (lcmpW pJ917 (pI900.toInt64)) = (0 : Int32)) (hc114 : ¬ ((0 : Int32) < (lcmpW (((pI900 / (8 : Int32)).toInt64) * ((8 : Int32).toInt64)) (pI900.toInt64)))) (hc114' : (lcmpW (pI900.toInt64) ((((pI900 / (8 : Int32)).toInt64) + (1 : Int64)) * ((8 : Int32).toInt64))) < (0 : Int32)) :
    oM l x code maxLocals ret ws room_1 #[(.int pI1), (.int pI2)] Z h0 (Qlaw8 Z pI1 pI2 pI900 pR3 pC4 pJ911 pJ912 pJ913 pJ914 pJ915 pJ916 pJ917 h0 n0) := by
  refine MetFree.of_bodySF (plainFor_of_name pn_12) hisR ?_
  intro p e s m args below meth c s₁ Bd hml0 hP hK
  obtain ⟨rfl, hZ, hh⟩ := hP
  have hx := Bd.exec
  have hby := Bd.bytes
  have hml : c.maxLocals = 7 := hml0
  have hown : s.vm.findClass "com/example/watchful_junction/watchfuljunction/scenario/ProportionalSpecEqualSharesPinLaw" = some m.cls := findClass_of_methodNamed Bd.named
  have hnm := (name_of_methodNamed Bd.named Bd.method).1
  have X0 : Stand p l e room_1 s m #[(.int pI1), (.int pI2)] below meth c s₁ [] 0 0 := Stand.of_body Bd
  have e0 : s₁.heap = h0 := by rw [← hh, Bd.state]; rfl
  have N0 := Fr.nil n0
  obtain ⟨_, _, ⟨T5, L5, k5, n5⟩, -, X5, ⟨Lc5, hQ5, l5, y5, z5⟩, st5⟩ := Jvm.LawKit.callS X0 hx (y := yN14) hown (mvT hZ (ow hw 1 rfl)) (mvT hZ (ow hw 2 rfl)) (mvT hZ (ow hw 3 rfl)) (mvT hZ (ow hw 4 rfl)) (by decide) (backOf (W := 0) (eqs8 l Z a0 hw [] pI900 pR3 pC4 h0 n0 Z0 S_Integer_IntegerCache_high S_Integer_IntegerCache_cache B_pR3 D0) hZ (ow hw 4 rfl) (ow hw 3 rfl) (by decide) (by decide)) (g := (mkF m 14 #[.val (.int pI1), .val (.int pI2), .val (.int pI900), .val (.int 8), .unset, .unset, .unset] [(.int 8), (.int pI900)])) rfl (by rw [hml]; rfl) (argsL := [(.int pI900), (.int 8)]) (rest := []) (lenOf pd_12 rfl) rfl (Nat.le_refl _) (hb hby at_14) (fun _ _ => ⟨rfl, e0, (by decide : 0 + 5 ≤ _), (by decide : 0 + 20 ≤ _)⟩)
  dsimp only [Pt.U, Pt.locs, Pt.cells, Pt.slots] at X5 l5 y5 z5 st5 hQ5
  subst l5 y5 z5
  obtain ⟨bR5_0, bR5_1, bR5_2, bR5_3, kK5_0, rfl, Nq5, Kq5, sz5_0, sz5_1, x5_0, x5_1, x5_2, x5_3, x5_4, x5_5, x5_6, x5_7⟩ := hQ5
  have N5 := Fr.app N0 Nq5
  obtain ⟨Lh5, X5, N5⟩ := own_hide X5 N5
  have Z7 : n0 ≤ T5.heap.size := (Nat.le_trans Z0 Kq5.1)
  obtain ⟨cq8, kq8, q8a, q8b, q8c⟩ := isOf hZ rfl x5_5
  obtain ⟨_, _, ⟨T8, L8, k8, n8⟩, -, X8, ⟨Lc8, hQ8, l8, y8, z8⟩, st8⟩ := X5.interfaceBack hx (xi := yN23) (y := yN16) hown (mvT hZ (ow hw 73 rfl)) (mvT hZ (ow hw 74 rfl)) (mvT hZ (ow hw 75 rfl)) (mvT hZ (ow hw 76 rfl)) (mvT hZ (ow hw 77 rfl)) (mvT hZ (ow hw 78 rfl)) (mvT hZ (ow hw 79 rfl)) (mvT hZ (ow hw 80 rfl)) (by decide) (backOf (W := 0) (lnS8 l Z a0 hw [] bR5_1 bR5_0 bR5_3 bR5_2 kK5_0 T5.heap n0 Z7 x5_6 x5_4) hZ (ow hw 81 rfl) (ow hw 43 rfl) (by decide) (by decide)) q8a q8b q8c (g := (mkF m 21 #[.val (.int pI1), .val (.int pI2), .val (.int pI900), .val (.int 8), .val (.ref bR5_1), .unset, .unset] [(.ref bR5_1)])) rfl (by rw [hml]; rfl) (Steps.refl _) (argsL := []) (rest := []) (lenOf pd_6 rfl) rfl (Nat.le_refl _) (hb hby at_21) (fun _ _ => ⟨rfl, rfl, (by decide : 5 + 0 ≤ _), (by decide : 20 + 0 ≤ _)⟩)
  dsimp only [Pt.U, Pt.locs, Pt.cells, Pt.slots] at X8 l8 y8 z8 st8 hQ8
  subst l8 y8 z8
  obtain ⟨rfl, Nq8, e8⟩ := hQ8
  have N8 := Fr.app N5 Nq8
  obtain ⟨clq9, Arq9, Akq9, Asq9, Anq9, Ahq9, Agq9⟩ := id x5_4
  have hin10 : ¬ ((0 : Int32) < 0 ∨ clq9.slots.size ≤ ((0 : Int32)).toNatClampNeg) := inb_of Asq9 ⟨by decide, by decide⟩
  have hat11 : clq9.slots[((0 : Int32)).toNatClampNeg]? = some (.ref bR5_3) := Has.at Ahq9 hin10 rfl
  obtain ⟨_, _, ⟨T12, L12, k12, n12⟩, -, X12, ⟨Lc12, hQ12, l12, y12, z12⟩, st12⟩ := Jvm.LawKit.callS X8 hx (y := yN20) hown (mvT hZ (ow hw 82 rfl)) (mvT hZ (ow hw 83 rfl)) (mvT hZ (ow hw 84 rfl)) (mvT hZ (ow hw 85 rfl)) (by decide) (backOf (W := 0) (atN l Z a0 hw [] bR5_1 (0 : Int32) (8 : Int32) bR5_0 clq9 bR5_3 ((pI900 / (8 : Int32)) + (pI900 % (8 : Int32))) T5.heap n0 Z7 x5_6 Arq9 hat11 x5_5 x5_2 x5_3 (by decide) hin10) hZ (ow hw 85 rfl) (ow hw 84 rfl) (by decide) (by decide)) (g := (mkF m 36 #[.val (.int pI1), .val (.int pI2), .val (.int pI900), .val (.int 8), .val (.ref bR5_1), .unset, .unset] [(.int 8), (.int 0), (.ref bR5_1)])) rfl (by rw [hml]; rfl) (argsL := [(.ref bR5_1), (.int 0), (.int 8)]) (rest := []) (lenOf pd_13 rfl) rfl (Nat.le_refl _) (hb hby at_36) (fun _ _ => ⟨rfl, e8, (by decide : 5 + 0 ≤ _), (by decide : 20 + 0 ≤ _)⟩)
  dsimp only [Pt.U, Pt.locs, Pt.cells, Pt.slots] at X12 l12 y12 z12 st12 hQ12
  subst l12 y12 z12
  obtain ⟨rfl, Nq12, e12⟩ := hQ12
  have N12 := Fr.app N8 Nq12
  have hin13 : ¬ ((1 : Int32) < 0 ∨ clq9.slots.size ≤ ((1 : Int32)).toNatClampNeg) := inb_of Asq9 ⟨by decide, by decide⟩
  have hat14 : clq9.slots[((1 : Int32)).toNatClampNeg]? = some (.ref bR5_2) := Has.at Ahq9 hin13 rfl
  obtain ⟨_, _, ⟨T15, L15, k15, n15⟩, -, X15, ⟨Lc15, hQ15, l15, y15, z15⟩, st15⟩ := Jvm.LawKit.callS X12 hx (y := yN20) hown (mvT hZ (ow hw 82 rfl)) (mvT hZ (ow hw 83 rfl)) (mvT hZ (ow hw 84 rfl)) (mvT hZ (ow hw 85 rfl)) (by decide) (backOf (W := 2) (atN l Z a0 hw [] bR5_1 (1 : Int32) (8 : Int32) bR5_0 clq9 bR5_2 (pI900 / (8 : Int32)) T5.heap n0 Z7 x5_6 Arq9 hat14 x5_5 x5_0 x5_1 (by decide) hin13) hZ (ow hw 85 rfl) (ow hw 84 rfl) (by decide) (by decide)) (g := (mkF m 43 #[.val (.int pI1), .val (.int pI2), .val (.int pI900), .val (.int 8), .val (.ref bR5_1), .unset, .unset] [(.int 8), (.int 1), (.ref bR5_1), (.long (((pI900 / (8 : Int32)) + (pI900 % (8 : Int32))).toInt64))])) rfl (by rw [hml]; rfl) (argsL := [(.ref bR5_1), (.int 1), (.int 8)]) (rest := [(.long (((pI900 / (8 : Int32)) + (pI900 % (8 : Int32))).toInt64))]) (lenOf pd_13 rfl) rfl (Nat.le_refl _) (hb hby at_43) (fun _ _ => ⟨rfl, e12, (by decide : 5 + 0 ≤ _), (by decide : 20 + 0 ≤ _)⟩)
  dsimp only [Pt.U, Pt.locs, Pt.cells, Pt.slots] at X15 l15 y15 z15 st15 hQ15
  subst l15 y15 z15
  obtain ⟨rfl, Nq15, e15⟩ := hQ15
  have N15 := Fr.app N12 Nq15
  have hin16 : ¬ ((2 : Int32) < 0 ∨ clq9.slots.size ≤ ((2 : Int32)).toNatClampNeg) := inb_of Asq9 ⟨by decide, by decide⟩
  have hat17 : clq9.slots[((2 : Int32)).toNatClampNeg]? = some (.ref bR5_2) := Has.at Ahq9 hin16 rfl
  obtain ⟨_, _, ⟨T18, L18, k18, n18⟩, -, X18, ⟨Lc18, hQ18, l18, y18, z18⟩, st18⟩ := Jvm.LawKit.callS X15 hx (y := yN20) hown (mvT hZ (ow hw 82 rfl)) (mvT hZ (ow hw 83 rfl)) (mvT hZ (ow hw 84 rfl)) (mvT hZ (ow hw 85 rfl)) (by decide) (backOf (W := 2) (atN l Z a0 hw [] bR5_1 (2 : Int32) (8 : Int32) bR5_0 clq9 bR5_2 (pI900 / (8 : Int32)) T5.heap n0 Z7 x5_6 Arq9 hat17 x5_5 x5_0 x5_1 (by decide) hin16) hZ (ow hw 85 rfl) (ow hw 84 rfl) (by decide) (by decide)) (g := (mkF m 51 #[.val (.int pI1), .val (.int pI2), .val (.int pI900), .val (.int 8), .val (.ref bR5_1), .unset, .unset] [(.int 8), (.int 2), (.ref bR5_1), (.long pJ911)])) rfl (by rw [hml]; rfl) (argsL := [(.ref bR5_1), (.int 2), (.int 8)]) (rest := [(.long pJ911)]) (lenOf pd_13 rfl) rfl (Nat.le_refl _) (hb hby at_51) (fun _ _ => ⟨rfl, e15, (by decide : 5 + 0 ≤ _), (by decide : 20 + 0 ≤ _)⟩)
  dsimp only [Pt.U, Pt.locs, Pt.cells, Pt.slots] at X18 l18 y18 z18 st18 hQ18
  subst l18 y18 z18
  obtain ⟨rfl, Nq18, e18⟩ := hQ18
  have N18 := Fr.app N15 Nq18
  have hin19 : ¬ ((3 : Int32) < 0 ∨ clq9.slots.size ≤ ((3 : Int32)).toNatClampNeg) := inb_of Asq9 ⟨by decide, by decide⟩
  have hat20 : clq9.slots[((3 : Int32)).toNatClampNeg]? = some (.ref bR5_2) := Has.at Ahq9 hin19 rfl
  obtain ⟨_, _, ⟨T21, L21, k21, n21⟩, -, X21, ⟨Lc21, hQ21, l21, y21, z21⟩, st21⟩ := Jvm.LawKit.callS X18 hx (y := yN20) hown (mvT hZ (ow hw 82 rfl)) (mvT hZ (ow hw 83 rfl)) (mvT hZ (ow hw 84 rfl)) (mvT hZ (ow hw 85 rfl)) (by decide) (backOf (W := 2) (atN l Z a0 hw [] bR5_1 (3 : Int32) (8 : Int32) bR5_0 clq9 bR5_2 (pI900 / (8 : Int32)) T5.heap n0 Z7 x5_6 Arq9 hat20 x5_5 x5_0 x5_1 (by decide) hin19) hZ (ow hw 85 rfl) (ow hw 84 rfl) (by decide) (by decide)) (g := (mkF m 59 #[.val (.int pI1), .val (.int pI2), .val (.int pI900), .val (.int 8), .val (.ref bR5_1), .unset, .unset] [(.int 8), (.int 3), (.ref bR5_1), (.long pJ912)])) rfl (by rw [hml]; rfl) (argsL := [(.ref bR5_1), (.int 3), (.int 8)]) (rest := [(.long pJ912)]) (lenOf pd_13 rfl) rfl (Nat.le_refl _) (hb hby at_59) (fun _ _ => ⟨rfl, e18, (by decide : 5 + 0 ≤ _), (by decide : 20 + 0 ≤ _)⟩)
  dsimp only [Pt.U, Pt.locs, Pt.cells, Pt.slots] at X21 l21 y21 z21 st21 hQ21
  subst l21 y21 z21
  obtain ⟨rfl, Nq21, e21⟩ := hQ21
  have N21 := Fr.app N18 Nq21
  have hin22 : ¬ ((4 : Int32) < 0 ∨ clq9.slots.size ≤ ((4 : Int32)).toNatClampNeg) := inb_of Asq9 ⟨by decide, by decide⟩
  have hat23 : clq9.slots[((4 : Int32)).toNatClampNeg]? = some (.ref bR5_2) := Has.at Ahq9 hin22 rfl
  obtain ⟨_, _, ⟨T24, L24, k24, n24⟩, -, X24, ⟨Lc24, hQ24, l24, y24, z24⟩, st24⟩ := Jvm.LawKit.callS X21 hx (y := yN20) hown (mvT hZ (ow hw 82 rfl)) (mvT hZ (ow hw 83 rfl)) (mvT hZ (ow hw 84 rfl)) (mvT hZ (ow hw 85 rfl)) (by decide) (backOf (W := 2) (atN l Z a0 hw [] bR5_1 (4 : Int32) (8 : Int32) bR5_0 clq9 bR5_2 (pI900 / (8 : Int32)) T5.heap n0 Z7 x5_6 Arq9 hat23 x5_5 x5_0 x5_1 (by decide) hin22) hZ (ow hw 85 rfl) (ow hw 84 rfl) (by decide) (by decide)) (g := (mkF m 67 #[.val (.int pI1), .val (.int pI2), .val (.int pI900), .val (.int 8), .val (.ref bR5_1), .unset, .unset] [(.int 8), (.int 4), (.ref bR5_1), (.long pJ913)])) rfl (by rw [hml]; rfl) (argsL := [(.ref bR5_1), (.int 4), (.int 8)]) (rest := [(.long pJ913)]) (lenOf pd_13 rfl) rfl (Nat.le_refl _) (hb hby at_67) (fun _ _ => ⟨rfl, e21, (by decide : 5 + 0 ≤ _), (by decide : 20 + 0 ≤ _)⟩)
  dsimp only [Pt.U, Pt.locs, Pt.cells, Pt.slots] at X24 l24 y24 z24 st24 hQ24
  subst l24 y24 z24
  obtain ⟨rfl, Nq24, e24⟩ := hQ24
  have N24 := Fr.app N21 Nq24
  have hin25 : ¬ ((5 : Int32) < 0 ∨ clq9.slots.size ≤ ((5 : Int32)).toNatClampNeg) := inb_of Asq9 ⟨by decide, by decide⟩
  have hat26 : clq9.slots[((5 : Int32)).toNatClampNeg]? = some (.ref bR5_2) := Has.at Ahq9 hin25 rfl
  obtain ⟨_, _, ⟨T27, L27, k27, n27⟩, -, X27, ⟨Lc27, hQ27, l27, y27, z27⟩, st27⟩ := Jvm.LawKit.callS X24 hx (y := yN20) hown (mvT hZ (ow hw 82 rfl)) (mvT hZ (ow hw 83 rfl)) (mvT hZ (ow hw 84 rfl)) (mvT hZ (ow hw 85 rfl)) (by decide) (backOf (W := 2) (atN l Z a0 hw [] bR5_1 (5 : Int32) (8 : Int32) bR5_0 clq9 bR5_2 (pI900 / (8 : Int32)) T5.heap n0 Z7 x5_6 Arq9 hat26 x5_5 x5_0 x5_1 (by decide) hin25) hZ (ow hw 85 rfl) (ow hw 84 rfl) (by decide) (by decide)) (g := (mkF m 75 #[.val (.int pI1), .val (.int pI2), .val (.int pI900), .val (.int 8), .val (.ref bR5_1), .unset, .unset] [(.int 8), (.int 5), (.ref bR5_1), (.long pJ914)])) rfl (by rw [hml]; rfl) (argsL := [(.ref bR5_1), (.int 5), (.int 8)]) (rest := [(.long pJ914)]) (lenOf pd_13 rfl) rfl (Nat.le_refl _) (hb hby at_75) (fun _ _ => ⟨rfl, e24, (by decide : 5 + 0 ≤ _), (by decide : 20 + 0 ≤ _)⟩)
  dsimp only [Pt.U, Pt.locs, Pt.cells, Pt.slots] at X27 l27 y27 z27 st27 hQ27
  subst l27 y27 z27
  obtain ⟨rfl, Nq27, e27⟩ := hQ27
  have N27 := Fr.app N24 Nq27
  have hin28 : ¬ ((6 : Int32) < 0 ∨ clq9.slots.size ≤ ((6 : Int32)).toNatClampNeg) := inb_of Asq9 ⟨by decide, by decide⟩
  have hat29 : clq9.slots[((6 : Int32)).toNatClampNeg]? = some (.ref bR5_2) := Has.at Ahq9 hin28 rfl
  obtain ⟨_, _, ⟨T30, L30, k30, n30⟩, -, X30, ⟨Lc30, hQ30, l30, y30, z30⟩, st30⟩ := Jvm.LawKit.callS X27 hx (y := yN20) hown (mvT hZ (ow hw 82 rfl)) (mvT hZ (ow hw 83 rfl)) (mvT hZ (ow hw 84 rfl)) (mvT hZ (ow hw 85 rfl)) (by decide) (backOf (W := 2) (atN l Z a0 hw [] bR5_1 (6 : Int32) (8 : Int32) bR5_0 clq9 bR5_2 (pI900 / (8 : Int32)) T5.heap n0 Z7 x5_6 Arq9 hat29 x5_5 x5_0 x5_1 (by decide) hin28) hZ (ow hw 85 rfl) (ow hw 84 rfl) (by decide) (by decide)) (g := (mkF m 84 #[.val (.int pI1), .val (.int pI2), .val (.int pI900), .val (.int 8), .val (.ref bR5_1), .unset, .unset] [(.int 8), (.int 6), (.ref bR5_1), (.long pJ915)])) rfl (by rw [hml]; rfl) (argsL := [(.ref bR5_1), (.int 6), (.int 8)]) (rest := [(.long pJ915)]) (lenOf pd_13 rfl) rfl (Nat.le_refl _) (hb hby at_84) (fun _ _ => ⟨rfl, e27, (by decide : 5 + 0 ≤ _), (by decide : 20 + 0 ≤ _)⟩)
  dsimp only [Pt.U, Pt.locs, Pt.cells, Pt.slots] at X30 l30 y30 z30 st30 hQ30
  subst l30 y30 z30
  obtain ⟨rfl, Nq30, e30⟩ := hQ30
  have N30 := Fr.app N27 Nq30
  have hin31 : ¬ ((7 : Int32) < 0 ∨ clq9.slots.size ≤ ((7 : Int32)).toNatClampNeg) := inb_of Asq9 ⟨by decide, by decide⟩
  have hat32 : clq9.slots[((7 : Int32)).toNatClampNeg]? = some (.ref bR5_2) := Has.at Ahq9 hin31 rfl
  obtain ⟨_, _, ⟨T33, L33, k33, n33⟩, -, X33, ⟨Lc33, hQ33, l33, y33, z33⟩, st33⟩ := Jvm.LawKit.callS X30 hx (y := yN20) hown (mvT hZ (ow hw 82 rfl)) (mvT hZ (ow hw 83 rfl)) (mvT hZ (ow hw 84 rfl)) (mvT hZ (ow hw 85 rfl)) (by decide) (backOf (W := 2) (atN l Z a0 hw [] bR5_1 (7 : Int32) (8 : Int32) bR5_0 clq9 bR5_2 (pI900 / (8 : Int32)) T5.heap n0 Z7 x5_6 Arq9 hat32 x5_5 x5_0 x5_1 (by decide) hin31) hZ (ow hw 85 rfl) (ow hw 84 rfl) (by decide) (by decide)) (g := (mkF m 93 #[.val (.int pI1), .val (.int pI2), .val (.int pI900), .val (.int 8), .val (.ref bR5_1), .unset, .unset] [(.int 8), (.int 7), (.ref bR5_1), (.long pJ916)])) rfl (by rw [hml]; rfl) (argsL := [(.ref bR5_1), (.int 7), (.int 8)]) (rest := [(.long pJ916)]) (lenOf pd_13 rfl) rfl (Nat.le_refl _) (hb hby at_93) (fun _ _ => ⟨rfl, e30, (by decide : 5 + 0 ≤ _), (by decide : 20 + 0 ≤ _)⟩)
  dsimp only [Pt.U, Pt.locs, Pt.cells, Pt.slots] at X33 l33 y33 z33 st33 hQ33
  subst l33 y33 z33
  obtain ⟨rfl, Nq33, e33⟩ := hQ33
  have N33 := Fr.app N30 Nq33
  obtain ⟨_, _, ⟨T34, L34, k34, n34⟩, -, X34, ⟨Lc34, hQ34, l34, y34, z34⟩, st34⟩ := Jvm.LawKit.callS X33 hx (y := yN22) hown (mvT hZ (ow hw 100 rfl)) (mvT hZ (ow hw 101 rfl)) (mvT hZ (ow hw 84 rfl)) (mvT hZ (ow hw 102 rfl)) (by decide) (backOf (W := 0) (laN l Z a0 hw [] bR5_1 (1 : Int32) (8 : Int32) pI900 bR5_0 clq9 bR5_2 (pI900 / (8 : Int32)) T5.heap n0 Z7 x5_6 Arq9 hat14 x5_5 x5_0 x5_1 (by decide) hin13 hc114 hc114') hZ (ow hw 102 rfl) (ow hw 84 rfl) (by decide) (by decide)) (g := (mkF m 114 #[.val (.int pI1), .val (.int pI2), .val (.int pI900), .val (.int 8), .val (.ref bR5_1), .val (.long pJ917), .second] [(.int pI900), (.int 8), (.int 1), (.ref bR5_1)])) rfl (by rw [hml]; rfl) (argsL := [(.ref bR5_1), (.int 1), (.int 8), (.int pI900)]) (rest := []) (lenOf pd_14 rfl) rfl (Nat.le_refl _) (hb hby at_114) (fun _ _ => ⟨rfl, e33, (by decide : 5 + 0 ≤ _), (by decide : 20 + 0 ≤ _)⟩)
  dsimp only [Pt.U, Pt.locs, Pt.cells, Pt.slots] at X34 l34 y34 z34 st34 hQ34
  subst l34 y34 z34
  obtain ⟨rfl, Nq34, e34⟩ := hQ34
  have N34 := Fr.app N33 Nq34
  obtain ⟨_, _, ⟨T35, L35, k35, n35⟩, -, X35, ⟨Lc35, hQ35, l35, y35, z35⟩, st35⟩ := Jvm.LawKit.callS X34 hx (y := yN22) hown (mvT hZ (ow hw 100 rfl)) (mvT hZ (ow hw 101 rfl)) (mvT hZ (ow hw 84 rfl)) (mvT hZ (ow hw 102 rfl)) (by decide) (backOf (W := 0) (laN l Z a0 hw [] bR5_1 (2 : Int32) (8 : Int32) pI900 bR5_0 clq9 bR5_2 (pI900 / (8 : Int32)) T5.heap n0 Z7 x5_6 Arq9 hat17 x5_5 x5_0 x5_1 (by decide) hin16 hc114 hc114') hZ (ow hw 102 rfl) (ow hw 84 rfl) (by decide) (by decide)) (g := (mkF m 125 #[.val (.int pI1), .val (.int pI2), .val (.int pI900), .val (.int 8), .val (.ref bR5_1), .val (.long pJ917), .second] [(.int pI900), (.int 8), (.int 2), (.ref bR5_1)])) rfl (by rw [hml]; rfl) (argsL := [(.ref bR5_1), (.int 2), (.int 8), (.int pI900)]) (rest := []) (lenOf pd_14 rfl) rfl (Nat.le_refl _) (hb hby at_125) (fun _ _ => ⟨rfl, e34, (by decide : 5 + 0 ≤ _), (by decide : 20 + 0 ≤ _)⟩)
  dsimp only [Pt.U, Pt.locs, Pt.cells, Pt.slots] at X35 l35 y35 z35 st35 hQ35
  subst l35 y35 z35
  obtain ⟨rfl, Nq35, e35⟩ := hQ35
  have N35 := Fr.app N34 Nq35
  obtain ⟨_, _, ⟨T36, L36, k36, n36⟩, -, X36, ⟨Lc36, hQ36, l36, y36, z36⟩, st36⟩ := Jvm.LawKit.callS X35 hx (y := yN22) hown (mvT hZ (ow hw 100 rfl)) (mvT hZ (ow hw 101 rfl)) (mvT hZ (ow hw 84 rfl)) (mvT hZ (ow hw 102 rfl)) (by decide) (backOf (W := 0) (laN l Z a0 hw [] bR5_1 (3 : Int32) (8 : Int32) pI900 bR5_0 clq9 bR5_2 (pI900 / (8 : Int32)) T5.heap n0 Z7 x5_6 Arq9 hat20 x5_5 x5_0 x5_1 (by decide) hin19 hc114 hc114') hZ (ow hw 102 rfl) (ow hw 84 rfl) (by decide) (by decide)) (g := (mkF m 136 #[.val (.int pI1), .val (.int pI2), .val (.int pI900), .val (.int 8), .val (.ref bR5_1), .val (.long pJ917), .second] [(.int pI900), (.int 8), (.int 3), (.ref bR5_1)])) rfl (by rw [hml]; rfl) (argsL := [(.ref bR5_1), (.int 3), (.int 8), (.int pI900)]) (rest := []) (lenOf pd_14 rfl) rfl (Nat.le_refl _) (hb hby at_136) (fun _ _ => ⟨rfl, e35, (by decide : 5 + 0 ≤ _), (by decide : 20 + 0 ≤ _)⟩)
  dsimp only [Pt.U, Pt.locs, Pt.cells, Pt.slots] at X36 l36 y36 z36 st36 hQ36
  subst l36 y36 z36
  obtain ⟨rfl, Nq36, e36⟩ := hQ36
  have N36 := Fr.app N35 Nq36
  obtain ⟨_, _, ⟨T37, L37, k37, n37⟩, -, X37, ⟨Lc37, hQ37, l37, y37, z37⟩, st37⟩ := Jvm.LawKit.callS X36 hx (y := yN22) hown (mvT hZ (ow hw 100 rfl)) (mvT hZ (ow hw 101 rfl)) (mvT hZ (ow hw 84 rfl)) (mvT hZ (ow hw 102 rfl)) (by decide) (backOf (W := 0) (laN l Z a0 hw [] bR5_1 (4 : Int32) (8 : Int32) pI900 bR5_0 clq9 bR5_2 (pI900 / (8 : Int32)) T5.heap n0 Z7 x5_6 Arq9 hat23 x5_5 x5_0 x5_1 (by decide) hin22 hc114 hc114') hZ (ow hw 102 rfl) (ow hw 84 rfl) (by decide) (by decide)) (g := (mkF m 147 #[.val (.int pI1), .val (.int pI2), .val (.int pI900), .val (.int 8), .val (.ref bR5_1), .val (.long pJ917), .second] [(.int pI900), (.int 8), (.int 4), (.ref bR5_1)])) rfl (by rw [hml]; rfl) (argsL := [(.ref bR5_1), (.int 4), (.int 8), (.int pI900)]) (rest := []) (lenOf pd_14 rfl) rfl (Nat.le_refl _) (hb hby at_147) (fun _ _ => ⟨rfl, e36, (by decide : 5 + 0 ≤ _), (by decide : 20 + 0 ≤ _)⟩)
  dsimp only [Pt.U, Pt.locs, Pt.cells, Pt.slots] at X37 l37 y37 z37 st37 hQ37
  subst l37 y37 z37
  obtain ⟨rfl, Nq37, e37⟩ := hQ37
  have N37 := Fr.app N36 Nq37
  obtain ⟨_, _, ⟨T38, L38, k38, n38⟩, -, X38, ⟨Lc38, hQ38, l38, y38, z38⟩, st38⟩ := Jvm.LawKit.callS X37 hx (y := yN22) hown (mvT hZ (ow hw 100 rfl)) (mvT hZ (ow hw 101 rfl)) (mvT hZ (ow hw 84 rfl)) (mvT hZ (ow hw 102 rfl)) (by decide) (backOf (W := 0) (laN l Z a0 hw [] bR5_1 (5 : Int32) (8 : Int32) pI900 bR5_0 clq9 bR5_2 (pI900 / (8 : Int32)) T5.heap n0 Z7 x5_6 Arq9 hat26 x5_5 x5_0 x5_1 (by decide) hin25 hc114 hc114') hZ (ow hw 102 rfl) (ow hw 84 rfl) (by decide) (by decide)) (g := (mkF m 158 #[.val (.int pI1), .val (.int pI2), .val (.int pI900), .val (.int 8), .val (.ref bR5_1), .val (.long pJ917), .second] [(.int pI900), (.int 8), (.int 5), (.ref bR5_1)])) rfl (by rw [hml]; rfl) (argsL := [(.ref bR5_1), (.int 5), (.int 8), (.int pI900)]) (rest := []) (lenOf pd_14 rfl) rfl (Nat.le_refl _) (hb hby at_158) (fun _ _ => ⟨rfl, e37, (by decide : 5 + 0 ≤ _), (by decide : 20 + 0 ≤ _)⟩)
  dsimp only [Pt.U, Pt.locs, Pt.cells, Pt.slots] at X38 l38 y38 z38 st38 hQ38
  subst l38 y38 z38
  obtain ⟨rfl, Nq38, e38⟩ := hQ38
  have N38 := Fr.app N37 Nq38
  obtain ⟨_, _, ⟨T39, L39, k39, n39⟩, -, X39, ⟨Lc39, hQ39, l39, y39, z39⟩, st39⟩ := Jvm.LawKit.callS X38 hx (y := yN22) hown (mvT hZ (ow hw 100 rfl)) (mvT hZ (ow hw 101 rfl)) (mvT hZ (ow hw 84 rfl)) (mvT hZ (ow hw 102 rfl)) (by decide) (backOf (W := 0) (laN l Z a0 hw [] bR5_1 (6 : Int32) (8 : Int32) pI900 bR5_0 clq9 bR5_2 (pI900 / (8 : Int32)) T5.heap n0 Z7 x5_6 Arq9 hat29 x5_5 x5_0 x5_1 (by decide) hin28 hc114 hc114') hZ (ow hw 102 rfl) (ow hw 84 rfl) (by decide) (by decide)) (g := (mkF m 170 #[.val (.int pI1), .val (.int pI2), .val (.int pI900), .val (.int 8), .val (.ref bR5_1), .val (.long pJ917), .second] [(.int pI900), (.int 8), (.int 6), (.ref bR5_1)])) rfl (by rw [hml]; rfl) (argsL := [(.ref bR5_1), (.int 6), (.int 8), (.int pI900)]) (rest := []) (lenOf pd_14 rfl) rfl (Nat.le_refl _) (hb hby at_170) (fun _ _ => ⟨rfl, e38, (by decide : 5 + 0 ≤ _), (by decide : 20 + 0 ≤ _)⟩)
  dsimp only [Pt.U, Pt.locs, Pt.cells, Pt.slots] at X39 l39 y39 z39 st39 hQ39
  subst l39 y39 z39
  obtain ⟨rfl, Nq39, e39⟩ := hQ39
  have N39 := Fr.app N38 Nq39
  obtain ⟨_, _, ⟨T40, L40, k40, n40⟩, -, X40, ⟨Lc40, hQ40, l40, y40, z40⟩, st40⟩ := Jvm.LawKit.callS X39 hx (y := yN22) hown (mvT hZ (ow hw 100 rfl)) (mvT hZ (ow hw 101 rfl)) (mvT hZ (ow hw 84 rfl)) (mvT hZ (ow hw 102 rfl)) (by decide) (backOf (W := 0) (laN l Z a0 hw [] bR5_1 (7 : Int32) (8 : Int32) pI900 bR5_0 clq9 bR5_2 (pI900 / (8 : Int32)) T5.heap n0 Z7 x5_6 Arq9 hat32 x5_5 x5_0 x5_1 (by decide) hin31 hc114 hc114') hZ (ow hw 102 rfl) (ow hw 84 rfl) (by decide) (by decide)) (g := (mkF m 182 #[.val (.int pI1), .val (.int pI2), .val (.int pI900), .val (.int 8), .val (.ref bR5_1), .val (.long pJ917), .second] [(.int pI900), (.int 8), (.int 7), (.ref bR5_1)])) rfl (by rw [hml]; rfl) (argsL := [(.ref bR5_1), (.int 7), (.int 8), (.int pI900)]) (rest := []) (lenOf pd_14 rfl) rfl (Nat.le_refl _) (hb hby at_182) (fun _ _ => ⟨rfl, e39, (by decide : 5 + 0 ≤ _), (by decide : 20 + 0 ≤ _)⟩)
  dsimp only [Pt.U, Pt.locs, Pt.cells, Pt.slots] at X40 l40 y40 z40 st40 hQ40
  subst l40 y40 z40
  obtain ⟨rfl, Nq40, e40⟩ := hQ40
  have N40 := Fr.app N39 Nq40
  obtain ⟨fs, hr, hrun, hended, hW, hsame⟩ := X40.leave (v := some (.int 1)) (fun h => by rw [Bd.returns] at h; cases h)
  refine ⟨_, _, castTop (ef_law8 m pI1 pI2) ?_, hrun, hended, _, _, rfl, ?_, ⟨_, rfl⟩, hW, hsame.mono (by decide) (by decide)⟩
  · show oS p e below s₁ m 0 #[.val (.int pI1), .val (.int pI2), .unset, .unset, .unset, .unset, .unset] [] _
    refine XS.iloadN X0.here hx rfl (hb hby at_0) rfl ?_
    refine X0.ldcInt hx hown (mvT hZ (ow hw 0 rfl)) (g := (mkF m 1 #[.val (.int pI1), .val (.int pI2), .unset, .unset, .unset, .unset, .unset] [(.int pI1)])) rfl (hb hby at_1) _ ?_
    refine XS.iand X0.here hx rfl (hb hby at_3) rfl ?_
    show Steps p.tables e below (s₁.setTop (mkF m 4 #[.val (.int pI1), .val (.int pI2), .unset, .unset, .unset, .unset, .unset] [(.int (pI1 &&& (2147483647 : Int32)))])) _
    rw [hr3]
    refine XS.istoreN X0.here hx rfl (hb hby at_4) rfl (l' := #[.val (.int pI1), .val (.int pI2), .val (.int pI900), .unset, .unset, .unset, .unset]) rfl ?_
    refine XS.iloadN X0.here hx rfl (hb hby at_5) rfl ?_
    refine XS.bipush X0.here hx rfl (hb hby at_6) ?_
    refine XS.iand X0.here hx rfl (hb hby at_8) rfl ?_
    show Steps p.tables e below (s₁.setTop (mkF m 9 #[.val (.int pI1), .val (.int pI2), .val (.int pI900), .unset, .unset, .unset, .unset] [(.int (pI2 &&& (7 : Int32)))])) _
    rw [hc8]
    refine XS.iconst X0.here hx rfl (hb hby at_9) ?_
    show oS p e below s₁ m 10 #[.val (.int pI1), .val (.int pI2), .val (.int pI900), .unset, .unset, .unset, .unset] [(.int 1), (.int 7)] _
    refine XS.iadd X0.here hx rfl (hb hby at_10) rfl ?_
    refine XS.istoreN X0.here hx rfl (hb hby at_11) rfl (l' := #[.val (.int pI1), .val (.int pI2), .val (.int pI900), .val (.int 8), .unset, .unset, .unset]) rfl ?_
    refine XS.iloadN X0.here hx rfl (hb hby at_12) rfl ?_
    refine XS.iloadN X0.here hx rfl (hb hby at_13) rfl ?_
    refine st5 _ ?_
    refine XS.astore X5.here hx rfl (hb hby at_17) rfl rfl (l' := #[.val (.int pI1), .val (.int pI2), .val (.int pI900), .val (.int 8), .val (.ref bR5_1), .unset, .unset]) rfl ?_
    refine XS.aload X5.here hx rfl (hb hby at_19) rfl rfl ?_
    refine st8.trans ?_
    show oS p e below T8 m 26 #[.val (.int pI1), .val (.int pI2), .val (.int pI900), .val (.int 8), .val (.ref bR5_1), .unset, .unset] [(.int 8)] _
    refine XS.iloadN X8.here hx rfl (hb hby at_26) rfl ?_
    refine XS.icmpYes X8.here hx rfl (pc0 := 27) (pc' := 32) rfl (hb hby at_27) rfl (teq (by decide : (8 : Int32) = (8 : Int32))).1 (by decide) (by decide) ?_
    refine XS.aload X8.here hx rfl (hb hby at_32) rfl rfl ?_
    refine XS.iconst X8.here hx rfl (hb hby at_34) ?_
    refine XS.iloadN X8.here hx rfl (hb hby at_35) rfl ?_
    refine st12 _ ?_
    refine XS.aload X12.here hx rfl (hb hby at_39) rfl rfl ?_
    refine XS.iconst X12.here hx rfl (hb hby at_41) ?_
    show oS p e below T12 m 42 #[.val (.int pI1), .val (.int pI2), .val (.int pI900), .val (.int 8), .val (.ref bR5_1), .unset, .unset] [(.int 1), (.ref bR5_1), (.long (((pI900 / (8 : Int32)) + (pI900 % (8 : Int32))).toInt64))] _
    refine XS.iloadN X12.here hx rfl (hb hby at_42) rfl ?_
    refine st15 _ ?_
    refine XS.ladd X15.here hx rfl (hb hby at_46) rfl ?_
    show Steps p.tables e below (T15.setTop (mkF m 47 #[.val (.int pI1), .val (.int pI2), .val (.int pI900), .val (.int 8), .val (.ref bR5_1), .unset, .unset] [(.long ((((pI900 / (8 : Int32)) + (pI900 % (8 : Int32))).toInt64) + ((pI900 / (8 : Int32)).toInt64)))])) _
    rw [hr46]
    refine XS.aload X15.here hx rfl (hb hby at_47) rfl rfl ?_
    refine XS.iconst X15.here hx rfl (hb hby at_49) ?_
    refine XS.iloadN X15.here hx rfl (hb hby at_50) rfl ?_
    refine st18 _ ?_
    refine XS.ladd X18.here hx rfl (hb hby at_54) rfl ?_
    show Steps p.tables e below (T18.setTop (mkF m 55 #[.val (.int pI1), .val (.int pI2), .val (.int pI900), .val (.int 8), .val (.ref bR5_1), .unset, .unset] [(.long (pJ911 + ((pI900 / (8 : Int32)).toInt64)))])) _
    rw [hr54]
    show oS p e below T18 m 55 #[.val (.int pI1), .val (.int pI2), .val (.int pI900), .val (.int 8), .val (.ref bR5_1), .unset, .unset] [(.long pJ912)] _
    refine XS.aload X18.here hx rfl (hb hby at_55) rfl rfl ?_
    refine XS.iconst X18.here hx rfl (hb hby at_57) ?_
    refine XS.iloadN X18.here hx rfl (hb hby at_58) rfl ?_
    refine st21 _ ?_
    refine XS.ladd X21.here hx rfl (hb hby at_62) rfl ?_
    show Steps p.tables e below (T21.setTop (mkF m 63 #[.val (.int pI1), .val (.int pI2), .val (.int pI900), .val (.int 8), .val (.ref bR5_1), .unset, .unset] [(.long (pJ912 + ((pI900 / (8 : Int32)).toInt64)))])) _
    rw [hr62]
    refine XS.aload X21.here hx rfl (hb hby at_63) rfl rfl ?_
    refine XS.iconst X21.here hx rfl (hb hby at_65) ?_
    refine XS.iloadN X21.here hx rfl (hb hby at_66) rfl ?_
    show oS p e below T21 m 67 #[.val (.int pI1), .val (.int pI2), .val (.int pI900), .val (.int 8), .val (.ref bR5_1), .unset, .unset] [(.int 8), (.int 4), (.ref bR5_1), (.long pJ913)] _
    refine st24 _ ?_
    refine XS.ladd X24.here hx rfl (hb hby at_70) rfl ?_
    show Steps p.tables e below (T24.setTop (mkF m 71 #[.val (.int pI1), .val (.int pI2), .val (.int pI900), .val (.int 8), .val (.ref bR5_1), .unset, .unset] [(.long (pJ913 + ((pI900 / (8 : Int32)).toInt64)))])) _
    rw [hr70]
    refine XS.aload X24.here hx rfl (hb hby at_71) rfl rfl ?_
    refine XS.iconst X24.here hx rfl (hb hby at_73) ?_
    refine XS.iloadN X24.here hx rfl (hb hby at_74) rfl ?_
    refine st27 _ ?_
    refine XS.ladd X27.here hx rfl (hb hby at_78) rfl ?_
    show Steps p.tables e below (T27.setTop (mkF m 79 #[.val (.int pI1), .val (.int pI2), .val (.int pI900), .val (.int 8), .val (.ref bR5_1), .unset, .unset] [(.long (pJ914 + ((pI900 / (8 : Int32)).toInt64)))])) _
    rw [hr78]
    refine XS.aload X27.here hx rfl (hb hby at_79) rfl rfl ?_
    show oS p e below T27 m 81 #[.val (.int pI1), .val (.int pI2), .val (.int pI900), .val (.int 8), .val (.ref bR5_1), .unset, .unset] [(.ref bR5_1), (.long pJ915)] _
    refine XS.bipush X27.here hx rfl (hb hby at_81) ?_
    refine XS.iloadN X27.here hx rfl (hb hby at_83) rfl ?_
    refine st30 _ ?_
    refine XS.ladd X30.here hx rfl (hb hby at_87) rfl ?_
    show Steps p.tables e below (T30.setTop (mkF m 88 #[.val (.int pI1), .val (.int pI2), .val (.int pI900), .val (.int 8), .val (.ref bR5_1), .unset, .unset] [(.long (pJ915 + ((pI900 / (8 : Int32)).toInt64)))])) _
    rw [hr87]
    refine XS.aload X30.here hx rfl (hb hby at_88) rfl rfl ?_
    refine XS.bipush X30.here hx rfl (hb hby at_90) ?_
    refine XS.iloadN X30.here hx rfl (hb hby at_92) rfl ?_
    refine st33 _ ?_
    show oS p e below T33 m 96 #[.val (.int pI1), .val (.int pI2), .val (.int pI900), .val (.int 8), .val (.ref bR5_1), .unset, .unset] [(.long ((pI900 / (8 : Int32)).toInt64)), (.long pJ916)] _
    refine XS.ladd X33.here hx rfl (hb hby at_96) rfl ?_
    show Steps p.tables e below (T33.setTop (mkF m 97 #[.val (.int pI1), .val (.int pI2), .val (.int pI900), .val (.int 8), .val (.ref bR5_1), .unset, .unset] [(.long (pJ916 + ((pI900 / (8 : Int32)).toInt64)))])) _
    rw [hr96]
    refine XS.lstore X33.here hx rfl (hb hby at_97) rfl (l' := #[.val (.int pI1), .val (.int pI2), .val (.int pI900), .val (.int 8), .val (.ref bR5_1), .val (.long pJ917), .second]) rfl ?_
    refine XS.lload X33.here hx rfl (hb hby at_99) rfl ?_
    refine XS.iloadN X33.here hx rfl (hb hby at_101) rfl ?_
    refine XS.i2l X33.here hx rfl (hb hby at_102) rfl ?_
    refine XS.lcmp X33.here hx rfl (hb hby at_103) rfl ?_
    refine XS.ifYes X33.here hx rfl (pc0 := 104) (pc' := 109) rfl (hb hby at_104) rfl ((if0 _ _).trans (teq hc104).1) (by decide) (by decide) ?_
    refine XS.aload X33.here hx rfl (hb hby at_109) rfl rfl ?_
    show oS p e below T33 m 111 #[.val (.int pI1), .val (.int pI2), .val (.int pI900), .val (.int 8), .val (.ref bR5_1), .val (.long pJ917), .second] [(.ref bR5_1)] _
    refine XS.iconst X33.here hx rfl (hb hby at_111) ?_
    refine XS.iloadN X33.here hx rfl (hb hby at_112) rfl ?_
    refine XS.iloadN X33.here hx rfl (hb hby at_113) rfl ?_
    refine st34 _ ?_
    refine XS.ifNo X34.here hx rfl (hb hby at_117) rfl ((if0 _ _).trans (feq (by decide : ¬ ((1 : Int32) = (0 : Int32)))).1) ?_
    refine XS.aload X34.here hx rfl (hb hby at_120) rfl rfl ?_
    refine XS.iconst X34.here hx rfl (hb hby at_122) ?_
    refine XS.iloadN X34.here hx rfl (hb hby at_123) rfl ?_
    show oS p e below T34 m 124 #[.val (.int pI1), .val (.int pI2), .val (.int pI900), .val (.int 8), .val (.ref bR5_1), .val (.long pJ917), .second] [(.int 8), (.int 2), (.ref bR5_1)] _
    refine XS.iloadN X34.here hx rfl (hb hby at_124) rfl ?_
    refine st35 _ ?_
    refine XS.ifNo X35.here hx rfl (hb hby at_128) rfl ((if0 _ _).trans (feq (by decide : ¬ ((1 : Int32) = (0 : Int32)))).1) ?_
    refine XS.aload X35.here hx rfl (hb hby at_131) rfl rfl ?_
    refine XS.iconst X35.here hx rfl (hb hby at_133) ?_
    refine XS.iloadN X35.here hx rfl (hb hby at_134) rfl ?_
    refine XS.iloadN X35.here hx rfl (hb hby at_135) rfl ?_
    refine st36 _ ?_
    show oS p e below T36 m 139 #[.val (.int pI1), .val (.int pI2), .val (.int pI900), .val (.int 8), .val (.ref bR5_1), .val (.long pJ917), .second] [(.int 1)] _
    refine XS.ifNo X36.here hx rfl (hb hby at_139) rfl ((if0 _ _).trans (feq (by decide : ¬ ((1 : Int32) = (0 : Int32)))).1) ?_
    refine XS.aload X36.here hx rfl (hb hby at_142) rfl rfl ?_
    refine XS.iconst X36.here hx rfl (hb hby at_144) ?_
    refine XS.iloadN X36.here hx rfl (hb hby at_145) rfl ?_
    refine XS.iloadN X36.here hx rfl (hb hby at_146) rfl ?_
    refine st37 _ ?_
    refine XS.ifNo X37.here hx rfl (hb hby at_150) rfl ((if0 _ _).trans (feq (by decide : ¬ ((1 : Int32) = (0 : Int32)))).1) ?_
    refine XS.aload X37.here hx rfl (hb hby at_153) rfl rfl ?_
    show oS p e below T37 m 155 #[.val (.int pI1), .val (.int pI2), .val (.int pI900), .val (.int 8), .val (.ref bR5_1), .val (.long pJ917), .second] [(.ref bR5_1)] _
    refine XS.iconst X37.here hx rfl (hb hby at_155) ?_
    refine XS.iloadN X37.here hx rfl (hb hby at_156) rfl ?_
    refine XS.iloadN X37.here hx rfl (hb hby at_157) rfl ?_
    refine st38 _ ?_
    refine XS.ifNo X38.here hx rfl (hb hby at_161) rfl ((if0 _ _).trans (feq (by decide : ¬ ((1 : Int32) = (0 : Int32)))).1) ?_
    refine XS.aload X38.here hx rfl (hb hby at_164) rfl rfl ?_
    refine XS.bipush X38.here hx rfl (hb hby at_166) ?_
    refine XS.iloadN X38.here hx rfl (hb hby at_168) rfl ?_
    show oS p e below T38 m 169 #[.val (.int pI1), .val (.int pI2), .val (.int pI900), .val (.int 8), .val (.ref bR5_1), .val (.long pJ917), .second] [(.int 8), (.int 6), (.ref bR5_1)] _
    refine XS.iloadN X38.here hx rfl (hb hby at_169) rfl ?_
    refine st39 _ ?_
    refine XS.ifNo X39.here hx rfl (hb hby at_173) rfl ((if0 _ _).trans (feq (by decide : ¬ ((1 : Int32) = (0 : Int32)))).1) ?_
    refine XS.aload X39.here hx rfl (hb hby at_176) rfl rfl ?_
    refine XS.bipush X39.here hx rfl (hb hby at_178) ?_
    refine XS.iloadN X39.here hx rfl (hb hby at_180) rfl ?_
    refine XS.iloadN X39.here hx rfl (hb hby at_181) rfl ?_
    refine st40 _ ?_
    show oS p e below T40 m 185 #[.val (.int pI1), .val (.int pI2), .val (.int pI900), .val (.int 8), .val (.ref bR5_1), .val (.long pJ917), .second] [(.int 1)] _
    refine XS.ifNo X40.here hx rfl (hb hby at_185) rfl ((if0 _ _).trans (feq (by decide : ¬ ((1 : Int32) = (0 : Int32)))).1) ?_
    refine XS.iconst X40.here hx rfl (hb hby at_188) ?_
    refine XS.goto X40.here hx rfl (pc0 := 189) (pc' := 193) rfl (hb hby at_189) (by decide) (by decide) ?_
    exact retN X40 hx (t := .boolean) Bd.returns (by simp) (hb hby at_193) hr
  · show Qlaw8 Z pI1 pI2 pI900 pR3 pC4 pJ911 pJ912 pJ913 pJ914 pJ915 pJ916 pJ917 h0 n0 _ T40.heap _
    rw [e40]
    exact ⟨rfl, N40⟩
theorem own_sum8 {t0 t1 t2 t3 t4 t5 t6 t7 : Int64} (h0 : 0 ≤ t0.toInt ∧ t0.toInt ≤ 4294967296) (h1 : 0 ≤ t1.toInt ∧ t1.toInt ≤ 4294967296) (h2 : 0 ≤ t2.toInt ∧ t2.toInt ≤ 4294967296) (h3 : 0 ≤ t3.toInt ∧ t3.toInt ≤ 4294967296) (h4 : 0 ≤ t4.toInt ∧ t4.toInt ≤ 4294967296) (h5 : 0 ≤ t5.toInt ∧ t5.toInt ≤ 4294967296) (h6 : 0 ≤ t6.toInt ∧ t6.toInt ≤ 4294967296) (h7 : 0 ≤ t7.toInt ∧ t7.toInt ≤ 4294967296) :
    (((((((t0 + t1) + t2) + t3) + t4) + t5) + t6) + t7).toInt = t0.toInt + t1.toInt + t2.toInt + t3.toInt + t4.toInt + t5.toInt + t6.toInt + t7.toInt := by
  have e1 := Jvm.Free.XT.add64 (x := t0) (y := t1) ⟨by omega, by omega⟩
  have e2 := Jvm.Free.XT.add64 (x := t0 + t1) (y := t2) ⟨by omega, by omega⟩
  have e3 := Jvm.Free.XT.add64 (x := t0 + t1 + t2) (y := t3) ⟨by omega, by omega⟩
  have e4 := Jvm.Free.XT.add64 (x := t0 + t1 + t2 + t3) (y := t4) ⟨by omega, by omega⟩
  have e5 := Jvm.Free.XT.add64 (x := t0 + t1 + t2 + t3 + t4) (y := t5) ⟨by omega, by omega⟩
  have e6 := Jvm.Free.XT.add64 (x := t0 + t1 + t2 + t3 + t4 + t5) (y := t6) ⟨by omega, by omega⟩
  have e7 := Jvm.Free.XT.add64 (x := t0 + t1 + t2 + t3 + t4 + t5 + t6) (y := t7) ⟨by omega, by omega⟩
  omega
theorem own_le (c n : Int32) (k : Int) (hn : n.toInt = k) (hk : 0 < k) (hne : n ≠ -1) (hc : 0 ≤ c.toInt) : ¬ ((0 : Int32) < (lcmpW (((c / n).toInt64) * (n.toInt64)) (c.toInt64))) := by
  rw [lw_gt, Int64.lt_iff_toInt_lt, Jvm.Free.XT.wideMul, c_i2l, (c_idiv c n k hn hne).1 hc, hn]
  have h := Int.ediv_mul_le c.toInt (b := k) (by omega)
  omega
theorem own_lt (c n : Int32) (k : Int) (hn : n.toInt = k) (hk : 0 < k) (hk8 : k ≤ 8) (hne : n ≠ -1) (hc : 0 ≤ c.toInt) : (lcmpW (c.toInt64) ((((c / n).toInt64) + (1 : Int64)) * (n.toInt64))) < (0 : Int32) := by
  have hq := (c_idiv c n k hn hne).1 hc
  have hr := rng32 c
  have h := Int.lt_ediv_add_one_mul_self c.toInt (b := k) hk
  have h0 : 0 ≤ c.toInt / k := Int.ediv_nonneg hc (by omega)
  have h1 : c.toInt / k ≤ c.toInt := Int.ediv_le_self _ hc
  have e1 : ((c / n).toInt64 + (1 : Int64)).toInt = c.toInt / k + 1 := by
    rw [Jvm.Free.XT.add64 ⟨by rw [c_i2l, hq, show ((1 : Int64)).toInt = 1 from by decide]; omega, by rw [c_i2l, hq, show ((1 : Int64)).toInt = 1 from by decide]; omega⟩, c_i2l, hq, show ((1 : Int64)).toInt = 1 from by decide]
  have b1 : (c.toInt / k + 1) * k ≤ (c.toInt / k + 1) * 8 := Int.mul_le_mul_of_nonneg_left hk8 (by omega)
  have b0 : 0 ≤ (c.toInt / k + 1) * k := Int.mul_nonneg (by omega) (by omega)
  have e2 : (((c / n).toInt64 + (1 : Int64)) * n.toInt64).toInt = (c.toInt / k + 1) * k := by
    rw [Jvm.Free.XT.mul64 ⟨by rw [e1, c_i2l, hn]; omega, by rw [e1, c_i2l, hn]; omega⟩, e1, c_i2l, hn]
  rw [lw_lt, Int64.lt_iff_toInt_lt, e2, c_i2l]
  exact h
theorem own_sumn1 (c : Int32) (hc : 0 ≤ c.toInt) : (lcmpW ((((((((((c / (1 : Int32)) + (c % (1 : Int32))).toInt64) + (0 : Int64)) + (0 : Int64)) + (0 : Int64)) + (0 : Int64)) + (0 : Int64)) + (0 : Int64)) + (0 : Int64)) (c.toInt64)) = (0 : Int32) := by
  have hq := (c_idiv c (1 : Int32) 1 (by decide) (by decide)).1 hc
  have hr := (c_irem c (1 : Int32) 1 (by decide)).1 hc
  have hb := rng32 c
  have ha : ((c / (1 : Int32)) + (c % (1 : Int32))).toInt = c.toInt / 1 + c.toInt % 1 := by
    have h1 := c_iadd (c / (1 : Int32)) (c % (1 : Int32))
    have h2 := rng32 ((c / (1 : Int32)) + (c % (1 : Int32)))
    omega
  rw [lw_eq]
  apply Int64.toInt_inj.mp
  rw [own_sum8 (⟨by rw [c_i2l, ha]; omega, by rw [c_i2l, ha]; omega⟩) (⟨by decide, by decide⟩) (⟨by decide, by decide⟩) (⟨by decide, by decide⟩) (⟨by decide, by decide⟩) (⟨by decide, by decide⟩) (⟨by decide, by decide⟩) (⟨by decide, by decide⟩)]
  simp only [c_i2l, ha, hq, show ((0 : Int64)).toInt = 0 from by decide]
  omega
theorem own_sumn2 (c : Int32) (hc : 0 ≤ c.toInt) : (lcmpW ((((((((((c / (2 : Int32)) + (c % (2 : Int32))).toInt64) + ((c / (2 : Int32)).toInt64)) + (0 : Int64)) + (0 : Int64)) + (0 : Int64)) + (0 : Int64)) + (0 : Int64)) + (0 : Int64)) (c.toInt64)) = (0 : Int32) := by
  have hq := (c_idiv c (2 : Int32) 2 (by decide) (by decide)).1 hc
  have hr := (c_irem c (2 : Int32) 2 (by decide)).1 hc
  have hb := rng32 c
  have ha : ((c / (2 : Int32)) + (c % (2 : Int32))).toInt = c.toInt / 2 + c.toInt % 2 := by
    have h1 := c_iadd (c / (2 : Int32)) (c % (2 : Int32))
    have h2 := rng32 ((c / (2 : Int32)) + (c % (2 : Int32)))
    omega
  rw [lw_eq]
  apply Int64.toInt_inj.mp
  rw [own_sum8 (⟨by rw [c_i2l, ha]; omega, by rw [c_i2l, ha]; omega⟩) (⟨by rw [c_i2l, hq]; omega, by rw [c_i2l, hq]; omega⟩) (⟨by decide, by decide⟩) (⟨by decide, by decide⟩) (⟨by decide, by decide⟩) (⟨by decide, by decide⟩) (⟨by decide, by decide⟩) (⟨by decide, by decide⟩)]
  simp only [c_i2l, ha, hq, show ((0 : Int64)).toInt = 0 from by decide]
  omega
theorem own_sumn3 (c : Int32) (hc : 0 ≤ c.toInt) : (lcmpW ((((((((((c / (3 : Int32)) + (c % (3 : Int32))).toInt64) + ((c / (3 : Int32)).toInt64)) + ((c / (3 : Int32)).toInt64)) + (0 : Int64)) + (0 : Int64)) + (0 : Int64)) + (0 : Int64)) + (0 : Int64)) (c.toInt64)) = (0 : Int32) := by
  have hq := (c_idiv c (3 : Int32) 3 (by decide) (by decide)).1 hc
  have hr := (c_irem c (3 : Int32) 3 (by decide)).1 hc
  have hb := rng32 c
  have ha : ((c / (3 : Int32)) + (c % (3 : Int32))).toInt = c.toInt / 3 + c.toInt % 3 := by
    have h1 := c_iadd (c / (3 : Int32)) (c % (3 : Int32))
    have h2 := rng32 ((c / (3 : Int32)) + (c % (3 : Int32)))
    omega
  rw [lw_eq]
  apply Int64.toInt_inj.mp
  rw [own_sum8 (⟨by rw [c_i2l, ha]; omega, by rw [c_i2l, ha]; omega⟩) (⟨by rw [c_i2l, hq]; omega, by rw [c_i2l, hq]; omega⟩) (⟨by rw [c_i2l, hq]; omega, by rw [c_i2l, hq]; omega⟩) (⟨by decide, by decide⟩) (⟨by decide, by decide⟩) (⟨by decide, by decide⟩) (⟨by decide, by decide⟩) (⟨by decide, by decide⟩)]
  simp only [c_i2l, ha, hq, show ((0 : Int64)).toInt = 0 from by decide]
  omega
theorem own_sumn4 (c : Int32) (hc : 0 ≤ c.toInt) : (lcmpW ((((((((((c / (4 : Int32)) + (c % (4 : Int32))).toInt64) + ((c / (4 : Int32)).toInt64)) + ((c / (4 : Int32)).toInt64)) + ((c / (4 : Int32)).toInt64)) + (0 : Int64)) + (0 : Int64)) + (0 : Int64)) + (0 : Int64)) (c.toInt64)) = (0 : Int32) := by
  have hq := (c_idiv c (4 : Int32) 4 (by decide) (by decide)).1 hc
  have hr := (c_irem c (4 : Int32) 4 (by decide)).1 hc
  have hb := rng32 c
  have ha : ((c / (4 : Int32)) + (c % (4 : Int32))).toInt = c.toInt / 4 + c.toInt % 4 := by
    have h1 := c_iadd (c / (4 : Int32)) (c % (4 : Int32))
    have h2 := rng32 ((c / (4 : Int32)) + (c % (4 : Int32)))
    omega
  rw [lw_eq]
  apply Int64.toInt_inj.mp
  rw [own_sum8 (⟨by rw [c_i2l, ha]; omega, by rw [c_i2l, ha]; omega⟩) (⟨by rw [c_i2l, hq]; omega, by rw [c_i2l, hq]; omega⟩) (⟨by rw [c_i2l, hq]; omega, by rw [c_i2l, hq]; omega⟩) (⟨by rw [c_i2l, hq]; omega, by rw [c_i2l, hq]; omega⟩) (⟨by decide, by decide⟩) (⟨by decide, by decide⟩) (⟨by decide, by decide⟩) (⟨by decide, by decide⟩)]
  simp only [c_i2l, ha, hq, show ((0 : Int64)).toInt = 0 from by decide]
  omega
theorem own_sumn5 (c : Int32) (hc : 0 ≤ c.toInt) : (lcmpW ((((((((((c / (5 : Int32)) + (c % (5 : Int32))).toInt64) + ((c / (5 : Int32)).toInt64)) + ((c / (5 : Int32)).toInt64)) + ((c / (5 : Int32)).toInt64)) + ((c / (5 : Int32)).toInt64)) + (0 : Int64)) + (0 : Int64)) + (0 : Int64)) (c.toInt64)) = (0 : Int32) := by
  have hq := (c_idiv c (5 : Int32) 5 (by decide) (by decide)).1 hc
  have hr := (c_irem c (5 : Int32) 5 (by decide)).1 hc
  have hb := rng32 c
  have ha : ((c / (5 : Int32)) + (c % (5 : Int32))).toInt = c.toInt / 5 + c.toInt % 5 := by
    have h1 := c_iadd (c / (5 : Int32)) (c % (5 : Int32))
    have h2 := rng32 ((c / (5 : Int32)) + (c % (5 : Int32)))
    omega
  rw [lw_eq]
  apply Int64.toInt_inj.mp
  rw [own_sum8 (⟨by rw [c_i2l, ha]; omega, by rw [c_i2l, ha]; omega⟩) (⟨by rw [c_i2l, hq]; omega, by rw [c_i2l, hq]; omega⟩) (⟨by rw [c_i2l, hq]; omega, by rw [c_i2l, hq]; omega⟩) (⟨by rw [c_i2l, hq]; omega, by rw [c_i2l, hq]; omega⟩) (⟨by rw [c_i2l, hq]; omega, by rw [c_i2l, hq]; omega⟩) (⟨by decide, by decide⟩) (⟨by decide, by decide⟩) (⟨by decide, by decide⟩)]
  simp only [c_i2l, ha, hq, show ((0 : Int64)).toInt = 0 from by decide]
  omega
theorem own_sumn6 (c : Int32) (hc : 0 ≤ c.toInt) : (lcmpW ((((((((((c / (6 : Int32)) + (c % (6 : Int32))).toInt64) + ((c / (6 : Int32)).toInt64)) + ((c / (6 : Int32)).toInt64)) + ((c / (6 : Int32)).toInt64)) + ((c / (6 : Int32)).toInt64)) + ((c / (6 : Int32)).toInt64)) + (0 : Int64)) + (0 : Int64)) (c.toInt64)) = (0 : Int32) := by
  have hq := (c_idiv c (6 : Int32) 6 (by decide) (by decide)).1 hc
  have hr := (c_irem c (6 : Int32) 6 (by decide)).1 hc
  have hb := rng32 c
  have ha : ((c / (6 : Int32)) + (c % (6 : Int32))).toInt = c.toInt / 6 + c.toInt % 6 := by
    have h1 := c_iadd (c / (6 : Int32)) (c % (6 : Int32))
    have h2 := rng32 ((c / (6 : Int32)) + (c % (6 : Int32)))
    omega
  rw [lw_eq]
  apply Int64.toInt_inj.mp
  rw [own_sum8 (⟨by rw [c_i2l, ha]; omega, by rw [c_i2l, ha]; omega⟩) (⟨by rw [c_i2l, hq]; omega, by rw [c_i2l, hq]; omega⟩) (⟨by rw [c_i2l, hq]; omega, by rw [c_i2l, hq]; omega⟩) (⟨by rw [c_i2l, hq]; omega, by rw [c_i2l, hq]; omega⟩) (⟨by rw [c_i2l, hq]; omega, by rw [c_i2l, hq]; omega⟩) (⟨by rw [c_i2l, hq]; omega, by rw [c_i2l, hq]; omega⟩) (⟨by decide, by decide⟩) (⟨by decide, by decide⟩)]
  simp only [c_i2l, ha, hq, show ((0 : Int64)).toInt = 0 from by decide]
  omega
theorem own_sumn7 (c : Int32) (hc : 0 ≤ c.toInt) : (lcmpW ((((((((((c / (7 : Int32)) + (c % (7 : Int32))).toInt64) + ((c / (7 : Int32)).toInt64)) + ((c / (7 : Int32)).toInt64)) + ((c / (7 : Int32)).toInt64)) + ((c / (7 : Int32)).toInt64)) + ((c / (7 : Int32)).toInt64)) + ((c / (7 : Int32)).toInt64)) + (0 : Int64)) (c.toInt64)) = (0 : Int32) := by
  have hq := (c_idiv c (7 : Int32) 7 (by decide) (by decide)).1 hc
  have hr := (c_irem c (7 : Int32) 7 (by decide)).1 hc
  have hb := rng32 c
  have ha : ((c / (7 : Int32)) + (c % (7 : Int32))).toInt = c.toInt / 7 + c.toInt % 7 := by
    have h1 := c_iadd (c / (7 : Int32)) (c % (7 : Int32))
    have h2 := rng32 ((c / (7 : Int32)) + (c % (7 : Int32)))
    omega
  rw [lw_eq]
  apply Int64.toInt_inj.mp
  rw [own_sum8 (⟨by rw [c_i2l, ha]; omega, by rw [c_i2l, ha]; omega⟩) (⟨by rw [c_i2l, hq]; omega, by rw [c_i2l, hq]; omega⟩) (⟨by rw [c_i2l, hq]; omega, by rw [c_i2l, hq]; omega⟩) (⟨by rw [c_i2l, hq]; omega, by rw [c_i2l, hq]; omega⟩) (⟨by rw [c_i2l, hq]; omega, by rw [c_i2l, hq]; omega⟩) (⟨by rw [c_i2l, hq]; omega, by rw [c_i2l, hq]; omega⟩) (⟨by rw [c_i2l, hq]; omega, by rw [c_i2l, hq]; omega⟩) (⟨by decide, by decide⟩)]
  simp only [c_i2l, ha, hq, show ((0 : Int64)).toInt = 0 from by decide]
  omega
theorem own_sumn8 (c : Int32) (hc : 0 ≤ c.toInt) : (lcmpW ((((((((((c / (8 : Int32)) + (c % (8 : Int32))).toInt64) + ((c / (8 : Int32)).toInt64)) + ((c / (8 : Int32)).toInt64)) + ((c / (8 : Int32)).toInt64)) + ((c / (8 : Int32)).toInt64)) + ((c / (8 : Int32)).toInt64)) + ((c / (8 : Int32)).toInt64)) + ((c / (8 : Int32)).toInt64)) (c.toInt64)) = (0 : Int32) := by
  have hq := (c_idiv c (8 : Int32) 8 (by decide) (by decide)).1 hc
  have hr := (c_irem c (8 : Int32) 8 (by decide)).1 hc
  have hb := rng32 c
  have ha : ((c / (8 : Int32)) + (c % (8 : Int32))).toInt = c.toInt / 8 + c.toInt % 8 := by
    have h1 := c_iadd (c / (8 : Int32)) (c % (8 : Int32))
    have h2 := rng32 ((c / (8 : Int32)) + (c % (8 : Int32)))
    omega
  rw [lw_eq]
  apply Int64.toInt_inj.mp
  rw [own_sum8 (⟨by rw [c_i2l, ha]; omega, by rw [c_i2l, ha]; omega⟩) (⟨by rw [c_i2l, hq]; omega, by rw [c_i2l, hq]; omega⟩) (⟨by rw [c_i2l, hq]; omega, by rw [c_i2l, hq]; omega⟩) (⟨by rw [c_i2l, hq]; omega, by rw [c_i2l, hq]; omega⟩) (⟨by rw [c_i2l, hq]; omega, by rw [c_i2l, hq]; omega⟩) (⟨by rw [c_i2l, hq]; omega, by rw [c_i2l, hq]; omega⟩) (⟨by rw [c_i2l, hq]; omega, by rw [c_i2l, hq]; omega⟩) (⟨by rw [c_i2l, hq]; omega, by rw [c_i2l, hq]; omega⟩)]
  simp only [c_i2l, ha, hq, show ((0 : Int64)).toInt = 0 from by decide]
  omega
set_option maxRecDepth 65536 in
set_option maxHeartbeats 40000000 in
theorem comes_1 {Post : Tables → Env → Array Value → State → Outcome → State → Prop} (hpost : ∀ tb e args s v u, (limb_1_1.after args s (.returned v) u = true ∧ limb_1_2.after args s (.returned v) u = true ∧ True) → FrameEnd s (.returned v) u (Jvm.fieldLocs frame_1_writes args s ++ Jvm.arrayLocs frame_1_arrays args s ++ Jvm.staticLocs frame_1_statics s) 24 128 → Post tb e args s (.returned v) u) :
    ArmFor flags0 classFile x code maxLocals ret World_1 tables_1 room_1 Calls_1 rest_1 Pre_1 Post := by
  intro l hfl _ _ p e ha hc hk s m args below hf hA hF happ hP
  obtain ⟨hcalls, hrest, hpre⟩ := hP
  obtain ⟨-, -, -, hnamed, -, -, -, hat⟩ := (Spec.applies_iff hf).mp happ
  obtain ⟨hg, hn⟩ := and_e (Cond.before_iff.mp (show (Jvm.Cond.and given_1 narrow_1).before args s = true from hpre))
  obtain ⟨w1, w2⟩ := and_e hg
  obtain ⟨w3, w4⟩ := and_e w2
  obtain ⟨v0, v1, rfl⟩ : ∃ v0 v1 : Value, args = #[v0, v1] := by
    have hs : args.size = 2 := by simpa [Cond.value, given_1] using w1
    obtain ⟨L⟩ := args
    match L, hs with
    | [v0, v1], _ => exact ⟨v0, v1, rfl⟩
  have hw := fun d (hd : d ∈ tables_1) => atoms_spec (ws := Jvm.Cond.code x code maxLocals ret :: tables_1) hat d (List.mem_cons_of_mem _ hd)
  have hfit : Fit s := fun {y c} hc i hi => by
    obtain ⟨ha, rfl⟩ := Array.getElem?_eq_some_iff.mp hc
    have q := List.all_eq_true.mp ((Array.all_eq_true_iff_forall_mem.mp hF) _ (Array.getElem_mem ha)) i (List.mem_range.mpr hi)
    simpa [Array.getElem?_eq_getElem hi] using q
  obtain ⟨hsets, hown0⟩ := atoms_of _ (rest_1_c_eq ▸ (show rest_1_c.before _ s = true from hrest))
  obtain ⟨i0, ei0⟩ := is_v w3
  obtain rfl : v0 = (.int i0) := Option.some.inj ei0
  obtain ⟨i1, ei1⟩ := is_v w4
  obtain rfl : v1 = (.int i1) := Option.some.inj ei1
  have ev5 := Cond.eq_int (Cond.before_iff.mpr (Cond.before_iff.mp (hsets _ (List.mem_of_getElem? (i := 3) rfl)))) rfl
  have S6 : Sta s s.heap "java/lang/Integer$IntegerCache" "high" "I" (.int 127) := Sta.start ev5 (Or.inr ⟨(ow hw 12 rfl), hsets _ (List.mem_of_getElem? (i := 0) rfl)⟩)
  obtain ⟨bR7, ev8⟩ := exa_v (Cond.before_iff.mp (hsets _ (List.mem_of_getElem? (i := 10) rfl)))
  have S9 : Sta s s.heap "java/util/ImmutableCollections" "EMPTY" "Ljava/lang/Object;" (.ref bR7) := Sta.start ev8 (Or.inr ⟨(ow hw 32 rfl), hsets _ (List.mem_of_getElem? (i := 8) rfl)⟩)
  have E10 : Exa s s.heap bR7 "java/lang/Object" := Exa.start ev8 (Cond.before_iff.mp (hsets _ (List.mem_of_getElem? (i := 10) rfl)))
  have ev11 := Cond.eq_int (Cond.before_iff.mpr (Cond.before_iff.mp (hsets _ (List.mem_of_getElem? (i := 13) rfl)))) rfl
  have S12 : Sta s s.heap "java/util/ImmutableCollections" "$assertionsDisabled" "Z" (.int 1) := Sta.start ev11 (Or.inr ⟨(ow hw 32 rfl), hsets _ (List.mem_of_getElem? (i := 11) rfl)⟩)
  obtain ⟨bR13, ev14⟩ := exa_v (Cond.before_iff.mp (hsets _ (List.mem_of_getElem? (i := 16) rfl)))
  have S15 : Sta s s.heap "java/util/ImmutableCollections" "EMPTY_LIST" "Ljava/util/ImmutableCollections$ListN;" (.ref bR13) := Sta.start ev14 (Or.inr ⟨(ow hw 32 rfl), hsets _ (List.mem_of_getElem? (i := 14) rfl)⟩)
  have E16 : Exa s s.heap bR13 "java/util/ImmutableCollections$ListN" := Exa.start ev14 (Cond.before_iff.mp (hsets _ (List.mem_of_getElem? (i := 16) rfl)))
  obtain ⟨bR91, c91, ev91, B91⟩ := own_cache (hsets _ (List.mem_of_getElem? (i := 4) rfl)) (hsets _ (List.mem_of_getElem? (i := 6) rfl)) (hsets _ (List.mem_of_getElem? (i := 7) rfl))
  have S17 : Sta s s.heap "java/lang/Integer$IntegerCache" "cache" "[Ljava/lang/Integer;" (.ref bR91) := Sta.start ev91 (Or.inr ⟨(ow hw 12 rfl), hsets _ (List.mem_of_getElem? (i := 2) rfl)⟩)
  obtain ⟨hc0, -⟩ := own_mask i0 (2147483647 : Int32) 31 (by decide) (by decide)
  obtain ⟨hm0, hm1⟩ := own_mask i1 (7 : Int32) 3 (by decide) (by decide)
  rcases own_in8 hm0 hm1 with hcs | hcs | hcs | hcs | hcs | hcs | hcs | hcs
  · obtain ⟨n, o, h1, h2, h3, _, L, rfl, ⟨rfl, N⟩, hq⟩ := law1 l s _ hw tables_1 i0 i1 (i0 &&& (2147483647 : Int32)) bR91 c91 bR7 (((((i0 &&& (2147483647 : Int32)) / (1 : Int32)) + ((i0 &&& (2147483647 : Int32)) % (1 : Int32))).toInt64) + (0 : Int64)) ((((((i0 &&& (2147483647 : Int32)) / (1 : Int32)) + ((i0 &&& (2147483647 : Int32)) % (1 : Int32))).toInt64) + (0 : Int64)) + (0 : Int64)) (((((((i0 &&& (2147483647 : Int32)) / (1 : Int32)) + ((i0 &&& (2147483647 : Int32)) % (1 : Int32))).toInt64) + (0 : Int64)) + (0 : Int64)) + (0 : Int64)) ((((((((i0 &&& (2147483647 : Int32)) / (1 : Int32)) + ((i0 &&& (2147483647 : Int32)) % (1 : Int32))).toInt64) + (0 : Int64)) + (0 : Int64)) + (0 : Int64)) + (0 : Int64)) (((((((((i0 &&& (2147483647 : Int32)) / (1 : Int32)) + ((i0 &&& (2147483647 : Int32)) % (1 : Int32))).toInt64) + (0 : Int64)) + (0 : Int64)) + (0 : Int64)) + (0 : Int64)) + (0 : Int64)) ((((((((((i0 &&& (2147483647 : Int32)) / (1 : Int32)) + ((i0 &&& (2147483647 : Int32)) % (1 : Int32))).toInt64) + (0 : Int64)) + (0 : Int64)) + (0 : Int64)) + (0 : Int64)) + (0 : Int64)) + (0 : Int64)) (((((((((((i0 &&& (2147483647 : Int32)) / (1 : Int32)) + ((i0 &&& (2147483647 : Int32)) % (1 : Int32))).toInt64) + (0 : Int64)) + (0 : Int64)) + (0 : Int64)) + (0 : Int64)) + (0 : Int64)) + (0 : Int64)) + (0 : Int64)) s.heap s.heap.size (Nat.le_refl _) S6 S17 B91 (Old.start s) S9 rfl hcs rfl rfl rfl rfl rfl rfl rfl (own_sumn1 _ hc0) p e ha hc hk s m _ below hf ((Spec.applies_iff_loose hf).mp happ).1 ⟨rfl, State.Warmed39.refl s, rfl⟩ trivial
    exact ⟨n, _, h1, h2, h3, hpost _ _ _ _ _ _ ⟨Cond.after_iff.mpr rfl, Cond.after_iff.mpr (eq_i res_at (Term.int_eval (1)) rfl), trivial⟩ ⟨hq.1, hq.2.1, (hq.2.2.sift fun y hy => Or.inr (N y hy)).mono (by decide) (by decide)⟩⟩
  · obtain ⟨n, o, h1, h2, h3, _, L, rfl, ⟨rfl, N⟩, hq⟩ := law2 l s _ hw tables_1 i0 i1 (i0 &&& (2147483647 : Int32)) bR91 c91 bR7 (((((i0 &&& (2147483647 : Int32)) / (2 : Int32)) + ((i0 &&& (2147483647 : Int32)) % (2 : Int32))).toInt64) + (((i0 &&& (2147483647 : Int32)) / (2 : Int32)).toInt64)) ((((((i0 &&& (2147483647 : Int32)) / (2 : Int32)) + ((i0 &&& (2147483647 : Int32)) % (2 : Int32))).toInt64) + (((i0 &&& (2147483647 : Int32)) / (2 : Int32)).toInt64)) + (0 : Int64)) (((((((i0 &&& (2147483647 : Int32)) / (2 : Int32)) + ((i0 &&& (2147483647 : Int32)) % (2 : Int32))).toInt64) + (((i0 &&& (2147483647 : Int32)) / (2 : Int32)).toInt64)) + (0 : Int64)) + (0 : Int64)) ((((((((i0 &&& (2147483647 : Int32)) / (2 : Int32)) + ((i0 &&& (2147483647 : Int32)) % (2 : Int32))).toInt64) + (((i0 &&& (2147483647 : Int32)) / (2 : Int32)).toInt64)) + (0 : Int64)) + (0 : Int64)) + (0 : Int64)) (((((((((i0 &&& (2147483647 : Int32)) / (2 : Int32)) + ((i0 &&& (2147483647 : Int32)) % (2 : Int32))).toInt64) + (((i0 &&& (2147483647 : Int32)) / (2 : Int32)).toInt64)) + (0 : Int64)) + (0 : Int64)) + (0 : Int64)) + (0 : Int64)) ((((((((((i0 &&& (2147483647 : Int32)) / (2 : Int32)) + ((i0 &&& (2147483647 : Int32)) % (2 : Int32))).toInt64) + (((i0 &&& (2147483647 : Int32)) / (2 : Int32)).toInt64)) + (0 : Int64)) + (0 : Int64)) + (0 : Int64)) + (0 : Int64)) + (0 : Int64)) (((((((((((i0 &&& (2147483647 : Int32)) / (2 : Int32)) + ((i0 &&& (2147483647 : Int32)) % (2 : Int32))).toInt64) + (((i0 &&& (2147483647 : Int32)) / (2 : Int32)).toInt64)) + (0 : Int64)) + (0 : Int64)) + (0 : Int64)) + (0 : Int64)) + (0 : Int64)) + (0 : Int64)) s.heap s.heap.size (Nat.le_refl _) S6 S17 B91 (Old.start s) S9 E10 rfl hcs rfl rfl rfl rfl rfl rfl rfl (own_sumn2 _ hc0) (own_le _ (2 : Int32) 2 (by decide) (by decide) (by decide) hc0) (own_lt _ (2 : Int32) 2 (by decide) (by decide) (by decide) (by decide) hc0) p e ha hc hk s m _ below hf ((Spec.applies_iff_loose hf).mp happ).1 ⟨rfl, State.Warmed39.refl s, rfl⟩ trivial
    exact ⟨n, _, h1, h2, h3, hpost _ _ _ _ _ _ ⟨Cond.after_iff.mpr rfl, Cond.after_iff.mpr (eq_i res_at (Term.int_eval (1)) rfl), trivial⟩ ⟨hq.1, hq.2.1, (hq.2.2.sift fun y hy => Or.inr (N y hy)).mono (by decide) (by decide)⟩⟩
  · obtain ⟨n, o, h1, h2, h3, _, L, rfl, ⟨rfl, N⟩, hq⟩ := law3 l s _ hw tables_1 i0 i1 (i0 &&& (2147483647 : Int32)) bR91 c91 (((((i0 &&& (2147483647 : Int32)) / (3 : Int32)) + ((i0 &&& (2147483647 : Int32)) % (3 : Int32))).toInt64) + (((i0 &&& (2147483647 : Int32)) / (3 : Int32)).toInt64)) ((((((i0 &&& (2147483647 : Int32)) / (3 : Int32)) + ((i0 &&& (2147483647 : Int32)) % (3 : Int32))).toInt64) + (((i0 &&& (2147483647 : Int32)) / (3 : Int32)).toInt64)) + (((i0 &&& (2147483647 : Int32)) / (3 : Int32)).toInt64)) (((((((i0 &&& (2147483647 : Int32)) / (3 : Int32)) + ((i0 &&& (2147483647 : Int32)) % (3 : Int32))).toInt64) + (((i0 &&& (2147483647 : Int32)) / (3 : Int32)).toInt64)) + (((i0 &&& (2147483647 : Int32)) / (3 : Int32)).toInt64)) + (0 : Int64)) ((((((((i0 &&& (2147483647 : Int32)) / (3 : Int32)) + ((i0 &&& (2147483647 : Int32)) % (3 : Int32))).toInt64) + (((i0 &&& (2147483647 : Int32)) / (3 : Int32)).toInt64)) + (((i0 &&& (2147483647 : Int32)) / (3 : Int32)).toInt64)) + (0 : Int64)) + (0 : Int64)) (((((((((i0 &&& (2147483647 : Int32)) / (3 : Int32)) + ((i0 &&& (2147483647 : Int32)) % (3 : Int32))).toInt64) + (((i0 &&& (2147483647 : Int32)) / (3 : Int32)).toInt64)) + (((i0 &&& (2147483647 : Int32)) / (3 : Int32)).toInt64)) + (0 : Int64)) + (0 : Int64)) + (0 : Int64)) ((((((((((i0 &&& (2147483647 : Int32)) / (3 : Int32)) + ((i0 &&& (2147483647 : Int32)) % (3 : Int32))).toInt64) + (((i0 &&& (2147483647 : Int32)) / (3 : Int32)).toInt64)) + (((i0 &&& (2147483647 : Int32)) / (3 : Int32)).toInt64)) + (0 : Int64)) + (0 : Int64)) + (0 : Int64)) + (0 : Int64)) (((((((((((i0 &&& (2147483647 : Int32)) / (3 : Int32)) + ((i0 &&& (2147483647 : Int32)) % (3 : Int32))).toInt64) + (((i0 &&& (2147483647 : Int32)) / (3 : Int32)).toInt64)) + (((i0 &&& (2147483647 : Int32)) / (3 : Int32)).toInt64)) + (0 : Int64)) + (0 : Int64)) + (0 : Int64)) + (0 : Int64)) + (0 : Int64)) s.heap s.heap.size (Nat.le_refl _) S6 S17 B91 (Old.start s) rfl hcs rfl rfl rfl rfl rfl rfl rfl (own_sumn3 _ hc0) (own_le _ (3 : Int32) 3 (by decide) (by decide) (by decide) hc0) (own_lt _ (3 : Int32) 3 (by decide) (by decide) (by decide) (by decide) hc0) p e ha hc hk s m _ below hf ((Spec.applies_iff_loose hf).mp happ).1 ⟨rfl, State.Warmed39.refl s, rfl⟩ trivial
    exact ⟨n, _, h1, h2, h3, hpost _ _ _ _ _ _ ⟨Cond.after_iff.mpr rfl, Cond.after_iff.mpr (eq_i res_at (Term.int_eval (1)) rfl), trivial⟩ ⟨hq.1, hq.2.1, (hq.2.2.sift fun y hy => Or.inr (N y hy)).mono (by decide) (by decide)⟩⟩
  · obtain ⟨n, o, h1, h2, h3, _, L, rfl, ⟨rfl, N⟩, hq⟩ := law4 l s _ hw tables_1 i0 i1 (i0 &&& (2147483647 : Int32)) bR91 c91 (((((i0 &&& (2147483647 : Int32)) / (4 : Int32)) + ((i0 &&& (2147483647 : Int32)) % (4 : Int32))).toInt64) + (((i0 &&& (2147483647 : Int32)) / (4 : Int32)).toInt64)) ((((((i0 &&& (2147483647 : Int32)) / (4 : Int32)) + ((i0 &&& (2147483647 : Int32)) % (4 : Int32))).toInt64) + (((i0 &&& (2147483647 : Int32)) / (4 : Int32)).toInt64)) + (((i0 &&& (2147483647 : Int32)) / (4 : Int32)).toInt64)) (((((((i0 &&& (2147483647 : Int32)) / (4 : Int32)) + ((i0 &&& (2147483647 : Int32)) % (4 : Int32))).toInt64) + (((i0 &&& (2147483647 : Int32)) / (4 : Int32)).toInt64)) + (((i0 &&& (2147483647 : Int32)) / (4 : Int32)).toInt64)) + (((i0 &&& (2147483647 : Int32)) / (4 : Int32)).toInt64)) ((((((((i0 &&& (2147483647 : Int32)) / (4 : Int32)) + ((i0 &&& (2147483647 : Int32)) % (4 : Int32))).toInt64) + (((i0 &&& (2147483647 : Int32)) / (4 : Int32)).toInt64)) + (((i0 &&& (2147483647 : Int32)) / (4 : Int32)).toInt64)) + (((i0 &&& (2147483647 : Int32)) / (4 : Int32)).toInt64)) + (0 : Int64)) (((((((((i0 &&& (2147483647 : Int32)) / (4 : Int32)) + ((i0 &&& (2147483647 : Int32)) % (4 : Int32))).toInt64) + (((i0 &&& (2147483647 : Int32)) / (4 : Int32)).toInt64)) + (((i0 &&& (2147483647 : Int32)) / (4 : Int32)).toInt64)) + (((i0 &&& (2147483647 : Int32)) / (4 : Int32)).toInt64)) + (0 : Int64)) + (0 : Int64)) ((((((((((i0 &&& (2147483647 : Int32)) / (4 : Int32)) + ((i0 &&& (2147483647 : Int32)) % (4 : Int32))).toInt64) + (((i0 &&& (2147483647 : Int32)) / (4 : Int32)).toInt64)) + (((i0 &&& (2147483647 : Int32)) / (4 : Int32)).toInt64)) + (((i0 &&& (2147483647 : Int32)) / (4 : Int32)).toInt64)) + (0 : Int64)) + (0 : Int64)) + (0 : Int64)) (((((((((((i0 &&& (2147483647 : Int32)) / (4 : Int32)) + ((i0 &&& (2147483647 : Int32)) % (4 : Int32))).toInt64) + (((i0 &&& (2147483647 : Int32)) / (4 : Int32)).toInt64)) + (((i0 &&& (2147483647 : Int32)) / (4 : Int32)).toInt64)) + (((i0 &&& (2147483647 : Int32)) / (4 : Int32)).toInt64)) + (0 : Int64)) + (0 : Int64)) + (0 : Int64)) + (0 : Int64)) s.heap s.heap.size (Nat.le_refl _) S6 S17 B91 (Old.start s) rfl hcs rfl rfl rfl rfl rfl rfl rfl (own_sumn4 _ hc0) (own_le _ (4 : Int32) 4 (by decide) (by decide) (by decide) hc0) (own_lt _ (4 : Int32) 4 (by decide) (by decide) (by decide) (by decide) hc0) p e ha hc hk s m _ below hf ((Spec.applies_iff_loose hf).mp happ).1 ⟨rfl, State.Warmed39.refl s, rfl⟩ trivial
    exact ⟨n, _, h1, h2, h3, hpost _ _ _ _ _ _ ⟨Cond.after_iff.mpr rfl, Cond.after_iff.mpr (eq_i res_at (Term.int_eval (1)) rfl), trivial⟩ ⟨hq.1, hq.2.1, (hq.2.2.sift fun y hy => Or.inr (N y hy)).mono (by decide) (by decide)⟩⟩
  · obtain ⟨n, o, h1, h2, h3, _, L, rfl, ⟨rfl, N⟩, hq⟩ := law5 l s _ hw tables_1 i0 i1 (i0 &&& (2147483647 : Int32)) bR91 c91 (((((i0 &&& (2147483647 : Int32)) / (5 : Int32)) + ((i0 &&& (2147483647 : Int32)) % (5 : Int32))).toInt64) + (((i0 &&& (2147483647 : Int32)) / (5 : Int32)).toInt64)) ((((((i0 &&& (2147483647 : Int32)) / (5 : Int32)) + ((i0 &&& (2147483647 : Int32)) % (5 : Int32))).toInt64) + (((i0 &&& (2147483647 : Int32)) / (5 : Int32)).toInt64)) + (((i0 &&& (2147483647 : Int32)) / (5 : Int32)).toInt64)) (((((((i0 &&& (2147483647 : Int32)) / (5 : Int32)) + ((i0 &&& (2147483647 : Int32)) % (5 : Int32))).toInt64) + (((i0 &&& (2147483647 : Int32)) / (5 : Int32)).toInt64)) + (((i0 &&& (2147483647 : Int32)) / (5 : Int32)).toInt64)) + (((i0 &&& (2147483647 : Int32)) / (5 : Int32)).toInt64)) ((((((((i0 &&& (2147483647 : Int32)) / (5 : Int32)) + ((i0 &&& (2147483647 : Int32)) % (5 : Int32))).toInt64) + (((i0 &&& (2147483647 : Int32)) / (5 : Int32)).toInt64)) + (((i0 &&& (2147483647 : Int32)) / (5 : Int32)).toInt64)) + (((i0 &&& (2147483647 : Int32)) / (5 : Int32)).toInt64)) + (((i0 &&& (2147483647 : Int32)) / (5 : Int32)).toInt64)) (((((((((i0 &&& (2147483647 : Int32)) / (5 : Int32)) + ((i0 &&& (2147483647 : Int32)) % (5 : Int32))).toInt64) + (((i0 &&& (2147483647 : Int32)) / (5 : Int32)).toInt64)) + (((i0 &&& (2147483647 : Int32)) / (5 : Int32)).toInt64)) + (((i0 &&& (2147483647 : Int32)) / (5 : Int32)).toInt64)) + (((i0 &&& (2147483647 : Int32)) / (5 : Int32)).toInt64)) + (0 : Int64)) ((((((((((i0 &&& (2147483647 : Int32)) / (5 : Int32)) + ((i0 &&& (2147483647 : Int32)) % (5 : Int32))).toInt64) + (((i0 &&& (2147483647 : Int32)) / (5 : Int32)).toInt64)) + (((i0 &&& (2147483647 : Int32)) / (5 : Int32)).toInt64)) + (((i0 &&& (2147483647 : Int32)) / (5 : Int32)).toInt64)) + (((i0 &&& (2147483647 : Int32)) / (5 : Int32)).toInt64)) + (0 : Int64)) + (0 : Int64)) (((((((((((i0 &&& (2147483647 : Int32)) / (5 : Int32)) + ((i0 &&& (2147483647 : Int32)) % (5 : Int32))).toInt64) + (((i0 &&& (2147483647 : Int32)) / (5 : Int32)).toInt64)) + (((i0 &&& (2147483647 : Int32)) / (5 : Int32)).toInt64)) + (((i0 &&& (2147483647 : Int32)) / (5 : Int32)).toInt64)) + (((i0 &&& (2147483647 : Int32)) / (5 : Int32)).toInt64)) + (0 : Int64)) + (0 : Int64)) + (0 : Int64)) s.heap s.heap.size (Nat.le_refl _) S6 S17 B91 (Old.start s) rfl hcs rfl rfl rfl rfl rfl rfl rfl (own_sumn5 _ hc0) (own_le _ (5 : Int32) 5 (by decide) (by decide) (by decide) hc0) (own_lt _ (5 : Int32) 5 (by decide) (by decide) (by decide) (by decide) hc0) p e ha hc hk s m _ below hf ((Spec.applies_iff_loose hf).mp happ).1 ⟨rfl, State.Warmed39.refl s, rfl⟩ trivial
    exact ⟨n, _, h1, h2, h3, hpost _ _ _ _ _ _ ⟨Cond.after_iff.mpr rfl, Cond.after_iff.mpr (eq_i res_at (Term.int_eval (1)) rfl), trivial⟩ ⟨hq.1, hq.2.1, (hq.2.2.sift fun y hy => Or.inr (N y hy)).mono (by decide) (by decide)⟩⟩
  · obtain ⟨n, o, h1, h2, h3, _, L, rfl, ⟨rfl, N⟩, hq⟩ := law6 l s _ hw tables_1 i0 i1 (i0 &&& (2147483647 : Int32)) bR91 c91 (((((i0 &&& (2147483647 : Int32)) / (6 : Int32)) + ((i0 &&& (2147483647 : Int32)) % (6 : Int32))).toInt64) + (((i0 &&& (2147483647 : Int32)) / (6 : Int32)).toInt64)) ((((((i0 &&& (2147483647 : Int32)) / (6 : Int32)) + ((i0 &&& (2147483647 : Int32)) % (6 : Int32))).toInt64) + (((i0 &&& (2147483647 : Int32)) / (6 : Int32)).toInt64)) + (((i0 &&& (2147483647 : Int32)) / (6 : Int32)).toInt64)) (((((((i0 &&& (2147483647 : Int32)) / (6 : Int32)) + ((i0 &&& (2147483647 : Int32)) % (6 : Int32))).toInt64) + (((i0 &&& (2147483647 : Int32)) / (6 : Int32)).toInt64)) + (((i0 &&& (2147483647 : Int32)) / (6 : Int32)).toInt64)) + (((i0 &&& (2147483647 : Int32)) / (6 : Int32)).toInt64)) ((((((((i0 &&& (2147483647 : Int32)) / (6 : Int32)) + ((i0 &&& (2147483647 : Int32)) % (6 : Int32))).toInt64) + (((i0 &&& (2147483647 : Int32)) / (6 : Int32)).toInt64)) + (((i0 &&& (2147483647 : Int32)) / (6 : Int32)).toInt64)) + (((i0 &&& (2147483647 : Int32)) / (6 : Int32)).toInt64)) + (((i0 &&& (2147483647 : Int32)) / (6 : Int32)).toInt64)) (((((((((i0 &&& (2147483647 : Int32)) / (6 : Int32)) + ((i0 &&& (2147483647 : Int32)) % (6 : Int32))).toInt64) + (((i0 &&& (2147483647 : Int32)) / (6 : Int32)).toInt64)) + (((i0 &&& (2147483647 : Int32)) / (6 : Int32)).toInt64)) + (((i0 &&& (2147483647 : Int32)) / (6 : Int32)).toInt64)) + (((i0 &&& (2147483647 : Int32)) / (6 : Int32)).toInt64)) + (((i0 &&& (2147483647 : Int32)) / (6 : Int32)).toInt64)) ((((((((((i0 &&& (2147483647 : Int32)) / (6 : Int32)) + ((i0 &&& (2147483647 : Int32)) % (6 : Int32))).toInt64) + (((i0 &&& (2147483647 : Int32)) / (6 : Int32)).toInt64)) + (((i0 &&& (2147483647 : Int32)) / (6 : Int32)).toInt64)) + (((i0 &&& (2147483647 : Int32)) / (6 : Int32)).toInt64)) + (((i0 &&& (2147483647 : Int32)) / (6 : Int32)).toInt64)) + (((i0 &&& (2147483647 : Int32)) / (6 : Int32)).toInt64)) + (0 : Int64)) (((((((((((i0 &&& (2147483647 : Int32)) / (6 : Int32)) + ((i0 &&& (2147483647 : Int32)) % (6 : Int32))).toInt64) + (((i0 &&& (2147483647 : Int32)) / (6 : Int32)).toInt64)) + (((i0 &&& (2147483647 : Int32)) / (6 : Int32)).toInt64)) + (((i0 &&& (2147483647 : Int32)) / (6 : Int32)).toInt64)) + (((i0 &&& (2147483647 : Int32)) / (6 : Int32)).toInt64)) + (((i0 &&& (2147483647 : Int32)) / (6 : Int32)).toInt64)) + (0 : Int64)) + (0 : Int64)) s.heap s.heap.size (Nat.le_refl _) S6 S17 B91 (Old.start s) rfl hcs rfl rfl rfl rfl rfl rfl rfl (own_sumn6 _ hc0) (own_le _ (6 : Int32) 6 (by decide) (by decide) (by decide) hc0) (own_lt _ (6 : Int32) 6 (by decide) (by decide) (by decide) (by decide) hc0) p e ha hc hk s m _ below hf ((Spec.applies_iff_loose hf).mp happ).1 ⟨rfl, State.Warmed39.refl s, rfl⟩ trivial
    exact ⟨n, _, h1, h2, h3, hpost _ _ _ _ _ _ ⟨Cond.after_iff.mpr rfl, Cond.after_iff.mpr (eq_i res_at (Term.int_eval (1)) rfl), trivial⟩ ⟨hq.1, hq.2.1, (hq.2.2.sift fun y hy => Or.inr (N y hy)).mono (by decide) (by decide)⟩⟩
  · obtain ⟨n, o, h1, h2, h3, _, L, rfl, ⟨rfl, N⟩, hq⟩ := law7 l s _ hw tables_1 i0 i1 (i0 &&& (2147483647 : Int32)) bR91 c91 (((((i0 &&& (2147483647 : Int32)) / (7 : Int32)) + ((i0 &&& (2147483647 : Int32)) % (7 : Int32))).toInt64) + (((i0 &&& (2147483647 : Int32)) / (7 : Int32)).toInt64)) ((((((i0 &&& (2147483647 : Int32)) / (7 : Int32)) + ((i0 &&& (2147483647 : Int32)) % (7 : Int32))).toInt64) + (((i0 &&& (2147483647 : Int32)) / (7 : Int32)).toInt64)) + (((i0 &&& (2147483647 : Int32)) / (7 : Int32)).toInt64)) (((((((i0 &&& (2147483647 : Int32)) / (7 : Int32)) + ((i0 &&& (2147483647 : Int32)) % (7 : Int32))).toInt64) + (((i0 &&& (2147483647 : Int32)) / (7 : Int32)).toInt64)) + (((i0 &&& (2147483647 : Int32)) / (7 : Int32)).toInt64)) + (((i0 &&& (2147483647 : Int32)) / (7 : Int32)).toInt64)) ((((((((i0 &&& (2147483647 : Int32)) / (7 : Int32)) + ((i0 &&& (2147483647 : Int32)) % (7 : Int32))).toInt64) + (((i0 &&& (2147483647 : Int32)) / (7 : Int32)).toInt64)) + (((i0 &&& (2147483647 : Int32)) / (7 : Int32)).toInt64)) + (((i0 &&& (2147483647 : Int32)) / (7 : Int32)).toInt64)) + (((i0 &&& (2147483647 : Int32)) / (7 : Int32)).toInt64)) (((((((((i0 &&& (2147483647 : Int32)) / (7 : Int32)) + ((i0 &&& (2147483647 : Int32)) % (7 : Int32))).toInt64) + (((i0 &&& (2147483647 : Int32)) / (7 : Int32)).toInt64)) + (((i0 &&& (2147483647 : Int32)) / (7 : Int32)).toInt64)) + (((i0 &&& (2147483647 : Int32)) / (7 : Int32)).toInt64)) + (((i0 &&& (2147483647 : Int32)) / (7 : Int32)).toInt64)) + (((i0 &&& (2147483647 : Int32)) / (7 : Int32)).toInt64)) ((((((((((i0 &&& (2147483647 : Int32)) / (7 : Int32)) + ((i0 &&& (2147483647 : Int32)) % (7 : Int32))).toInt64) + (((i0 &&& (2147483647 : Int32)) / (7 : Int32)).toInt64)) + (((i0 &&& (2147483647 : Int32)) / (7 : Int32)).toInt64)) + (((i0 &&& (2147483647 : Int32)) / (7 : Int32)).toInt64)) + (((i0 &&& (2147483647 : Int32)) / (7 : Int32)).toInt64)) + (((i0 &&& (2147483647 : Int32)) / (7 : Int32)).toInt64)) + (((i0 &&& (2147483647 : Int32)) / (7 : Int32)).toInt64)) (((((((((((i0 &&& (2147483647 : Int32)) / (7 : Int32)) + ((i0 &&& (2147483647 : Int32)) % (7 : Int32))).toInt64) + (((i0 &&& (2147483647 : Int32)) / (7 : Int32)).toInt64)) + (((i0 &&& (2147483647 : Int32)) / (7 : Int32)).toInt64)) + (((i0 &&& (2147483647 : Int32)) / (7 : Int32)).toInt64)) + (((i0 &&& (2147483647 : Int32)) / (7 : Int32)).toInt64)) + (((i0 &&& (2147483647 : Int32)) / (7 : Int32)).toInt64)) + (((i0 &&& (2147483647 : Int32)) / (7 : Int32)).toInt64)) + (0 : Int64)) s.heap s.heap.size (Nat.le_refl _) S6 S17 B91 (Old.start s) rfl hcs rfl rfl rfl rfl rfl rfl rfl (own_sumn7 _ hc0) (own_le _ (7 : Int32) 7 (by decide) (by decide) (by decide) hc0) (own_lt _ (7 : Int32) 7 (by decide) (by decide) (by decide) (by decide) hc0) p e ha hc hk s m _ below hf ((Spec.applies_iff_loose hf).mp happ).1 ⟨rfl, State.Warmed39.refl s, rfl⟩ trivial
    exact ⟨n, _, h1, h2, h3, hpost _ _ _ _ _ _ ⟨Cond.after_iff.mpr rfl, Cond.after_iff.mpr (eq_i res_at (Term.int_eval (1)) rfl), trivial⟩ ⟨hq.1, hq.2.1, (hq.2.2.sift fun y hy => Or.inr (N y hy)).mono (by decide) (by decide)⟩⟩
  · obtain ⟨n, o, h1, h2, h3, _, L, rfl, ⟨rfl, N⟩, hq⟩ := law8 l s _ hw tables_1 i0 i1 (i0 &&& (2147483647 : Int32)) bR91 c91 (((((i0 &&& (2147483647 : Int32)) / (8 : Int32)) + ((i0 &&& (2147483647 : Int32)) % (8 : Int32))).toInt64) + (((i0 &&& (2147483647 : Int32)) / (8 : Int32)).toInt64)) ((((((i0 &&& (2147483647 : Int32)) / (8 : Int32)) + ((i0 &&& (2147483647 : Int32)) % (8 : Int32))).toInt64) + (((i0 &&& (2147483647 : Int32)) / (8 : Int32)).toInt64)) + (((i0 &&& (2147483647 : Int32)) / (8 : Int32)).toInt64)) (((((((i0 &&& (2147483647 : Int32)) / (8 : Int32)) + ((i0 &&& (2147483647 : Int32)) % (8 : Int32))).toInt64) + (((i0 &&& (2147483647 : Int32)) / (8 : Int32)).toInt64)) + (((i0 &&& (2147483647 : Int32)) / (8 : Int32)).toInt64)) + (((i0 &&& (2147483647 : Int32)) / (8 : Int32)).toInt64)) ((((((((i0 &&& (2147483647 : Int32)) / (8 : Int32)) + ((i0 &&& (2147483647 : Int32)) % (8 : Int32))).toInt64) + (((i0 &&& (2147483647 : Int32)) / (8 : Int32)).toInt64)) + (((i0 &&& (2147483647 : Int32)) / (8 : Int32)).toInt64)) + (((i0 &&& (2147483647 : Int32)) / (8 : Int32)).toInt64)) + (((i0 &&& (2147483647 : Int32)) / (8 : Int32)).toInt64)) (((((((((i0 &&& (2147483647 : Int32)) / (8 : Int32)) + ((i0 &&& (2147483647 : Int32)) % (8 : Int32))).toInt64) + (((i0 &&& (2147483647 : Int32)) / (8 : Int32)).toInt64)) + (((i0 &&& (2147483647 : Int32)) / (8 : Int32)).toInt64)) + (((i0 &&& (2147483647 : Int32)) / (8 : Int32)).toInt64)) + (((i0 &&& (2147483647 : Int32)) / (8 : Int32)).toInt64)) + (((i0 &&& (2147483647 : Int32)) / (8 : Int32)).toInt64)) ((((((((((i0 &&& (2147483647 : Int32)) / (8 : Int32)) + ((i0 &&& (2147483647 : Int32)) % (8 : Int32))).toInt64) + (((i0 &&& (2147483647 : Int32)) / (8 : Int32)).toInt64)) + (((i0 &&& (2147483647 : Int32)) / (8 : Int32)).toInt64)) + (((i0 &&& (2147483647 : Int32)) / (8 : Int32)).toInt64)) + (((i0 &&& (2147483647 : Int32)) / (8 : Int32)).toInt64)) + (((i0 &&& (2147483647 : Int32)) / (8 : Int32)).toInt64)) + (((i0 &&& (2147483647 : Int32)) / (8 : Int32)).toInt64)) (((((((((((i0 &&& (2147483647 : Int32)) / (8 : Int32)) + ((i0 &&& (2147483647 : Int32)) % (8 : Int32))).toInt64) + (((i0 &&& (2147483647 : Int32)) / (8 : Int32)).toInt64)) + (((i0 &&& (2147483647 : Int32)) / (8 : Int32)).toInt64)) + (((i0 &&& (2147483647 : Int32)) / (8 : Int32)).toInt64)) + (((i0 &&& (2147483647 : Int32)) / (8 : Int32)).toInt64)) + (((i0 &&& (2147483647 : Int32)) / (8 : Int32)).toInt64)) + (((i0 &&& (2147483647 : Int32)) / (8 : Int32)).toInt64)) + (((i0 &&& (2147483647 : Int32)) / (8 : Int32)).toInt64)) s.heap s.heap.size (Nat.le_refl _) S6 S17 B91 (Old.start s) rfl hcs rfl rfl rfl rfl rfl rfl rfl (own_sumn8 _ hc0) (own_le _ (8 : Int32) 8 (by decide) (by decide) (by decide) hc0) (own_lt _ (8 : Int32) 8 (by decide) (by decide) (by decide) (by decide) hc0) p e ha hc hk s m _ below hf ((Spec.applies_iff_loose hf).mp happ).1 ⟨rfl, State.Warmed39.refl s, rfl⟩ trivial
    exact ⟨n, _, h1, h2, h3, hpost _ _ _ _ _ _ ⟨Cond.after_iff.mpr rfl, Cond.after_iff.mpr (eq_i res_at (Term.int_eval (1)) rfl), trivial⟩ ⟨hq.1, hq.2.1, (hq.2.2.sift fun y hy => Or.inr (N y hy)).mono (by decide) (by decide)⟩⟩
theorem main_1_1 : Claimed_1_1 := comes_1 fun _ _ _ _ _ _ h hF => ⟨h.1, hF⟩
theorem main_1_2 : Claimed_1_2 := comes_1 fun _ _ _ _ _ _ h hF => ⟨h.2.1, hF⟩
end Jvm.Pilot.@@N@@
namespace Jvm.Pilot.@@N@@
open Jvm Jvm.ClassFile Sem Op Lib Jvm.Free Jvm.Stand Jvm.Pilot.@@N@@.Jvm.D
/-! MADE BY PROGRAM (witnessworld.py) out of the Statement's table words and the real class files: 31 classes; the members and pool entries that the words name. The judged class is class 1, her method 1. -/
namespace start1
open Jvm.ClassFile
def u (s : String) : CpInfo := .utf8 (stringToUtf16 s)
/-- a pool by its gaps: so many unusable entries, then the entry; so many at the end -/
def gap : Nat → List CpInfo → List CpInfo
  | 0, r => r
  | n + 1, r => .unusable :: gap n r
def poolList (es : List (Nat × CpInfo)) (last : Nat) : List CpInfo := es.foldr (fun e r => gap e.1 (e.2 :: r)) (gap last [])
def pool (es : List (Nat × CpInfo)) (last : Nat) : Array CpInfo := ⟨poolList es last⟩
def fileOf (pool : Array CpInfo) (this : Nat) (attrs : Array Attribute := #[]) (ms : Array MethodInfo := #[]) (fl : Nat := 33) (sup : Nat := 0) (ifs : Array Nat := #[]) (fds : Array FieldInfo := #[]) : ClassFile where
  minorVersion := 0
  majorVersion := 65
  constantPool := pool
  accessFlags := fl
  thisClass := this
  superClass := sup
  interfaces := ifs
  fields := fds
  methods := ms
  attributes := attrs
def plain (name : String) (sup : Option ClassId) : Class where
  name := name
  kind := .ordinary
  loader := none
  accessFlags := 33
  super := sup
  interfaces := #[]
  cf := none
  fields := #[]
  methods := #[]
  instanceTypes := #[]
  staticTypes := #[]
  resolved := #[]
  callSites := []
  init := .initialized
  statics := none
  mirror := none

def pool0 : Array CpInfo := pool [(5, u "<init>"), (0, u "()V"), (1, .class_ 10), (1, u "java/lang/Object")] 113

def k0c0 : Code := { maxStack := 0, maxLocals := 1, code := object_method_1_code, exceptionTable := #[], attributes := #[] }
def k0m0 : Method := { name := "<init>", desc := "()V", sig := { parameters := [], returnType := none }, accessFlags := 1, code := some k0c0 }
/-- java/lang/Object -/
def k0 : Class := { plain "java/lang/Object" none with
  accessFlags := 33
  interfaces := #[]
  cf := some (fileOf pool0 8 #[] #[{ accessFlags := 1, nameIndex := 5, descriptorIndex := 6, attributes := #[] }] 33 0 #[] #[])
  fields := #[]
  methods := #[k0m0]
  instanceTypes := #[]
  staticTypes := #[]
  resolved := Array.replicate 124 none
  statics := none }

def pool1 : Array CpInfo := pool [(2, .class_ 4), (1, u "java/lang/Object"), (0, u "<init>"), (0, u "()V"), (0, .integer 2147483647), (0, .methodref 9 10), (0, .class_ 11), (0, .nameAndType 12 13), (0, u "com/example/watchful_junction/watchfuljunction/scenario/ProportionalSpec"), (0, u "equalShares"), (0, u "(II)Ljava/util/List;"), (0, .interfaceMethodref 15 16), (0, .class_ 17), (0, .nameAndType 18 19), (0, u "java/util/List"), (0, u "size"), (0, u "()I"), (0, .methodref 21 22), (0, .class_ 23), (0, .nameAndType 24 25), (0, u "com/example/watchful_junction/watchfuljunction/scenario/ProportionalSpecEqualSharesPinLaw"), (0, u "at"), (0, u "(Ljava/util/List;II)J"), (0, .methodref 21 27), (0, .nameAndType 28 29), (0, u "later"), (0, u "(Ljava/util/List;III)Z"), (0, .interfaceMethodref 15 31), (0, .nameAndType 32 33), (0, u "get"), (0, u "(I)Ljava/lang/Object;"), (0, .class_ 35), (0, u "java/lang/Integer"), (0, .methodref 34 37), (0, .nameAndType 38 39), (0, u "longValue"), (0, u "()J"), (2, u "law"), (0, u "(II)Z")] 6

def k1m0 : Method := { name := "<init>", desc := "()V", sig := { parameters := [], returnType := none }, accessFlags := 1, code := none }
def k1c1 : Code := { maxStack := 5, maxLocals := 7, code := code, exceptionTable := #[], attributes := #[] }
def k1m1 : Method := { name := "law", desc := "(II)Z", sig := { parameters := [.int, .int], returnType := some .boolean }, accessFlags := 9, code := some k1c1 }
def k1c2 : Code := { maxStack := 2, maxLocals := 3, code := method_3_code, exceptionTable := #[], attributes := #[] }
def k1m2 : Method := { name := "at", desc := "(Ljava/util/List;II)J", sig := { parameters := [(.object "java/util/List"), .int, .int], returnType := some .long }, accessFlags := 10, code := some k1c2 }
def k1c3 : Code := { maxStack := 6, maxLocals := 10, code := method_4_code, exceptionTable := #[], attributes := #[] }
def k1m3 : Method := { name := "later", desc := "(Ljava/util/List;III)Z", sig := { parameters := [(.object "java/util/List"), .int, .int, .int], returnType := some .boolean }, accessFlags := 10, code := some k1c3 }
/-- com/example/watchful_junction/watchfuljunction/scenario/ProportionalSpecEqualSharesPinLaw -/
def k1 : Class := { plain "com/example/watchful_junction/watchfuljunction/scenario/ProportionalSpecEqualSharesPinLaw" (some 0) with
  accessFlags := 49
  interfaces := #[]
  cf := some (fileOf pool1 21 #[] #[{ accessFlags := 1, nameIndex := 5, descriptorIndex := 6, attributes := #[] }, { accessFlags := 9, nameIndex := 42, descriptorIndex := 43, attributes := #[] }, { accessFlags := 10, nameIndex := 24, descriptorIndex := 25, attributes := #[] }, { accessFlags := 10, nameIndex := 28, descriptorIndex := 29, attributes := #[] }] 49 2 #[] #[])
  fields := #[]
  methods := #[k1m0, k1m1, k1m2, k1m3]
  instanceTypes := #[]
  staticTypes := #[]
  resolved := Array.replicate 50 none
  statics := none }

def pool2 : Array CpInfo := pool [(1, .class_ 2), (0, u "com/example/watchful_junction/watchfuljunction/scenario/ControllerSpec"), (0, .class_ 4), (0, u "java/lang/Object"), (5, .class_ 11), (0, u "com/example/watchful_junction/watchfuljunction/scenario/ControllerSpec$Type")] 9

/-- com/example/watchful_junction/watchfuljunction/scenario/ControllerSpec -/
def k2 : Class := { plain "com/example/watchful_junction/watchfuljunction/scenario/ControllerSpec" (some 0) with
  accessFlags := 1537
  interfaces := #[]
  cf := some (fileOf pool2 1 #[.nestMembers #[10]] #[] 1537 3 #[] #[])
  fields := #[]
  methods := #[]
  instanceTypes := #[]
  staticTypes := #[]
  resolved := Array.replicate 21 none
  statics := none }

def pool3 : Array CpInfo := pool [(2, .class_ 4), (1, u "java/lang/Object"), (3, .class_ 10), (1, u "com/example/watchful_junction/watchfuljunction/scenario/ProportionalSpec"), (0, u "plans"), (0, u "Lcom/example/watchful_junction/watchfuljunction/scenario/PlanSet;"), (2, u "minSplitS"), (0, u "I"), (2, u "observeEveryS"), (2, u "windowS"), (2, u "updateEveryS"), (2, u "volume"), (0, u "Lcom/example/watchful_junction/watchfuljunction/scenario/ProportionalSpec$Volume;"), (2, u "groupVolume"), (0, u "Lcom/example/watchful_junction/watchfuljunction/scenario/ProportionalSpec$GroupVolume;"), (6, .class_ 41), (0, u "java/lang/Integer"), (0, .methodref 40 43), (0, .nameAndType 44 45), (0, u "valueOf"), (0, u "(I)Ljava/lang/Integer;"), (0, .methodref 47 48), (0, .class_ 49), (0, .nameAndType 50 51), (0, u "java/util/Arrays"), (0, u "fill"), (0, u "([Ljava/lang/Object;Ljava/lang/Object;)V"), (0, .methodref 40 53), (0, .nameAndType 54 55), (0, u "intValue"), (0, u "()I"), (0, .interfaceMethodref 57 58), (0, .class_ 59), (0, .nameAndType 60 61), (0, u "java/util/List"), (0, u "of"), (0, u "([Ljava/lang/Object;)Ljava/util/List;"), (0, .class_ 63), (0, u "com/example/watchful_junction/watchfuljunction/scenario/ControllerSpec"), (8, u "equalShares"), (0, u "(II)Ljava/util/List;"), (5, .class_ 80), (0, u "com/example/watchful_junction/watchfuljunction/scenario/ProportionalSpec$GroupVolume"), (0, .class_ 82), (0, u "com/example/watchful_junction/watchfuljunction/scenario/ProportionalSpec$Volume")] 4

def k3c0 : Code := { maxStack := 5, maxLocals := 4, code := prog_51_method_10_code, exceptionTable := #[], attributes := #[] }
def k3m0 : Method := { name := "equalShares", desc := "(II)Ljava/util/List;", sig := { parameters := [.int, .int], returnType := some (.object "java/util/List") }, accessFlags := 8, code := some k3c0 }
/-- com/example/watchful_junction/watchfuljunction/scenario/ProportionalSpec -/
def k3 : Class := { plain "com/example/watchful_junction/watchfuljunction/scenario/ProportionalSpec" (some 0) with
  accessFlags := 49
  interfaces := #[2]
  cf := some (fileOf pool3 8 #[.nestMembers #[79, 81]] #[{ accessFlags := 8, nameIndex := 72, descriptorIndex := 73, attributes := #[] }] 49 2 #[62] #[{ accessFlags := 18, nameIndex := 11, descriptorIndex := 12, attributes := #[] }, { accessFlags := 18, nameIndex := 15, descriptorIndex := 16, attributes := #[] }, { accessFlags := 18, nameIndex := 19, descriptorIndex := 16, attributes := #[] }, { accessFlags := 18, nameIndex := 22, descriptorIndex := 16, attributes := #[] }, { accessFlags := 18, nameIndex := 25, descriptorIndex := 16, attributes := #[] }, { accessFlags := 18, nameIndex := 28, descriptorIndex := 29, attributes := #[] }, { accessFlags := 18, nameIndex := 32, descriptorIndex := 33, attributes := #[] }])
  fields := #[{ name := "plans", type := (.object "com/example/watchful_junction/watchfuljunction/scenario/PlanSet"), accessFlags := 18, slot := 0, constantValue := 0 }, { name := "minSplitS", type := .int, accessFlags := 18, slot := 1, constantValue := 0 }, { name := "observeEveryS", type := .int, accessFlags := 18, slot := 2, constantValue := 0 }, { name := "windowS", type := .int, accessFlags := 18, slot := 3, constantValue := 0 }, { name := "updateEveryS", type := .int, accessFlags := 18, slot := 4, constantValue := 0 }, { name := "volume", type := (.object "com/example/watchful_junction/watchfuljunction/scenario/ProportionalSpec$Volume"), accessFlags := 18, slot := 5, constantValue := 0 }, { name := "groupVolume", type := (.object "com/example/watchful_junction/watchfuljunction/scenario/ProportionalSpec$GroupVolume"), accessFlags := 18, slot := 6, constantValue := 0 }]
  methods := #[k3m0]
  instanceTypes := #[(.object "com/example/watchful_junction/watchfuljunction/scenario/PlanSet"), .int, .int, .int, .int, (.object "com/example/watchful_junction/watchfuljunction/scenario/ProportionalSpec$Volume"), (.object "com/example/watchful_junction/watchfuljunction/scenario/ProportionalSpec$GroupVolume")]
  staticTypes := #[]
  resolved := Array.replicate 87 none
  statics := none }

def pool4 : Array CpInfo := pool [(1, .class_ 2), (0, u "java/io/Serializable"), (0, .class_ 4), (0, u "java/lang/Object")] 2

/-- java/io/Serializable -/
def k4 : Class := { plain "java/io/Serializable" (some 0) with
  accessFlags := 1537
  interfaces := #[]
  cf := some (fileOf pool4 1 #[] #[] 1537 3 #[] #[])
  fields := #[]
  methods := #[]
  instanceTypes := #[]
  staticTypes := #[]
  resolved := Array.replicate 7 none
  statics := none }

def pool5 : Array CpInfo := pool [(1, .methodref 2 3), (0, .class_ 4), (0, .nameAndType 5 6), (0, u "java/lang/Object"), (0, u "<init>"), (0, u "()V"), (1, .class_ 10), (1, u "java/lang/Number"), (2, .class_ 14), (0, u "java/io/Serializable"), (0, u "serialVersionUID"), (0, u "J")] 20

def k5c0 : Code := { maxStack := 1, maxLocals := 1, code := jdk_18_method_1_code, exceptionTable := #[], attributes := #[] }
def k5m0 : Method := { name := "<init>", desc := "()V", sig := { parameters := [], returnType := none }, accessFlags := 1, code := some k5c0 }
/-- java/lang/Number -/
def k5 : Class := { plain "java/lang/Number" (some 0) with
  accessFlags := 1057
  interfaces := #[4]
  cf := some (fileOf pool5 8 #[] #[{ accessFlags := 1, nameIndex := 5, descriptorIndex := 6, attributes := #[] }] 1057 2 #[13] #[{ accessFlags := 26, nameIndex := 15, descriptorIndex := 16, attributes := #[] }])
  fields := #[{ name := "serialVersionUID", type := .long, accessFlags := 26, slot := 0, constantValue := 0 }]
  methods := #[k5m0]
  instanceTypes := #[]
  staticTypes := #[.long]
  resolved := Array.replicate 37 none
  statics := none }

def pool6 : Array CpInfo := pool [(1, .class_ 2), (0, u "java/lang/Comparable"), (0, .class_ 4), (0, u "java/lang/Object")] 7

/-- java/lang/Comparable -/
def k6 : Class := { plain "java/lang/Comparable" (some 0) with
  accessFlags := 1537
  interfaces := #[]
  cf := some (fileOf pool6 1 #[] #[] 1537 3 #[] #[])
  fields := #[]
  methods := #[]
  instanceTypes := #[]
  staticTypes := #[]
  resolved := Array.replicate 12 none
  statics := none }

def pool7 : Array CpInfo := pool [(1, .class_ 2), (0, u "java/lang/constant/Constable"), (0, .class_ 4), (0, u "java/lang/Object")] 6

/-- java/lang/constant/Constable -/
def k7 : Class := { plain "java/lang/constant/Constable" (some 0) with
  accessFlags := 1537
  interfaces := #[]
  cf := some (fileOf pool7 1 #[] #[] 1537 3 #[] #[])
  fields := #[]
  methods := #[]
  instanceTypes := #[]
  staticTypes := #[]
  resolved := Array.replicate 11 none
  statics := none }

def pool8 : Array CpInfo := pool [(1, .class_ 2), (0, u "java/lang/constant/ConstantDesc"), (0, .class_ 4), (0, u "java/lang/Object")] 32

/-- java/lang/constant/ConstantDesc -/
def k8 : Class := { plain "java/lang/constant/ConstantDesc" (some 0) with
  accessFlags := 1537
  interfaces := #[]
  cf := some (fileOf pool8 1 #[] #[] 1537 3 #[] #[])
  fields := #[]
  methods := #[]
  instanceTypes := #[]
  staticTypes := #[]
  resolved := Array.replicate 37 none
  statics := none }

def pool9 : Array CpInfo := pool [(1, .class_ 2), (0, u "java/lang/Integer"), (16, u "digits"), (0, u "[C"), (46, u "<init>"), (17, u "DigitOnes"), (0, u "[B"), (2, u "DigitTens"), (10, .nameAndType 67 101), (0, u "()V"), (19, u "()I"), (65, u "valueOf"), (0, u "(I)Ljava/lang/Integer;"), (0, .class_ 190), (0, u "java/lang/Integer$IntegerCache"), (0, .fieldref 189 192), (0, .nameAndType 193 194), (0, u "high"), (0, u "I"), (0, .fieldref 189 196), (0, .nameAndType 197 198), (0, u "cache"), (0, u "[Ljava/lang/Integer;"), (0, .methodref 1 200), (0, .nameAndType 67 201), (0, u "(I)V"), (0, .methodref 203 100), (0, .class_ 204), (0, u "java/lang/Number"), (0, .fieldref 1 206), (0, .nameAndType 207 194), (0, u "value"), (5, u "intValue"), (88, u "TYPE"), (0, u "Ljava/lang/Class;"), (0, .class_ 305), (0, u "java/lang/Comparable"), (0, .class_ 307), (0, u "java/lang/constant/Constable"), (0, .class_ 309), (0, u "java/lang/constant/ConstantDesc"), (0, u "MIN_VALUE"), (1, u "MAX_VALUE"), (3, u "SIZE"), (1, u "BYTES"), (1, u "serialVersionUID"), (0, u "J"), (57, u "longValue"), (0, u "()J")] 72

def k9c0 : Code := { maxStack := 3, maxLocals := 1, code := jdk_33_method_22_code, exceptionTable := #[], attributes := #[] }
def k9m0 : Method := { name := "valueOf", desc := "(I)Ljava/lang/Integer;", sig := { parameters := [.int], returnType := some (.object "java/lang/Integer") }, accessFlags := 9, code := some k9c0 }
def k9c1 : Code := { maxStack := 2, maxLocals := 2, code := jdk_33_method_23_code, exceptionTable := #[], attributes := #[] }
def k9m1 : Method := { name := "<init>", desc := "(I)V", sig := { parameters := [.int], returnType := none }, accessFlags := 1, code := some k9c1 }
def k9c2 : Code := { maxStack := 1, maxLocals := 1, code := jdk_33_method_27_code, exceptionTable := #[], attributes := #[] }
def k9m2 : Method := { name := "intValue", desc := "()I", sig := { parameters := [], returnType := some .int }, accessFlags := 1, code := some k9c2 }
def k9c3 : Code := { maxStack := 2, maxLocals := 1, code := jdk_33_method_28_code, exceptionTable := #[], attributes := #[] }
def k9m3 : Method := { name := "longValue", desc := "()J", sig := { parameters := [], returnType := some .long }, accessFlags := 1, code := some k9c3 }
/-- java/lang/Integer -/
def k9 : Class := { plain "java/lang/Integer" (some 5) with
  accessFlags := 49
  interfaces := #[6, 7, 8]
  cf := some (fileOf pool9 1 #[.nestMembers #[189]] #[{ accessFlags := 9, nameIndex := 187, descriptorIndex := 188, attributes := #[] }, { accessFlags := 1, nameIndex := 67, descriptorIndex := 201, attributes := #[] }, { accessFlags := 1, nameIndex := 213, descriptorIndex := 121, attributes := #[] }, { accessFlags := 1, nameIndex := 379, descriptorIndex := 380, attributes := #[] }] 49 203 #[304, 306, 308] #[{ accessFlags := 25, nameIndex := 310, descriptorIndex := 194, attributes := #[] }, { accessFlags := 25, nameIndex := 312, descriptorIndex := 194, attributes := #[] }, { accessFlags := 25, nameIndex := 302, descriptorIndex := 303, attributes := #[] }, { accessFlags := 24, nameIndex := 19, descriptorIndex := 20, attributes := #[] }, { accessFlags := 24, nameIndex := 89, descriptorIndex := 86, attributes := #[] }, { accessFlags := 24, nameIndex := 85, descriptorIndex := 86, attributes := #[] }, { accessFlags := 18, nameIndex := 207, descriptorIndex := 194, attributes := #[] }, { accessFlags := 25, nameIndex := 316, descriptorIndex := 194, attributes := #[] }, { accessFlags := 25, nameIndex := 318, descriptorIndex := 194, attributes := #[] }, { accessFlags := 26, nameIndex := 320, descriptorIndex := 321, attributes := #[] }])
  fields := #[{ name := "MIN_VALUE", type := .int, accessFlags := 25, slot := 0, constantValue := 0 }, { name := "MAX_VALUE", type := .int, accessFlags := 25, slot := 1, constantValue := 0 }, { name := "TYPE", type := (.object "java/lang/Class"), accessFlags := 25, slot := 2, constantValue := 0 }, { name := "digits", type := (.array .char), accessFlags := 24, slot := 3, constantValue := 0 }, { name := "DigitTens", type := (.array .byte), accessFlags := 24, slot := 4, constantValue := 0 }, { name := "DigitOnes", type := (.array .byte), accessFlags := 24, slot := 5, constantValue := 0 }, { name := "value", type := .int, accessFlags := 18, slot := 0, constantValue := 0 }, { name := "SIZE", type := .int, accessFlags := 25, slot := 6, constantValue := 0 }, { name := "BYTES", type := .int, accessFlags := 25, slot := 7, constantValue := 0 }, { name := "serialVersionUID", type := .long, accessFlags := 26, slot := 8, constantValue := 0 }]
  methods := #[k9m0, k9m1, k9m2, k9m3]
  instanceTypes := #[.int]
  staticTypes := #[.int, .int, (.object "java/lang/Class"), (.array .char), (.array .byte), (.array .byte), .int, .int, .long]
  resolved := Array.replicate 453 none
  statics := none }

def pool10 : Array CpInfo := pool [(2, .class_ 4), (1, u "java/lang/Object"), (0, u "<init>"), (0, u "()V"), (0, .class_ 8), (0, u "java/lang/Integer"), (7, .class_ 18), (1, u "java/lang/Integer$IntegerCache"), (0, u "$assertionsDisabled"), (0, u "Z"), (26, u "high"), (0, u "I"), (8, u "archivedCache"), (0, u "[Ljava/lang/Integer;"), (12, u "cache"), (0, u "low")] 27

def k10m0 : Method := { name := "<init>", desc := "()V", sig := { parameters := [], returnType := none }, accessFlags := 2, code := none }
/-- java/lang/Integer$IntegerCache -/
def k10 : Class := { plain "java/lang/Integer$IntegerCache" (some 0) with
  accessFlags := 48
  interfaces := #[]
  cf := some (fileOf pool10 16 #[.nestHost 7] #[{ accessFlags := 2, nameIndex := 5, descriptorIndex := 6, attributes := #[] }] 48 2 #[] #[{ accessFlags := 24, nameIndex := 72, descriptorIndex := 48, attributes := #[] }, { accessFlags := 24, nameIndex := 47, descriptorIndex := 48, attributes := #[] }, { accessFlags := 24, nameIndex := 71, descriptorIndex := 58, attributes := #[] }, { accessFlags := 8, nameIndex := 57, descriptorIndex := 58, attributes := #[] }, { accessFlags := 4120, nameIndex := 19, descriptorIndex := 20, attributes := #[] }])
  fields := #[{ name := "low", type := .int, accessFlags := 24, slot := 0, constantValue := 0 }, { name := "high", type := .int, accessFlags := 24, slot := 1, constantValue := 0 }, { name := "cache", type := (.array (.object "java/lang/Integer")), accessFlags := 24, slot := 2, constantValue := 0 }, { name := "archivedCache", type := (.array (.object "java/lang/Integer")), accessFlags := 8, slot := 3, constantValue := 0 }, { name := "$assertionsDisabled", type := .boolean, accessFlags := 4120, slot := 4, constantValue := 0 }]
  methods := #[k10m0]
  instanceTypes := #[]
  staticTypes := #[.int, .int, (.array (.object "java/lang/Integer")), (.array (.object "java/lang/Integer")), .boolean]
  resolved := Array.replicate 100 none
  statics := some 0 }

def pool11 : Array CpInfo := pool [(2, .class_ 4), (1, u "java/lang/Object"), (0, u "<init>"), (0, u "()V"), (7, .class_ 16), (1, u "java/util/Arrays"), (57, .class_ 76), (1, u "java/util/Arrays$NaturalOrder"), (36, .class_ 115), (1, u "java/util/Arrays$LegacyMergeSort"), (1, u "Z"), (257, .class_ 376), (0, u "java/util/Arrays$ArrayList"), (68, u "$assertionsDisabled"), (269, u "MIN_ARRAY_SORT_GRAN"), (0, u "I"), (2, u "INSERTIONSORT_THRESHOLD"), (120, u "fill"), (17, u "([Ljava/lang/Object;Ljava/lang/Object;)V"), (116, .class_ 976), (0, u "java/util/Arrays$ArrayItr")] 52

def k11m0 : Method := { name := "<init>", desc := "()V", sig := { parameters := [], returnType := none }, accessFlags := 2, code := none }
def k11c1 : Code := { maxStack := 3, maxLocals := 4, code := jdk_65_method_117_code, exceptionTable := #[], attributes := #[] }
def k11m1 : Method := { name := "fill", desc := "([Ljava/lang/Object;Ljava/lang/Object;)V", sig := { parameters := [(.array (.object "java/lang/Object")), (.object "java/lang/Object")], returnType := none }, accessFlags := 9, code := some k11c1 }
/-- java/util/Arrays -/
def k11 : Class := { plain "java/util/Arrays" (some 0) with
  accessFlags := 49
  interfaces := #[]
  cf := some (fileOf pool11 14 #[.nestMembers #[975, 375, 113, 74]] #[{ accessFlags := 2, nameIndex := 5, descriptorIndex := 6, attributes := #[] }, { accessFlags := 9, nameIndex := 840, descriptorIndex := 858, attributes := #[] }] 49 2 #[] #[{ accessFlags := 26, nameIndex := 715, descriptorIndex := 716, attributes := #[] }, { accessFlags := 26, nameIndex := 719, descriptorIndex := 716, attributes := #[] }, { accessFlags := 4120, nameIndex := 445, descriptorIndex := 117, attributes := #[] }])
  fields := #[{ name := "MIN_ARRAY_SORT_GRAN", type := .int, accessFlags := 26, slot := 0, constantValue := 0 }, { name := "INSERTIONSORT_THRESHOLD", type := .int, accessFlags := 26, slot := 1, constantValue := 0 }, { name := "$assertionsDisabled", type := .boolean, accessFlags := 4120, slot := 2, constantValue := 0 }]
  methods := #[k11m0, k11m1]
  instanceTypes := #[]
  staticTypes := #[.int, .int, .boolean]
  resolved := Array.replicate 1029 none
  statics := none }

def pool12 : Array CpInfo := pool [(8, .class_ 10), (1, u "java/lang/Iterable"), (24, .class_ 36), (0, u "java/lang/Object")] 25

/-- java/lang/Iterable -/
def k12 : Class := { plain "java/lang/Iterable" (some 0) with
  accessFlags := 1537
  interfaces := #[]
  cf := some (fileOf pool12 8 #[] #[] 1537 35 #[] #[])
  fields := #[]
  methods := #[]
  instanceTypes := #[]
  staticTypes := #[]
  resolved := Array.replicate 62 none
  statics := none }

def pool13 : Array CpInfo := pool [(10, .class_ 12), (1, u "java/util/Collection"), (47, .class_ 61), (0, u "java/lang/Object"), (0, .class_ 63), (0, u "java/lang/Iterable")] 51

/-- java/util/Collection -/
def k13 : Class := { plain "java/util/Collection" (some 0) with
  accessFlags := 1537
  interfaces := #[12]
  cf := some (fileOf pool13 10 #[] #[] 1537 60 #[62] #[])
  fields := #[]
  methods := #[]
  instanceTypes := #[]
  staticTypes := #[]
  resolved := Array.replicate 115 none
  statics := none }

def pool14 : Array CpInfo := pool [(8, .class_ 10), (1, u "java/util/SequencedCollection"), (15, .class_ 27), (0, u "java/lang/Object"), (0, .class_ 29), (0, u "java/util/Collection")] 27

/-- java/util/SequencedCollection -/
def k14 : Class := { plain "java/util/SequencedCollection" (some 0) with
  accessFlags := 1537
  interfaces := #[13]
  cf := some (fileOf pool14 8 #[] #[] 1537 26 #[28] #[])
  fields := #[]
  methods := #[]
  instanceTypes := #[]
  staticTypes := #[]
  resolved := Array.replicate 57 none
  statics := none }

def pool15 : Array CpInfo := pool [(8, .class_ 10), (1, u "java/util/List"), (20, u "(Ljava/lang/Object;)V"), (16, u "<init>"), (26, u "get"), (0, u "(I)Ljava/lang/Object;"), (2, u "size"), (0, u "()I"), (7, u "of"), (2, .class_ 93), (1, u "java/util/ImmutableCollections"), (2, .class_ 97), (0, u "java/util/ImmutableCollections$List12"), (0, .methodref 96 99), (0, .nameAndType 48 31), (0, .methodref 96 101), (0, .nameAndType 48 102), (0, u "(Ljava/lang/Object;Ljava/lang/Object;)V"), (0, .class_ 104), (0, u "java/lang/Object"), (3, u "([Ljava/lang/Object;)Ljava/util/List;"), (0, .methodref 91 110), (0, .nameAndType 111 108), (0, u "listFromArray"), (8, .class_ 121), (0, u "java/util/SequencedCollection")] 129

def k15m0 : Method := { name := "size", desc := "()I", sig := { parameters := [], returnType := some .int }, accessFlags := 1025, code := none }
def k15m1 : Method := { name := "get", desc := "(I)Ljava/lang/Object;", sig := { parameters := [.int], returnType := some (.object "java/lang/Object") }, accessFlags := 1025, code := none }
def k15c2 : Code := { maxStack := 5, maxLocals := 2, code := jdk_40_method_47_code, exceptionTable := #[], attributes := #[] }
def k15m2 : Method := { name := "of", desc := "([Ljava/lang/Object;)Ljava/util/List;", sig := { parameters := [(.array (.object "java/lang/Object"))], returnType := some (.object "java/util/List") }, accessFlags := 137, code := some k15c2 }
/-- java/util/List -/
def k15 : Class := { plain "java/util/List" (some 0) with
  accessFlags := 1537
  interfaces := #[14]
  cf := some (fileOf pool15 8 #[] #[{ accessFlags := 1025, nameIndex := 79, descriptorIndex := 80, attributes := #[] }, { accessFlags := 1025, nameIndex := 75, descriptorIndex := 76, attributes := #[] }, { accessFlags := 137, nameIndex := 88, descriptorIndex := 108, attributes := #[] }] 1537 103 #[120] #[])
  fields := #[]
  methods := #[k15m0, k15m1, k15m2]
  instanceTypes := #[]
  staticTypes := #[]
  resolved := Array.replicate 251 none
  statics := none }

def pool16 : Array CpInfo := pool [(2, .class_ 4), (1, u "java/lang/Object"), (0, u "<init>"), (0, u "()V"), (3, .class_ 11), (0, u "java/util/ImmutableCollections$List12"), (0, .class_ 13), (0, u "java/util/ImmutableCollections$ListN"), (3, u "Z"), (18, u "([Ljava/lang/Object;)Ljava/util/List;"), (0, .methodref 38 39), (0, .class_ 40), (0, .nameAndType 41 42), (0, u "java/util/Objects"), (0, u "requireNonNull"), (0, u "(Ljava/lang/Object;)Ljava/lang/Object;"), (0, .methodref 12 44), (0, .nameAndType 5 45), (0, u "([Ljava/lang/Object;Z)V"), (1, .class_ 49), (1, u "java/util/ImmutableCollections"), (0, u "$assertionsDisabled"), (5, u "[Ljava/lang/Object;"), (5, u "EMPTY_LIST"), (0, u "Ljava/util/ImmutableCollections$ListN;"), (8, u "EMPTY_LIST_NULLS"), (22, u "SALT32L"), (0, u "J"), (2, u "REVERSE"), (6, u "archivedObjects"), (2, u "EMPTY"), (0, u "Ljava/lang/Object;"), (0, .class_ 112), (0, u "java/util/ImmutableCollections$SetN"), (5, u "EMPTY_SET"), (0, u "Ljava/util/ImmutableCollections$SetN;"), (0, .class_ 121), (0, u "java/util/ImmutableCollections$MapN"), (3, u "EMPTY_MAP"), (0, u "Ljava/util/ImmutableCollections$MapN;"), (4, u "EXPAND_FACTOR"), (0, u "I"), (18, u "listFromArray"), (17, .class_ 170), (0, u "java/util/ImmutableCollections$MapN$MapNIterator"), (0, .class_ 172), (0, u "java/util/ImmutableCollections$MapN$1"), (0, .class_ 174), (0, u "java/util/ImmutableCollections$Map1"), (0, .class_ 176), (0, u "java/util/ImmutableCollections$AbstractImmutableMap"), (0, .class_ 178), (0, u "java/util/ImmutableCollections$SetN$SetNIterator"), (0, .class_ 180), (0, u "java/util/ImmutableCollections$Set12"), (0, .class_ 182), (0, u "java/util/ImmutableCollections$Set12$1"), (0, .class_ 184), (0, u "java/util/ImmutableCollections$AbstractImmutableSet"), (0, .class_ 186), (0, u "java/util/ImmutableCollections$SubList"), (0, .class_ 188), (0, u "java/util/ImmutableCollections$ListItr"), (0, .class_ 190), (0, u "java/util/ImmutableCollections$AbstractImmutableList"), (0, .class_ 192), (0, u "java/util/ImmutableCollections$AbstractImmutableCollection"), (0, .class_ 194), (0, u "java/util/ImmutableCollections$Access"), (0, .class_ 196), (0, u "java/util/ImmutableCollections$Access$1")] 16

def k16m0 : Method := { name := "<init>", desc := "()V", sig := { parameters := [], returnType := none }, accessFlags := 2, code := none }
def k16c1 : Code := { maxStack := 4, maxLocals := 3, code := jdk_56_method_4_code, exceptionTable := #[], attributes := #[] }
def k16m1 : Method := { name := "listFromArray", desc := "([Ljava/lang/Object;)Ljava/util/List;", sig := { parameters := [(.array (.object "java/lang/Object"))], returnType := some (.object "java/util/List") }, accessFlags := 136, code := some k16c1 }
/-- java/util/ImmutableCollections -/
def k16 : Class := { plain "java/util/ImmutableCollections" (some 0) with
  accessFlags := 32
  interfaces := #[]
  cf := some (fileOf pool16 47 #[.nestMembers #[120, 169, 171, 173, 175, 111, 177, 179, 181, 183, 12, 10, 185, 187, 189, 191, 193, 195]] #[{ accessFlags := 2, nameIndex := 5, descriptorIndex := 6, attributes := #[] }, { accessFlags := 136, nameIndex := 151, descriptorIndex := 36, attributes := #[] }] 32 2 #[] #[{ accessFlags := 26, nameIndex := 95, descriptorIndex := 96, attributes := #[] }, { accessFlags := 26, nameIndex := 99, descriptorIndex := 17, attributes := #[] }, { accessFlags := 10, nameIndex := 106, descriptorIndex := 56, attributes := #[] }, { accessFlags := 26, nameIndex := 109, descriptorIndex := 110, attributes := #[] }, { accessFlags := 24, nameIndex := 62, descriptorIndex := 63, attributes := #[] }, { accessFlags := 24, nameIndex := 72, descriptorIndex := 63, attributes := #[] }, { accessFlags := 24, nameIndex := 118, descriptorIndex := 119, attributes := #[] }, { accessFlags := 24, nameIndex := 125, descriptorIndex := 126, attributes := #[] }, { accessFlags := 24, nameIndex := 131, descriptorIndex := 132, attributes := #[] }, { accessFlags := 4120, nameIndex := 50, descriptorIndex := 17, attributes := #[] }])
  fields := #[{ name := "SALT32L", type := .long, accessFlags := 26, slot := 0, constantValue := 0 }, { name := "REVERSE", type := .boolean, accessFlags := 26, slot := 1, constantValue := 0 }, { name := "archivedObjects", type := (.array (.object "java/lang/Object")), accessFlags := 10, slot := 2, constantValue := 0 }, { name := "EMPTY", type := (.object "java/lang/Object"), accessFlags := 26, slot := 3, constantValue := 0 }, { name := "EMPTY_LIST", type := (.object "java/util/ImmutableCollections$ListN"), accessFlags := 24, slot := 4, constantValue := 0 }, { name := "EMPTY_LIST_NULLS", type := (.object "java/util/ImmutableCollections$ListN"), accessFlags := 24, slot := 5, constantValue := 0 }, { name := "EMPTY_SET", type := (.object "java/util/ImmutableCollections$SetN"), accessFlags := 24, slot := 6, constantValue := 0 }, { name := "EMPTY_MAP", type := (.object "java/util/ImmutableCollections$MapN"), accessFlags := 24, slot := 7, constantValue := 0 }, { name := "EXPAND_FACTOR", type := .int, accessFlags := 24, slot := 8, constantValue := 0 }, { name := "$assertionsDisabled", type := .boolean, accessFlags := 4120, slot := 9, constantValue := 0 }]
  methods := #[k16m0, k16m1]
  instanceTypes := #[]
  staticTypes := #[.long, .boolean, (.array (.object "java/lang/Object")), (.object "java/lang/Object"), (.object "java/util/ImmutableCollections$ListN"), (.object "java/util/ImmutableCollections$ListN"), (.object "java/util/ImmutableCollections$SetN"), (.object "java/util/ImmutableCollections$MapN"), .int, .boolean]
  resolved := Array.replicate 213 none
  statics := some 1 }

def pool17 : Array CpInfo := pool [(2, .class_ 4), (1, u "java/lang/Object"), (0, u "<init>"), (0, u "()V"), (35, .class_ 44), (1, u "java/util/Objects"), (0, u "requireNonNull"), (0, u "(Ljava/lang/Object;)Ljava/lang/Object;")] 137

def k17m0 : Method := { name := "<init>", desc := "()V", sig := { parameters := [], returnType := none }, accessFlags := 2, code := none }
def k17c1 : Code := { maxStack := 2, maxLocals := 1, code := jdk_31_method_10_code, exceptionTable := #[], attributes := #[] }
def k17m1 : Method := { name := "requireNonNull", desc := "(Ljava/lang/Object;)Ljava/lang/Object;", sig := { parameters := [(.object "java/lang/Object")], returnType := some (.object "java/lang/Object") }, accessFlags := 9, code := some k17c1 }
/-- java/util/Objects -/
def k17 : Class := { plain "java/util/Objects" (some 0) with
  accessFlags := 49
  interfaces := #[]
  cf := some (fileOf pool17 42 #[] #[{ accessFlags := 2, nameIndex := 5, descriptorIndex := 6, attributes := #[] }, { accessFlags := 9, nameIndex := 45, descriptorIndex := 46, attributes := #[] }] 49 2 #[] #[])
  fields := #[]
  methods := #[k17m0, k17m1]
  instanceTypes := #[]
  staticTypes := #[]
  resolved := Array.replicate 184 none
  statics := none }

def pool18 : Array CpInfo := pool [(1, .methodref 2 3), (0, .class_ 4), (0, .nameAndType 5 6), (0, u "java/lang/Object"), (0, u "<init>"), (0, u "()V"), (1, .class_ 10), (1, u "java/util/AbstractCollection"), (66, .class_ 78), (0, u "java/util/Collection")] 81

def k18c0 : Code := { maxStack := 1, maxLocals := 1, code := jdk_22_method_1_code, exceptionTable := #[], attributes := #[] }
def k18m0 : Method := { name := "<init>", desc := "()V", sig := { parameters := [], returnType := none }, accessFlags := 4, code := some k18c0 }
/-- java/util/AbstractCollection -/
def k18 : Class := { plain "java/util/AbstractCollection" (some 0) with
  accessFlags := 1057
  interfaces := #[13]
  cf := some (fileOf pool18 8 #[] #[{ accessFlags := 4, nameIndex := 5, descriptorIndex := 6, attributes := #[] }] 1057 2 #[77] #[])
  fields := #[]
  methods := #[k18m0]
  instanceTypes := #[]
  staticTypes := #[]
  resolved := Array.replicate 160 none
  statics := none }

def pool19 : Array CpInfo := pool [(1, .methodref 2 3), (0, .class_ 4), (0, .nameAndType 5 6), (0, u "java/util/AbstractCollection"), (0, u "<init>"), (0, u "()V"), (1, .class_ 10), (1, u "java/util/ImmutableCollections"), (2, .class_ 14), (0, u "java/util/ImmutableCollections$AbstractImmutableCollection")] 41

def k19c0 : Code := { maxStack := 1, maxLocals := 1, code := jdk_47_method_1_code, exceptionTable := #[], attributes := #[] }
def k19m0 : Method := { name := "<init>", desc := "()V", sig := { parameters := [], returnType := none }, accessFlags := 0, code := some k19c0 }
/-- java/util/ImmutableCollections$AbstractImmutableCollection -/
def k19 : Class := { plain "java/util/ImmutableCollections$AbstractImmutableCollection" (some 18) with
  accessFlags := 1056
  interfaces := #[]
  cf := some (fileOf pool19 13 #[.nestHost 8] #[{ accessFlags := 0, nameIndex := 5, descriptorIndex := 6, attributes := #[] }] 1056 2 #[] #[])
  fields := #[]
  methods := #[k19m0]
  instanceTypes := #[]
  staticTypes := #[]
  resolved := Array.replicate 56 none
  statics := none }

def pool20 : Array CpInfo := pool [(1, .class_ 2), (0, u "java/util/RandomAccess"), (0, .class_ 4), (0, u "java/lang/Object")] 2

/-- java/util/RandomAccess -/
def k20 : Class := { plain "java/util/RandomAccess" (some 0) with
  accessFlags := 1537
  interfaces := #[]
  cf := some (fileOf pool20 1 #[] #[] 1537 3 #[] #[])
  fields := #[]
  methods := #[]
  instanceTypes := #[]
  staticTypes := #[]
  resolved := Array.replicate 7 none
  statics := none }

def pool21 : Array CpInfo := pool [(1, .methodref 2 3), (0, .class_ 4), (0, .nameAndType 5 6), (0, u "java/util/ImmutableCollections$AbstractImmutableCollection"), (0, u "<init>"), (0, u "()V"), (1, .class_ 10), (1, u "java/util/ImmutableCollections"), (3, .class_ 16), (1, u "java/util/ImmutableCollections$AbstractImmutableList"), (60, .class_ 78), (0, u "java/util/List"), (45, .class_ 125), (0, u "java/util/RandomAccess")] 70

def k21c0 : Code := { maxStack := 1, maxLocals := 1, code := jdk_46_method_1_code, exceptionTable := #[], attributes := #[] }
def k21m0 : Method := { name := "<init>", desc := "()V", sig := { parameters := [], returnType := none }, accessFlags := 0, code := some k21c0 }
/-- java/util/ImmutableCollections$AbstractImmutableList -/
def k21 : Class := { plain "java/util/ImmutableCollections$AbstractImmutableList" (some 19) with
  accessFlags := 1056
  interfaces := #[15, 20]
  cf := some (fileOf pool21 14 #[.nestHost 8] #[{ accessFlags := 0, nameIndex := 5, descriptorIndex := 6, attributes := #[] }] 1056 2 #[77, 124] #[])
  fields := #[]
  methods := #[k21m0]
  instanceTypes := #[]
  staticTypes := #[]
  resolved := Array.replicate 196 none
  statics := none }

def pool22 : Array CpInfo := pool [(1, .methodref 2 3), (0, .class_ 4), (0, .nameAndType 5 6), (0, u "java/util/ImmutableCollections$AbstractImmutableList"), (0, u "<init>"), (0, u "()V"), (0, .fieldref 8 9), (0, .class_ 10), (0, .nameAndType 11 12), (0, u "java/util/ImmutableCollections$ListN"), (0, u "elements"), (0, u "[Ljava/lang/Object;"), (0, .fieldref 8 14), (0, .nameAndType 15 16), (0, u "allowNulls"), (0, u "Z"), (42, .class_ 60), (0, u "java/io/Serializable"), (4, u "([Ljava/lang/Object;Z)V"), (11, u "size"), (0, u "()I"), (0, u "get"), (0, u "(I)Ljava/lang/Object;"), (33, .class_ 115), (0, u "java/util/ImmutableCollections")] 3

def k22c0 : Code := { maxStack := 2, maxLocals := 3, code := jdk_45_method_1_code, exceptionTable := #[], attributes := #[] }
def k22m0 : Method := { name := "<init>", desc := "([Ljava/lang/Object;Z)V", sig := { parameters := [(.array (.object "java/lang/Object")), .boolean], returnType := none }, accessFlags := 2, code := some k22c0 }
def k22c1 : Code := { maxStack := 1, maxLocals := 1, code := jdk_45_method_3_code, exceptionTable := #[], attributes := #[] }
def k22m1 : Method := { name := "size", desc := "()I", sig := { parameters := [], returnType := some .int }, accessFlags := 1, code := some k22c1 }
def k22c2 : Code := { maxStack := 2, maxLocals := 2, code := jdk_45_method_4_code, exceptionTable := #[], attributes := #[] }
def k22m2 : Method := { name := "get", desc := "(I)Ljava/lang/Object;", sig := { parameters := [.int], returnType := some (.object "java/lang/Object") }, accessFlags := 1, code := some k22c2 }
/-- java/util/ImmutableCollections$ListN -/
def k22 : Class := { plain "java/util/ImmutableCollections$ListN" (some 21) with
  accessFlags := 48
  interfaces := #[4]
  cf := some (fileOf pool22 8 #[.nestHost 114] #[{ accessFlags := 2, nameIndex := 5, descriptorIndex := 65, attributes := #[] }, { accessFlags := 1, nameIndex := 77, descriptorIndex := 78, attributes := #[] }, { accessFlags := 1, nameIndex := 79, descriptorIndex := 80, attributes := #[] }] 48 2 #[59] #[{ accessFlags := 18, nameIndex := 11, descriptorIndex := 12, attributes := #[] }, { accessFlags := 18, nameIndex := 15, descriptorIndex := 16, attributes := #[] }])
  fields := #[{ name := "elements", type := (.array (.object "java/lang/Object")), accessFlags := 18, slot := 0, constantValue := 0 }, { name := "allowNulls", type := .boolean, accessFlags := 18, slot := 1, constantValue := 0 }]
  methods := #[k22m0, k22m1, k22m2]
  instanceTypes := #[(.array (.object "java/lang/Object")), .boolean]
  staticTypes := #[]
  resolved := Array.replicate 119 none
  statics := none }

def pool23 : Array CpInfo := pool [(1, .methodref 2 3), (0, .class_ 4), (0, .nameAndType 5 6), (0, u "java/util/ImmutableCollections$AbstractImmutableList"), (0, u "<init>"), (0, u "()V"), (0, .methodref 8 9), (0, .class_ 10), (0, .nameAndType 11 12), (0, u "java/util/Objects"), (0, u "requireNonNull"), (0, u "(Ljava/lang/Object;)Ljava/lang/Object;"), (0, .fieldref 14 15), (0, .class_ 16), (0, .nameAndType 17 18), (0, u "java/util/ImmutableCollections$List12"), (0, u "e0"), (0, u "Ljava/lang/Object;"), (0, .fieldref 20 21), (0, .class_ 22), (0, .nameAndType 23 18), (0, u "java/util/ImmutableCollections"), (0, u "EMPTY"), (0, .fieldref 14 25), (0, .nameAndType 26 18), (0, u "e1"), (24, u "size"), (0, u "()I"), (17, .class_ 71), (0, u "java/io/Serializable"), (4, u "(Ljava/lang/Object;)V"), (8, u "(Ljava/lang/Object;Ljava/lang/Object;)V"), (4, u "get"), (0, u "(I)Ljava/lang/Object;")] 33

def k23c0 : Code := { maxStack := 2, maxLocals := 2, code := jdk_44_method_1_code, exceptionTable := #[], attributes := #[] }
def k23m0 : Method := { name := "<init>", desc := "(Ljava/lang/Object;)V", sig := { parameters := [(.object "java/lang/Object")], returnType := none }, accessFlags := 0, code := some k23c0 }
def k23c1 : Code := { maxStack := 2, maxLocals := 3, code := jdk_44_method_2_code, exceptionTable := #[], attributes := #[] }
def k23m1 : Method := { name := "<init>", desc := "(Ljava/lang/Object;Ljava/lang/Object;)V", sig := { parameters := [(.object "java/lang/Object"), (.object "java/lang/Object")], returnType := none }, accessFlags := 0, code := some k23c1 }
def k23c2 : Code := { maxStack := 2, maxLocals := 1, code := jdk_44_method_3_code, exceptionTable := #[], attributes := #[] }
def k23m2 : Method := { name := "size", desc := "()I", sig := { parameters := [], returnType := some .int }, accessFlags := 1, code := some k23c2 }
def k23c3 : Code := { maxStack := 2, maxLocals := 2, code := jdk_44_method_5_code, exceptionTable := #[], attributes := #[] }
def k23m3 : Method := { name := "get", desc := "(I)Ljava/lang/Object;", sig := { parameters := [.int], returnType := some (.object "java/lang/Object") }, accessFlags := 1, code := some k23c3 }
/-- java/util/ImmutableCollections$List12 -/
def k23 : Class := { plain "java/util/ImmutableCollections$List12" (some 21) with
  accessFlags := 48
  interfaces := #[4]
  cf := some (fileOf pool23 14 #[.nestHost 20] #[{ accessFlags := 0, nameIndex := 5, descriptorIndex := 76, attributes := #[] }, { accessFlags := 0, nameIndex := 5, descriptorIndex := 85, attributes := #[] }, { accessFlags := 1, nameIndex := 51, descriptorIndex := 52, attributes := #[] }, { accessFlags := 1, nameIndex := 90, descriptorIndex := 91, attributes := #[] }] 48 2 #[70] #[{ accessFlags := 18, nameIndex := 17, descriptorIndex := 18, attributes := #[] }, { accessFlags := 18, nameIndex := 26, descriptorIndex := 18, attributes := #[] }])
  fields := #[{ name := "e0", type := (.object "java/lang/Object"), accessFlags := 18, slot := 0, constantValue := 0 }, { name := "e1", type := (.object "java/lang/Object"), accessFlags := 18, slot := 1, constantValue := 0 }]
  methods := #[k23m0, k23m1, k23m2, k23m3]
  instanceTypes := #[(.object "java/lang/Object"), (.object "java/lang/Object")]
  staticTypes := #[]
  resolved := Array.replicate 125 none
  statics := none }

def pool24 : Array CpInfo := pool [(1, u "java/lang/Cloneable"), (0, .class_ 1), (0, u "java/lang/Object"), (0, .class_ 3)] 3

/-- java/lang/Cloneable -/
def k24 : Class := { plain "java/lang/Cloneable" (some 0) with
  accessFlags := 1537
  interfaces := #[]
  cf := some (fileOf pool24 2 #[] #[] 1537 4 #[] #[])
  fields := #[]
  methods := #[]
  instanceTypes := #[]
  staticTypes := #[]
  resolved := Array.replicate 8 none
  statics := none }

/-- the primitive byte -/
def k25 : Class := { plain "byte" none with kind := .primitive 'B', accessFlags := 0x411 }
/-- [B -/
def k26 : Class := { plain "[B" (some 0) with kind := .array 25 .byte, interfaces := #[24, 4], accessFlags := 1041 }

/-- the primitive int -/
def k27 : Class := { plain "int" none with kind := .primitive 'I', accessFlags := 0x411 }
/-- [I -/
def k28 : Class := { plain "[I" (some 0) with kind := .array 27 .int, interfaces := #[24, 4], accessFlags := 1041 }

/-- [Ljava/lang/Integer; -/
def k29 : Class := { plain "[Ljava/lang/Integer;" (some 0) with kind := .array 9 (.object "java/lang/Integer"), interfaces := #[24, 4], accessFlags := 1041 }

/-- [Ljava/lang/Object; -/
def k30 : Class := { plain "[Ljava/lang/Object;" (some 0) with kind := .array 0 (.object "java/lang/Object"), interfaces := #[24, 4], accessFlags := 1041 }

def heap : Heap := #[{ cls := 10, slots := #[.int 0, .int 127, .ref 2, .null, .int 0], vm := .statics 10 },
  { cls := 16, slots := #[.long 0, .int 0, .null, .ref 261, .ref 260, .null, .null, .null, .int 0, .int 1], vm := .statics 16 },
  { cls := 29, slots := #[.ref 4, .ref 5, .ref 6, .ref 7, .ref 8, .ref 9, .ref 10, .ref 11, .ref 12, .ref 13, .ref 14, .ref 15, .ref 16, .ref 17, .ref 18, .ref 19, .ref 20, .ref 21, .ref 22, .ref 23, .ref 24, .ref 25, .ref 26, .ref 27, .ref 28, .ref 29, .ref 30, .ref 31, .ref 32, .ref 33, .ref 34, .ref 35, .ref 36, .ref 37, .ref 38, .ref 39, .ref 40, .ref 41, .ref 42, .ref 43, .ref 44, .ref 45, .ref 46, .ref 47, .ref 48, .ref 49, .ref 50, .ref 51, .ref 52, .ref 53, .ref 54, .ref 55, .ref 56, .ref 57, .ref 58, .ref 59, .ref 60, .ref 61, .ref 62, .ref 63, .ref 64, .ref 65, .ref 66, .ref 67, .ref 68, .ref 69, .ref 70, .ref 71, .ref 72, .ref 73, .ref 74, .ref 75, .ref 76, .ref 77, .ref 78, .ref 79, .ref 80, .ref 81, .ref 82, .ref 83, .ref 84, .ref 85, .ref 86, .ref 87, .ref 88, .ref 89, .ref 90, .ref 91, .ref 92, .ref 93, .ref 94, .ref 95, .ref 96, .ref 97, .ref 98, .ref 99, .ref 100, .ref 101, .ref 102, .ref 103, .ref 104, .ref 105, .ref 106, .ref 107, .ref 108, .ref 109, .ref 110, .ref 111, .ref 112, .ref 113, .ref 114, .ref 115, .ref 116, .ref 117, .ref 118, .ref 119, .ref 120, .ref 121, .ref 122, .ref 123, .ref 124, .ref 125, .ref 126, .ref 127, .ref 128, .ref 129, .ref 130, .ref 131, .ref 132, .ref 133, .ref 134, .ref 135, .ref 136, .ref 137, .ref 138, .ref 139, .ref 140, .ref 141, .ref 142, .ref 143, .ref 144, .ref 145, .ref 146, .ref 147, .ref 148, .ref 149, .ref 150, .ref 151, .ref 152, .ref 153, .ref 154, .ref 155, .ref 156, .ref 157, .ref 158, .ref 159, .ref 160, .ref 161, .ref 162, .ref 163, .ref 164, .ref 165, .ref 166, .ref 167, .ref 168, .ref 169, .ref 170, .ref 171, .ref 172, .ref 173, .ref 174, .ref 175, .ref 176, .ref 177, .ref 178, .ref 179, .ref 180, .ref 181, .ref 182, .ref 183, .ref 184, .ref 185, .ref 186, .ref 187, .ref 188, .ref 189, .ref 190, .ref 191, .ref 192, .ref 193, .ref 194, .ref 195, .ref 196, .ref 197, .ref 198, .ref 199, .ref 200, .ref 201, .ref 202, .ref 203, .ref 204, .ref 205, .ref 206, .ref 207, .ref 208, .ref 209, .ref 210, .ref 211, .ref 212, .ref 213, .ref 214, .ref 215, .ref 216, .ref 217, .ref 218, .ref 219, .ref 220, .ref 221, .ref 222, .ref 223, .ref 224, .ref 225, .ref 226, .ref 227, .ref 228, .ref 229, .ref 230, .ref 231, .ref 232, .ref 233, .ref 234, .ref 235, .ref 236, .ref 237, .ref 238, .ref 239, .ref 240, .ref 241, .ref 242, .ref 243, .ref 244, .ref 245, .ref 246, .ref 247, .ref 248, .ref 249, .ref 250, .ref 251, .ref 252, .ref 253, .ref 254, .ref 255, .ref 256, .ref 257, .ref 258, .ref 259], vm := .none },
  { cls := 30, slots := #[], vm := .none },
  { cls := 9, slots := #[.int (-128)], vm := .none },
  { cls := 9, slots := #[.int (-127)], vm := .none },
  { cls := 9, slots := #[.int (-126)], vm := .none },
  { cls := 9, slots := #[.int (-125)], vm := .none },
  { cls := 9, slots := #[.int (-124)], vm := .none },
  { cls := 9, slots := #[.int (-123)], vm := .none },
  { cls := 9, slots := #[.int (-122)], vm := .none },
  { cls := 9, slots := #[.int (-121)], vm := .none },
  { cls := 9, slots := #[.int (-120)], vm := .none },
  { cls := 9, slots := #[.int (-119)], vm := .none },
  { cls := 9, slots := #[.int (-118)], vm := .none },
  { cls := 9, slots := #[.int (-117)], vm := .none },
  { cls := 9, slots := #[.int (-116)], vm := .none },
  { cls := 9, slots := #[.int (-115)], vm := .none },
  { cls := 9, slots := #[.int (-114)], vm := .none },
  { cls := 9, slots := #[.int (-113)], vm := .none },
  { cls := 9, slots := #[.int (-112)], vm := .none },
  { cls := 9, slots := #[.int (-111)], vm := .none },
  { cls := 9, slots := #[.int (-110)], vm := .none },
  { cls := 9, slots := #[.int (-109)], vm := .none },
  { cls := 9, slots := #[.int (-108)], vm := .none },
  { cls := 9, slots := #[.int (-107)], vm := .none },
  { cls := 9, slots := #[.int (-106)], vm := .none },
  { cls := 9, slots := #[.int (-105)], vm := .none },
  { cls := 9, slots := #[.int (-104)], vm := .none },
  { cls := 9, slots := #[.int (-103)], vm := .none },
  { cls := 9, slots := #[.int (-102)], vm := .none },
  { cls := 9, slots := #[.int (-101)], vm := .none },
  { cls := 9, slots := #[.int (-100)], vm := .none },
  { cls := 9, slots := #[.int (-99)], vm := .none },
  { cls := 9, slots := #[.int (-98)], vm := .none },
  { cls := 9, slots := #[.int (-97)], vm := .none },
  { cls := 9, slots := #[.int (-96)], vm := .none },
  { cls := 9, slots := #[.int (-95)], vm := .none },
  { cls := 9, slots := #[.int (-94)], vm := .none },
  { cls := 9, slots := #[.int (-93)], vm := .none },
  { cls := 9, slots := #[.int (-92)], vm := .none },
  { cls := 9, slots := #[.int (-91)], vm := .none },
  { cls := 9, slots := #[.int (-90)], vm := .none },
  { cls := 9, slots := #[.int (-89)], vm := .none },
  { cls := 9, slots := #[.int (-88)], vm := .none },
  { cls := 9, slots := #[.int (-87)], vm := .none },
  { cls := 9, slots := #[.int (-86)], vm := .none },
  { cls := 9, slots := #[.int (-85)], vm := .none },
  { cls := 9, slots := #[.int (-84)], vm := .none },
  { cls := 9, slots := #[.int (-83)], vm := .none },
  { cls := 9, slots := #[.int (-82)], vm := .none },
  { cls := 9, slots := #[.int (-81)], vm := .none },
  { cls := 9, slots := #[.int (-80)], vm := .none },
  { cls := 9, slots := #[.int (-79)], vm := .none },
  { cls := 9, slots := #[.int (-78)], vm := .none },
  { cls := 9, slots := #[.int (-77)], vm := .none },
  { cls := 9, slots := #[.int (-76)], vm := .none },
  { cls := 9, slots := #[.int (-75)], vm := .none },
  { cls := 9, slots := #[.int (-74)], vm := .none },
  { cls := 9, slots := #[.int (-73)], vm := .none },
  { cls := 9, slots := #[.int (-72)], vm := .none },
  { cls := 9, slots := #[.int (-71)], vm := .none },
  { cls := 9, slots := #[.int (-70)], vm := .none },
  { cls := 9, slots := #[.int (-69)], vm := .none },
  { cls := 9, slots := #[.int (-68)], vm := .none },
  { cls := 9, slots := #[.int (-67)], vm := .none },
  { cls := 9, slots := #[.int (-66)], vm := .none },
  { cls := 9, slots := #[.int (-65)], vm := .none },
  { cls := 9, slots := #[.int (-64)], vm := .none },
  { cls := 9, slots := #[.int (-63)], vm := .none },
  { cls := 9, slots := #[.int (-62)], vm := .none },
  { cls := 9, slots := #[.int (-61)], vm := .none },
  { cls := 9, slots := #[.int (-60)], vm := .none },
  { cls := 9, slots := #[.int (-59)], vm := .none },
  { cls := 9, slots := #[.int (-58)], vm := .none },
  { cls := 9, slots := #[.int (-57)], vm := .none },
  { cls := 9, slots := #[.int (-56)], vm := .none },
  { cls := 9, slots := #[.int (-55)], vm := .none },
  { cls := 9, slots := #[.int (-54)], vm := .none },
  { cls := 9, slots := #[.int (-53)], vm := .none },
  { cls := 9, slots := #[.int (-52)], vm := .none },
  { cls := 9, slots := #[.int (-51)], vm := .none },
  { cls := 9, slots := #[.int (-50)], vm := .none },
  { cls := 9, slots := #[.int (-49)], vm := .none },
  { cls := 9, slots := #[.int (-48)], vm := .none },
  { cls := 9, slots := #[.int (-47)], vm := .none },
  { cls := 9, slots := #[.int (-46)], vm := .none },
  { cls := 9, slots := #[.int (-45)], vm := .none },
  { cls := 9, slots := #[.int (-44)], vm := .none },
  { cls := 9, slots := #[.int (-43)], vm := .none },
  { cls := 9, slots := #[.int (-42)], vm := .none },
  { cls := 9, slots := #[.int (-41)], vm := .none },
  { cls := 9, slots := #[.int (-40)], vm := .none },
  { cls := 9, slots := #[.int (-39)], vm := .none },
  { cls := 9, slots := #[.int (-38)], vm := .none },
  { cls := 9, slots := #[.int (-37)], vm := .none },
  { cls := 9, slots := #[.int (-36)], vm := .none },
  { cls := 9, slots := #[.int (-35)], vm := .none },
  { cls := 9, slots := #[.int (-34)], vm := .none },
  { cls := 9, slots := #[.int (-33)], vm := .none },
  { cls := 9, slots := #[.int (-32)], vm := .none },
  { cls := 9, slots := #[.int (-31)], vm := .none },
  { cls := 9, slots := #[.int (-30)], vm := .none },
  { cls := 9, slots := #[.int (-29)], vm := .none },
  { cls := 9, slots := #[.int (-28)], vm := .none },
  { cls := 9, slots := #[.int (-27)], vm := .none },
  { cls := 9, slots := #[.int (-26)], vm := .none },
  { cls := 9, slots := #[.int (-25)], vm := .none },
  { cls := 9, slots := #[.int (-24)], vm := .none },
  { cls := 9, slots := #[.int (-23)], vm := .none },
  { cls := 9, slots := #[.int (-22)], vm := .none },
  { cls := 9, slots := #[.int (-21)], vm := .none },
  { cls := 9, slots := #[.int (-20)], vm := .none },
  { cls := 9, slots := #[.int (-19)], vm := .none },
  { cls := 9, slots := #[.int (-18)], vm := .none },
  { cls := 9, slots := #[.int (-17)], vm := .none },
  { cls := 9, slots := #[.int (-16)], vm := .none },
  { cls := 9, slots := #[.int (-15)], vm := .none },
  { cls := 9, slots := #[.int (-14)], vm := .none },
  { cls := 9, slots := #[.int (-13)], vm := .none },
  { cls := 9, slots := #[.int (-12)], vm := .none },
  { cls := 9, slots := #[.int (-11)], vm := .none },
  { cls := 9, slots := #[.int (-10)], vm := .none },
  { cls := 9, slots := #[.int (-9)], vm := .none },
  { cls := 9, slots := #[.int (-8)], vm := .none },
  { cls := 9, slots := #[.int (-7)], vm := .none },
  { cls := 9, slots := #[.int (-6)], vm := .none },
  { cls := 9, slots := #[.int (-5)], vm := .none },
  { cls := 9, slots := #[.int (-4)], vm := .none },
  { cls := 9, slots := #[.int (-3)], vm := .none },
  { cls := 9, slots := #[.int (-2)], vm := .none },
  { cls := 9, slots := #[.int (-1)], vm := .none },
  { cls := 9, slots := #[.int 0], vm := .none },
  { cls := 9, slots := #[.int 1], vm := .none },
  { cls := 9, slots := #[.int 2], vm := .none },
  { cls := 9, slots := #[.int 3], vm := .none },
  { cls := 9, slots := #[.int 4], vm := .none },
  { cls := 9, slots := #[.int 5], vm := .none },
  { cls := 9, slots := #[.int 6], vm := .none },
  { cls := 9, slots := #[.int 7], vm := .none },
  { cls := 9, slots := #[.int 8], vm := .none },
  { cls := 9, slots := #[.int 9], vm := .none },
  { cls := 9, slots := #[.int 10], vm := .none },
  { cls := 9, slots := #[.int 11], vm := .none },
  { cls := 9, slots := #[.int 12], vm := .none },
  { cls := 9, slots := #[.int 13], vm := .none },
  { cls := 9, slots := #[.int 14], vm := .none },
  { cls := 9, slots := #[.int 15], vm := .none },
  { cls := 9, slots := #[.int 16], vm := .none },
  { cls := 9, slots := #[.int 17], vm := .none },
  { cls := 9, slots := #[.int 18], vm := .none },
  { cls := 9, slots := #[.int 19], vm := .none },
  { cls := 9, slots := #[.int 20], vm := .none },
  { cls := 9, slots := #[.int 21], vm := .none },
  { cls := 9, slots := #[.int 22], vm := .none },
  { cls := 9, slots := #[.int 23], vm := .none },
  { cls := 9, slots := #[.int 24], vm := .none },
  { cls := 9, slots := #[.int 25], vm := .none },
  { cls := 9, slots := #[.int 26], vm := .none },
  { cls := 9, slots := #[.int 27], vm := .none },
  { cls := 9, slots := #[.int 28], vm := .none },
  { cls := 9, slots := #[.int 29], vm := .none },
  { cls := 9, slots := #[.int 30], vm := .none },
  { cls := 9, slots := #[.int 31], vm := .none },
  { cls := 9, slots := #[.int 32], vm := .none },
  { cls := 9, slots := #[.int 33], vm := .none },
  { cls := 9, slots := #[.int 34], vm := .none },
  { cls := 9, slots := #[.int 35], vm := .none },
  { cls := 9, slots := #[.int 36], vm := .none },
  { cls := 9, slots := #[.int 37], vm := .none },
  { cls := 9, slots := #[.int 38], vm := .none },
  { cls := 9, slots := #[.int 39], vm := .none },
  { cls := 9, slots := #[.int 40], vm := .none },
  { cls := 9, slots := #[.int 41], vm := .none },
  { cls := 9, slots := #[.int 42], vm := .none },
  { cls := 9, slots := #[.int 43], vm := .none },
  { cls := 9, slots := #[.int 44], vm := .none },
  { cls := 9, slots := #[.int 45], vm := .none },
  { cls := 9, slots := #[.int 46], vm := .none },
  { cls := 9, slots := #[.int 47], vm := .none },
  { cls := 9, slots := #[.int 48], vm := .none },
  { cls := 9, slots := #[.int 49], vm := .none },
  { cls := 9, slots := #[.int 50], vm := .none },
  { cls := 9, slots := #[.int 51], vm := .none },
  { cls := 9, slots := #[.int 52], vm := .none },
  { cls := 9, slots := #[.int 53], vm := .none },
  { cls := 9, slots := #[.int 54], vm := .none },
  { cls := 9, slots := #[.int 55], vm := .none },
  { cls := 9, slots := #[.int 56], vm := .none },
  { cls := 9, slots := #[.int 57], vm := .none },
  { cls := 9, slots := #[.int 58], vm := .none },
  { cls := 9, slots := #[.int 59], vm := .none },
  { cls := 9, slots := #[.int 60], vm := .none },
  { cls := 9, slots := #[.int 61], vm := .none },
  { cls := 9, slots := #[.int 62], vm := .none },
  { cls := 9, slots := #[.int 63], vm := .none },
  { cls := 9, slots := #[.int 64], vm := .none },
  { cls := 9, slots := #[.int 65], vm := .none },
  { cls := 9, slots := #[.int 66], vm := .none },
  { cls := 9, slots := #[.int 67], vm := .none },
  { cls := 9, slots := #[.int 68], vm := .none },
  { cls := 9, slots := #[.int 69], vm := .none },
  { cls := 9, slots := #[.int 70], vm := .none },
  { cls := 9, slots := #[.int 71], vm := .none },
  { cls := 9, slots := #[.int 72], vm := .none },
  { cls := 9, slots := #[.int 73], vm := .none },
  { cls := 9, slots := #[.int 74], vm := .none },
  { cls := 9, slots := #[.int 75], vm := .none },
  { cls := 9, slots := #[.int 76], vm := .none },
  { cls := 9, slots := #[.int 77], vm := .none },
  { cls := 9, slots := #[.int 78], vm := .none },
  { cls := 9, slots := #[.int 79], vm := .none },
  { cls := 9, slots := #[.int 80], vm := .none },
  { cls := 9, slots := #[.int 81], vm := .none },
  { cls := 9, slots := #[.int 82], vm := .none },
  { cls := 9, slots := #[.int 83], vm := .none },
  { cls := 9, slots := #[.int 84], vm := .none },
  { cls := 9, slots := #[.int 85], vm := .none },
  { cls := 9, slots := #[.int 86], vm := .none },
  { cls := 9, slots := #[.int 87], vm := .none },
  { cls := 9, slots := #[.int 88], vm := .none },
  { cls := 9, slots := #[.int 89], vm := .none },
  { cls := 9, slots := #[.int 90], vm := .none },
  { cls := 9, slots := #[.int 91], vm := .none },
  { cls := 9, slots := #[.int 92], vm := .none },
  { cls := 9, slots := #[.int 93], vm := .none },
  { cls := 9, slots := #[.int 94], vm := .none },
  { cls := 9, slots := #[.int 95], vm := .none },
  { cls := 9, slots := #[.int 96], vm := .none },
  { cls := 9, slots := #[.int 97], vm := .none },
  { cls := 9, slots := #[.int 98], vm := .none },
  { cls := 9, slots := #[.int 99], vm := .none },
  { cls := 9, slots := #[.int 100], vm := .none },
  { cls := 9, slots := #[.int 101], vm := .none },
  { cls := 9, slots := #[.int 102], vm := .none },
  { cls := 9, slots := #[.int 103], vm := .none },
  { cls := 9, slots := #[.int 104], vm := .none },
  { cls := 9, slots := #[.int 105], vm := .none },
  { cls := 9, slots := #[.int 106], vm := .none },
  { cls := 9, slots := #[.int 107], vm := .none },
  { cls := 9, slots := #[.int 108], vm := .none },
  { cls := 9, slots := #[.int 109], vm := .none },
  { cls := 9, slots := #[.int 110], vm := .none },
  { cls := 9, slots := #[.int 111], vm := .none },
  { cls := 9, slots := #[.int 112], vm := .none },
  { cls := 9, slots := #[.int 113], vm := .none },
  { cls := 9, slots := #[.int 114], vm := .none },
  { cls := 9, slots := #[.int 115], vm := .none },
  { cls := 9, slots := #[.int 116], vm := .none },
  { cls := 9, slots := #[.int 117], vm := .none },
  { cls := 9, slots := #[.int 118], vm := .none },
  { cls := 9, slots := #[.int 119], vm := .none },
  { cls := 9, slots := #[.int 120], vm := .none },
  { cls := 9, slots := #[.int 121], vm := .none },
  { cls := 9, slots := #[.int 122], vm := .none },
  { cls := 9, slots := #[.int 123], vm := .none },
  { cls := 9, slots := #[.int 124], vm := .none },
  { cls := 9, slots := #[.int 125], vm := .none },
  { cls := 9, slots := #[.int 126], vm := .none },
  { cls := 9, slots := #[.int 127], vm := .none },
  { cls := 22, slots := #[.ref 3, .int 0], vm := .none },
  { cls := 0, slots := #[], vm := .none }]
def classes : Array Class := #[k0, k1, k2, k3, k4, k5, k6, k7, k8, k9, k10, k11, k12, k13, k14, k15, k16, k17, k18, k19, k20, k21, k22, k23, k24, k25, k26, k27, k28, k29, k30]
def interned : List (Array UInt16 × Addr) := []
def slotsUsed : Nat := 529
def theMethod : MethodId := ⟨1, 1⟩
def args0 : Array Value := #[.int 100, .int 3]
def aboutOver (below : List Frame) : State where
  vm := { classes := classes, interned := interned.toArray }
  heap := heap
  slotsUsed := slotsUsed
  threads := #[{ frames := .invoking theMethod args0 :: below }]
def below0 : List Frame := [.native { method := ⟨0, 0⟩, args := #[] }]
def about1 : State := aboutOver below0
def p0 : Program := .bare "" "" ""
def e0 : Env := launch0.env 0 0 0
theorem w_frames : about1.frames = Frame.invoking theMethod args0 :: below0 := rfl
set_option maxRecDepth 65536 in
theorem w_args : argsFit about1.vm theMethod args0 = true := by decide +kernel
set_option maxRecDepth 65536 in
theorem w_heap : heapFits about1 = true := by decide +kernel
set_option maxRecDepth 65536 in
theorem w_runnable : about1.curStatus? = some .runnable := by decide +kernel
set_option maxRecDepth 65536 in
theorem w_alone : about1.alone = true := by decide +kernel
set_option maxRecDepth 65536 in
theorem w_named : about1.methodNamed? x = some theMethod := by decide +kernel
set_option maxRecDepth 65536 in
theorem w_hears : about1.hears theMethod below0 = true := by decide +kernel
set_option maxRecDepth 65536 in
theorem w_ripe : about1.ripe theMethod args0 below0 = true := by decide +kernel
theorem w_running : about1.status = .running := rfl
set_option maxRecDepth 65536 in
theorem w_room : about1.hasRoom e0.platform room_1 = true :=
  launch0.hasRoom_least _ room_1 (by decide +kernel) (by decide +kernel) (by decide +kernel) (by decide +kernel) (by decide +kernel) (by decide +kernel)
theorem allAtoms_all (ts : List Jvm.Cond) (a : Array Jvm.Value) (st : Jvm.State) : (allAtoms ts).before a st = ts.all (fun c => c.before a st) := by
  induction ts with
  | nil => rfl
  | cons c t ih =>
    show (Jvm.Cond.and c (allAtoms t)).before a st = _
    rw [Jvm.Cond.before_and, ih, List.all_cons]
def words1 : List Jvm.Cond := Jvm.Cond.code x code maxLocals ret :: tables_1
/-- a 'code' word, met by the world's own term for the bytes: nothing is compared byte by byte -/
theorem code_word {y : MethodName} {bytes : ByteArray} {mx : Nat} {rt : Option FieldType} {a : Array Value} {s : State} {m : MethodId} {meth : Method} {c : Code} (h1 : s.methodNamed? y = some m) (h2 : s.vm.method? m = some meth) (h3 : meth.code = some c) (h4 : c.code = bytes)
    (h5 : (c.maxLocals == mx && c.exceptionTable.isEmpty && decide (c.maxStack ≤ mostOperands) && decide (meth.sig.returnType = rt) && !meth.locks && decide (parseMethodDescriptor y.desc = some meth.sig)) = true) : (Jvm.Cond.code y bytes mx rt).before a s = true := by
  simp only [Bool.and_eq_true, beq_iff_eq, Bool.not_eq_true', decide_eq_true_eq] at h5
  obtain ⟨⟨⟨⟨⟨g1, g2⟩, g3⟩, g4⟩, g5⟩, g6⟩ := h5
  simp [Cond.before, Cond.holds, Cond.value, h1, h2, h3, h4, g1, g2, g3, g4, g5, g6]
def isCode : Jvm.Cond → Bool
  | .code _ _ _ _ => true
  | _ => false
theorem all_split {L : List Jvm.Cond} {P : Jvm.Cond → Bool} (h1 : L.all (fun c => isCode c || P c) = true) (h2 : ∀ c ∈ L.filter isCode, P c = true) : L.all P = true := by
  refine List.all_eq_true.mpr fun c hc => ?_
  have h := List.all_eq_true.mp h1 c hc
  rcases Bool.eq_false_or_eq_true (isCode c) with hi | hi
  · exact h2 c (List.mem_filter.mpr ⟨hc, hi⟩)
  · simpa [hi] using h
set_option maxRecDepth 65536 in
theorem w_c0 : (Jvm.Cond.code x code maxLocals ret).before args0 about1 = true := code_word (m := ⟨1, 1⟩) (meth := k1m1) (c := k1c1) (by decide +kernel) rfl rfl rfl (by decide +kernel)
set_option maxRecDepth 65536 in
theorem w_c1 : (Jvm.Cond.code ({ cls := "com/example/watchful_junction/watchfuljunction/scenario/ProportionalSpec", name := "equalShares", desc := "(II)Ljava/util/List;" } : Jvm.MethodName) prog_51_method_10_code (4 : Nat) (Option.some (Jvm.ClassFile.FieldType.object "java/util/List"))).before args0 about1 = true := code_word (m := ⟨3, 0⟩) (meth := k3m0) (c := k3c0) (by decide +kernel) rfl rfl rfl (by decide +kernel)
set_option maxRecDepth 65536 in
theorem w_c2 : (Jvm.Cond.code ({ cls := "java/lang/Integer", name := "valueOf", desc := "(I)Ljava/lang/Integer;" } : Jvm.MethodName) jdk_33_method_22_code (1 : Nat) (Option.some (Jvm.ClassFile.FieldType.object "java/lang/Integer"))).before args0 about1 = true := code_word (m := ⟨9, 0⟩) (meth := k9m0) (c := k9c0) (by decide +kernel) rfl rfl rfl (by decide +kernel)
set_option maxRecDepth 65536 in
theorem w_c3 : (Jvm.Cond.code ({ cls := "java/util/Arrays", name := "fill", desc := "([Ljava/lang/Object;Ljava/lang/Object;)V" } : Jvm.MethodName) jdk_65_method_117_code (4 : Nat) (Option.none : Option Jvm.ClassFile.FieldType)).before args0 about1 = true := code_word (m := ⟨11, 1⟩) (meth := k11m1) (c := k11c1) (by decide +kernel) rfl rfl rfl (by decide +kernel)
set_option maxRecDepth 65536 in
theorem w_c4 : (Jvm.Cond.code ({ cls := "java/lang/Integer", name := "intValue", desc := "()I" } : Jvm.MethodName) jdk_33_method_27_code (1 : Nat) (Option.some Jvm.ClassFile.FieldType.int)).before args0 about1 = true := code_word (m := ⟨9, 2⟩) (meth := k9m2) (c := k9c2) (by decide +kernel) rfl rfl rfl (by decide +kernel)
set_option maxRecDepth 65536 in
theorem w_c5 : (Jvm.Cond.code ({ cls := "java/util/List", name := "of", desc := "([Ljava/lang/Object;)Ljava/util/List;" } : Jvm.MethodName) jdk_40_method_47_code (2 : Nat) (Option.some (Jvm.ClassFile.FieldType.object "java/util/List"))).before args0 about1 = true := code_word (m := ⟨15, 2⟩) (meth := k15m2) (c := k15c2) (by decide +kernel) rfl rfl rfl (by decide +kernel)
set_option maxRecDepth 65536 in
theorem w_c6 : (Jvm.Cond.code ({ cls := "java/util/ImmutableCollections", name := "listFromArray", desc := "([Ljava/lang/Object;)Ljava/util/List;" } : Jvm.MethodName) jdk_56_method_4_code (3 : Nat) (Option.some (Jvm.ClassFile.FieldType.object "java/util/List"))).before args0 about1 = true := code_word (m := ⟨16, 1⟩) (meth := k16m1) (c := k16c1) (by decide +kernel) rfl rfl rfl (by decide +kernel)
set_option maxRecDepth 65536 in
theorem w_c7 : (Jvm.Cond.code ({ cls := "java/util/Objects", name := "requireNonNull", desc := "(Ljava/lang/Object;)Ljava/lang/Object;" } : Jvm.MethodName) jdk_31_method_10_code (1 : Nat) (Option.some (Jvm.ClassFile.FieldType.object "java/lang/Object"))).before args0 about1 = true := code_word (m := ⟨17, 1⟩) (meth := k17m1) (c := k17c1) (by decide +kernel) rfl rfl rfl (by decide +kernel)
set_option maxRecDepth 65536 in
theorem w_c8 : (Jvm.Cond.code ({ cls := "java/util/ImmutableCollections$ListN", name := "<init>", desc := "([Ljava/lang/Object;Z)V" } : Jvm.MethodName) jdk_45_method_1_code (3 : Nat) (Option.none : Option Jvm.ClassFile.FieldType)).before args0 about1 = true := code_word (m := ⟨22, 0⟩) (meth := k22m0) (c := k22c0) (by decide +kernel) rfl rfl rfl (by decide +kernel)
set_option maxRecDepth 65536 in
theorem w_c9 : (Jvm.Cond.code ({ cls := "java/util/ImmutableCollections$AbstractImmutableList", name := "<init>", desc := "()V" } : Jvm.MethodName) jdk_46_method_1_code (1 : Nat) (Option.none : Option Jvm.ClassFile.FieldType)).before args0 about1 = true := code_word (m := ⟨21, 0⟩) (meth := k21m0) (c := k21c0) (by decide +kernel) rfl rfl rfl (by decide +kernel)
set_option maxRecDepth 65536 in
theorem w_c10 : (Jvm.Cond.code ({ cls := "java/util/ImmutableCollections$AbstractImmutableCollection", name := "<init>", desc := "()V" } : Jvm.MethodName) jdk_47_method_1_code (1 : Nat) (Option.none : Option Jvm.ClassFile.FieldType)).before args0 about1 = true := code_word (m := ⟨19, 0⟩) (meth := k19m0) (c := k19c0) (by decide +kernel) rfl rfl rfl (by decide +kernel)
set_option maxRecDepth 65536 in
theorem w_c11 : (Jvm.Cond.code ({ cls := "java/util/AbstractCollection", name := "<init>", desc := "()V" } : Jvm.MethodName) jdk_22_method_1_code (1 : Nat) (Option.none : Option Jvm.ClassFile.FieldType)).before args0 about1 = true := code_word (m := ⟨18, 0⟩) (meth := k18m0) (c := k18c0) (by decide +kernel) rfl rfl rfl (by decide +kernel)
set_option maxRecDepth 65536 in
theorem w_c12 : (Jvm.Cond.code ({ cls := "java/lang/Object", name := "<init>", desc := "()V" } : Jvm.MethodName) object_method_1_code (1 : Nat) (Option.none : Option Jvm.ClassFile.FieldType)).before args0 about1 = true := code_word (m := ⟨0, 0⟩) (meth := k0m0) (c := k0c0) (by decide +kernel) rfl rfl rfl (by decide +kernel)
set_option maxRecDepth 65536 in
theorem w_c13 : (Jvm.Cond.code ({ cls := "java/util/ImmutableCollections$ListN", name := "size", desc := "()I" } : Jvm.MethodName) jdk_45_method_3_code (1 : Nat) (Option.some Jvm.ClassFile.FieldType.int)).before args0 about1 = true := code_word (m := ⟨22, 1⟩) (meth := k22m1) (c := k22c1) (by decide +kernel) rfl rfl rfl (by decide +kernel)
set_option maxRecDepth 65536 in
theorem w_c14 : (Jvm.Cond.code ({ cls := "com/example/watchful_junction/watchfuljunction/scenario/ProportionalSpecEqualSharesPinLaw", name := "at", desc := "(Ljava/util/List;II)J" } : Jvm.MethodName) method_3_code (3 : Nat) (Option.some Jvm.ClassFile.FieldType.long)).before args0 about1 = true := code_word (m := ⟨1, 2⟩) (meth := k1m2) (c := k1c2) (by decide +kernel) rfl rfl rfl (by decide +kernel)
set_option maxRecDepth 65536 in
theorem w_c15 : (Jvm.Cond.code ({ cls := "java/util/ImmutableCollections$ListN", name := "get", desc := "(I)Ljava/lang/Object;" } : Jvm.MethodName) jdk_45_method_4_code (2 : Nat) (Option.some (Jvm.ClassFile.FieldType.object "java/lang/Object"))).before args0 about1 = true := code_word (m := ⟨22, 2⟩) (meth := k22m2) (c := k22c2) (by decide +kernel) rfl rfl rfl (by decide +kernel)
set_option maxRecDepth 65536 in
theorem w_c16 : (Jvm.Cond.code ({ cls := "java/lang/Integer", name := "longValue", desc := "()J" } : Jvm.MethodName) jdk_33_method_28_code (1 : Nat) (Option.some Jvm.ClassFile.FieldType.long)).before args0 about1 = true := code_word (m := ⟨9, 3⟩) (meth := k9m3) (c := k9c3) (by decide +kernel) rfl rfl rfl (by decide +kernel)
set_option maxRecDepth 65536 in
theorem w_c17 : (Jvm.Cond.code ({ cls := "com/example/watchful_junction/watchfuljunction/scenario/ProportionalSpecEqualSharesPinLaw", name := "later", desc := "(Ljava/util/List;III)Z" } : Jvm.MethodName) method_4_code (10 : Nat) (Option.some Jvm.ClassFile.FieldType.boolean)).before args0 about1 = true := code_word (m := ⟨1, 3⟩) (meth := k1m3) (c := k1c3) (by decide +kernel) rfl rfl rfl (by decide +kernel)
set_option maxRecDepth 65536 in
theorem w_c18 : (Jvm.Cond.code ({ cls := "java/util/ImmutableCollections$List12", name := "<init>", desc := "(Ljava/lang/Object;Ljava/lang/Object;)V" } : Jvm.MethodName) jdk_44_method_2_code (3 : Nat) (Option.none : Option Jvm.ClassFile.FieldType)).before args0 about1 = true := code_word (m := ⟨23, 1⟩) (meth := k23m1) (c := k23c1) (by decide +kernel) rfl rfl rfl (by decide +kernel)
set_option maxRecDepth 65536 in
theorem w_c19 : (Jvm.Cond.code ({ cls := "java/util/ImmutableCollections$List12", name := "size", desc := "()I" } : Jvm.MethodName) jdk_44_method_3_code (1 : Nat) (Option.some Jvm.ClassFile.FieldType.int)).before args0 about1 = true := code_word (m := ⟨23, 2⟩) (meth := k23m2) (c := k23c2) (by decide +kernel) rfl rfl rfl (by decide +kernel)
set_option maxRecDepth 65536 in
theorem w_c20 : (Jvm.Cond.code ({ cls := "java/util/ImmutableCollections$List12", name := "get", desc := "(I)Ljava/lang/Object;" } : Jvm.MethodName) jdk_44_method_5_code (2 : Nat) (Option.some (Jvm.ClassFile.FieldType.object "java/lang/Object"))).before args0 about1 = true := code_word (m := ⟨23, 3⟩) (meth := k23m3) (c := k23c3) (by decide +kernel) rfl rfl rfl (by decide +kernel)
set_option maxRecDepth 65536 in
theorem w_c21 : (Jvm.Cond.code ({ cls := "java/lang/Integer", name := "<init>", desc := "(I)V" } : Jvm.MethodName) jdk_33_method_23_code (2 : Nat) (Option.none : Option Jvm.ClassFile.FieldType)).before args0 about1 = true := code_word (m := ⟨9, 1⟩) (meth := k9m1) (c := k9c1) (by decide +kernel) rfl rfl rfl (by decide +kernel)
set_option maxRecDepth 65536 in
theorem w_c22 : (Jvm.Cond.code ({ cls := "java/lang/Number", name := "<init>", desc := "()V" } : Jvm.MethodName) jdk_18_method_1_code (1 : Nat) (Option.none : Option Jvm.ClassFile.FieldType)).before args0 about1 = true := code_word (m := ⟨5, 0⟩) (meth := k5m0) (c := k5c0) (by decide +kernel) rfl rfl rfl (by decide +kernel)
set_option maxRecDepth 65536 in
theorem w_c23 : (Jvm.Cond.code ({ cls := "java/util/ImmutableCollections$List12", name := "<init>", desc := "(Ljava/lang/Object;)V" } : Jvm.MethodName) jdk_44_method_1_code (2 : Nat) (Option.none : Option Jvm.ClassFile.FieldType)).before args0 about1 = true := code_word (m := ⟨23, 0⟩) (meth := k23m0) (c := k23c0) (by decide +kernel) rfl rfl rfl (by decide +kernel)
def codes1 : List Jvm.Cond := [Jvm.Cond.code x code maxLocals ret, Jvm.Cond.code ({ cls := "com/example/watchful_junction/watchfuljunction/scenario/ProportionalSpec", name := "equalShares", desc := "(II)Ljava/util/List;" } : Jvm.MethodName) prog_51_method_10_code (4 : Nat) (Option.some (Jvm.ClassFile.FieldType.object "java/util/List")), Jvm.Cond.code ({ cls := "java/lang/Integer", name := "valueOf", desc := "(I)Ljava/lang/Integer;" } : Jvm.MethodName) jdk_33_method_22_code (1 : Nat) (Option.some (Jvm.ClassFile.FieldType.object "java/lang/Integer")), Jvm.Cond.code ({ cls := "java/util/Arrays", name := "fill", desc := "([Ljava/lang/Object;Ljava/lang/Object;)V" } : Jvm.MethodName) jdk_65_method_117_code (4 : Nat) (Option.none : Option Jvm.ClassFile.FieldType), Jvm.Cond.code ({ cls := "java/lang/Integer", name := "intValue", desc := "()I" } : Jvm.MethodName) jdk_33_method_27_code (1 : Nat) (Option.some Jvm.ClassFile.FieldType.int), Jvm.Cond.code ({ cls := "java/util/List", name := "of", desc := "([Ljava/lang/Object;)Ljava/util/List;" } : Jvm.MethodName) jdk_40_method_47_code (2 : Nat) (Option.some (Jvm.ClassFile.FieldType.object "java/util/List")), Jvm.Cond.code ({ cls := "java/util/ImmutableCollections", name := "listFromArray", desc := "([Ljava/lang/Object;)Ljava/util/List;" } : Jvm.MethodName) jdk_56_method_4_code (3 : Nat) (Option.some (Jvm.ClassFile.FieldType.object "java/util/List")), Jvm.Cond.code ({ cls := "java/util/Objects", name := "requireNonNull", desc := "(Ljava/lang/Object;)Ljava/lang/Object;" } : Jvm.MethodName) jdk_31_method_10_code (1 : Nat) (Option.some (Jvm.ClassFile.FieldType.object "java/lang/Object")), Jvm.Cond.code ({ cls := "java/util/ImmutableCollections$ListN", name := "<init>", desc := "([Ljava/lang/Object;Z)V" } : Jvm.MethodName) jdk_45_method_1_code (3 : Nat) (Option.none : Option Jvm.ClassFile.FieldType), Jvm.Cond.code ({ cls := "java/util/ImmutableCollections$AbstractImmutableList", name := "<init>", desc := "()V" } : Jvm.MethodName) jdk_46_method_1_code (1 : Nat) (Option.none : Option Jvm.ClassFile.FieldType), Jvm.Cond.code ({ cls := "java/util/ImmutableCollections$AbstractImmutableCollection", name := "<init>", desc := "()V" } : Jvm.MethodName) jdk_47_method_1_code (1 : Nat) (Option.none : Option Jvm.ClassFile.FieldType), Jvm.Cond.code ({ cls := "java/util/AbstractCollection", name := "<init>", desc := "()V" } : Jvm.MethodName) jdk_22_method_1_code (1 : Nat) (Option.none : Option Jvm.ClassFile.FieldType), Jvm.Cond.code ({ cls := "java/lang/Object", name := "<init>", desc := "()V" } : Jvm.MethodName) object_method_1_code (1 : Nat) (Option.none : Option Jvm.ClassFile.FieldType), Jvm.Cond.code ({ cls := "java/util/ImmutableCollections$ListN", name := "size", desc := "()I" } : Jvm.MethodName) jdk_45_method_3_code (1 : Nat) (Option.some Jvm.ClassFile.FieldType.int), Jvm.Cond.code ({ cls := "com/example/watchful_junction/watchfuljunction/scenario/ProportionalSpecEqualSharesPinLaw", name := "at", desc := "(Ljava/util/List;II)J" } : Jvm.MethodName) method_3_code (3 : Nat) (Option.some Jvm.ClassFile.FieldType.long), Jvm.Cond.code ({ cls := "java/util/ImmutableCollections$ListN", name := "get", desc := "(I)Ljava/lang/Object;" } : Jvm.MethodName) jdk_45_method_4_code (2 : Nat) (Option.some (Jvm.ClassFile.FieldType.object "java/lang/Object")), Jvm.Cond.code ({ cls := "java/lang/Integer", name := "longValue", desc := "()J" } : Jvm.MethodName) jdk_33_method_28_code (1 : Nat) (Option.some Jvm.ClassFile.FieldType.long), Jvm.Cond.code ({ cls := "com/example/watchful_junction/watchfuljunction/scenario/ProportionalSpecEqualSharesPinLaw", name := "later", desc := "(Ljava/util/List;III)Z" } : Jvm.MethodName) method_4_code (10 : Nat) (Option.some Jvm.ClassFile.FieldType.boolean), Jvm.Cond.code ({ cls := "java/util/ImmutableCollections$List12", name := "<init>", desc := "(Ljava/lang/Object;Ljava/lang/Object;)V" } : Jvm.MethodName) jdk_44_method_2_code (3 : Nat) (Option.none : Option Jvm.ClassFile.FieldType), Jvm.Cond.code ({ cls := "java/util/ImmutableCollections$List12", name := "size", desc := "()I" } : Jvm.MethodName) jdk_44_method_3_code (1 : Nat) (Option.some Jvm.ClassFile.FieldType.int), Jvm.Cond.code ({ cls := "java/util/ImmutableCollections$List12", name := "get", desc := "(I)Ljava/lang/Object;" } : Jvm.MethodName) jdk_44_method_5_code (2 : Nat) (Option.some (Jvm.ClassFile.FieldType.object "java/lang/Object")), Jvm.Cond.code ({ cls := "java/lang/Integer", name := "<init>", desc := "(I)V" } : Jvm.MethodName) jdk_33_method_23_code (2 : Nat) (Option.none : Option Jvm.ClassFile.FieldType), Jvm.Cond.code ({ cls := "java/lang/Number", name := "<init>", desc := "()V" } : Jvm.MethodName) jdk_18_method_1_code (1 : Nat) (Option.none : Option Jvm.ClassFile.FieldType), Jvm.Cond.code ({ cls := "java/util/ImmutableCollections$List12", name := "<init>", desc := "(Ljava/lang/Object;)V" } : Jvm.MethodName) jdk_44_method_1_code (2 : Nat) (Option.none : Option Jvm.ClassFile.FieldType)]
set_option maxRecDepth 65536 in
theorem codes_eq : words1.filter isCode = codes1 := rfl
theorem w_codes : ∀ c ∈ words1.filter isCode, c.before args0 about1 = true := by
  rw [codes_eq]
  intro c hc
  simp only [codes1, List.mem_cons, List.not_mem_nil, or_false] at hc
  rcases hc with rfl | rfl | rfl | rfl | rfl | rfl | rfl | rfl | rfl | rfl | rfl | rfl | rfl | rfl | rfl | rfl | rfl | rfl | rfl | rfl | rfl | rfl | rfl | rfl
  · exact w_c0
  · exact w_c1
  · exact w_c2
  · exact w_c3
  · exact w_c4
  · exact w_c5
  · exact w_c6
  · exact w_c7
  · exact w_c8
  · exact w_c9
  · exact w_c10
  · exact w_c11
  · exact w_c12
  · exact w_c13
  · exact w_c14
  · exact w_c15
  · exact w_c16
  · exact w_c17
  · exact w_c18
  · exact w_c19
  · exact w_c20
  · exact w_c21
  · exact w_c22
  · exact w_c23
set_option maxRecDepth 65536 in
theorem w_t1 : (words1.take 24).all (fun c => isCode c || c.before args0 about1) = true := by decide +kernel
set_option maxRecDepth 65536 in
theorem w_t2 : ((words1.drop 24).take 24).all (fun c => isCode c || c.before args0 about1) = true := by decide +kernel
set_option maxRecDepth 65536 in
theorem w_t3 : (((words1.drop 24).drop 24).take 24).all (fun c => isCode c || c.before args0 about1) = true := by decide +kernel
set_option maxRecDepth 65536 in
theorem w_t4 : ((((words1.drop 24).drop 24).drop 24).take 24).all (fun c => isCode c || c.before args0 about1) = true := by decide +kernel
set_option maxRecDepth 65536 in
theorem w_t5 : (((((words1.drop 24).drop 24).drop 24).drop 24).take 24).all (fun c => isCode c || c.before args0 about1) = true := by decide +kernel
set_option maxRecDepth 65536 in
theorem w_t6 : ((((((words1.drop 24).drop 24).drop 24).drop 24).drop 24).take 24).all (fun c => isCode c || c.before args0 about1) = true := by decide +kernel
set_option maxRecDepth 65536 in
theorem w_t7 : ((((((words1.drop 24).drop 24).drop 24).drop 24).drop 24).drop 24).all (fun c => isCode c || c.before args0 about1) = true := by decide +kernel
theorem w_tables : (allAtoms (Jvm.Cond.code x code maxLocals ret :: tables_1)).before args0 about1 = true := by
  rw [allAtoms_all]
  show words1.all (fun c => c.before args0 about1) = true
  refine all_split ?_ w_codes
  rw [← List.take_append_drop 24 words1, List.all_append, w_t1, ← List.take_append_drop 24 (words1.drop 24), List.all_append, w_t2, ← List.take_append_drop 24 ((words1.drop 24).drop 24), List.all_append, w_t3, ← List.take_append_drop 24 (((words1.drop 24).drop 24).drop 24), List.all_append, w_t4, ← List.take_append_drop 24 ((((words1.drop 24).drop 24).drop 24).drop 24), List.all_append, w_t5, ← List.take_append_drop 24 (((((words1.drop 24).drop 24).drop 24).drop 24).drop 24), List.all_append, w_t6, w_t7]
  rfl
set_option maxRecDepth 65536 in
theorem w_rest : rest_1_c.before args0 about1 = true := by decide +kernel
set_option maxRecDepth 65536 in
theorem w_case : (Jvm.Cond.and given_1 narrow_1).before args0 about1 = true := by decide +kernel
theorem w_applies : (headSpec (Jvm.Cond.code x code maxLocals ret :: tables_1) room_1).applies x e0.platform about1 = true :=
  (Spec.applies_iff w_frames).mpr ⟨w_running, w_runnable, w_alone, w_named, w_hears, w_ripe, w_room, w_tables⟩
theorem atStart : AtStart classFile x code maxLocals ret World_1 tables_1 room_1 Calls_1 rest_1 Pre_1 launch0 p0 e0 about1 theMethod args0 below0 :=
  ⟨lists_1, trivial, launch0.admits_env _ _ _, launch0.least_env, fairChoices_fair.cas, fairChoices_fair.clock, w_frames, w_args, w_heap, w_applies, trivial, w_rest, w_case⟩
end start1
theorem witness_1 : WitnessClaimed_1 := ⟨start1.p0, start1.e0, start1.about1, start1.theMethod, start1.args0, start1.below0, start1.atStart⟩
end Jvm.Pilot.@@N@@
