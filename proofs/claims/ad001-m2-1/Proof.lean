import JvmDerived
import JvmDerived.Pilot.@@N@@Statement
import JvmDerived.Pilot.@@N@@Code
set_option linter.unusedVariables false
set_option linter.unusedSimpArgs false
namespace Jvm.RoadKit
open Sem ClassFile Op Lib Jvm.Stand Jvm.Free Jvm.LawKit
section New
variable {p : Program} {l : Launch} {e : Env} {R : Room} {s : State} {m : MethodId} {args : Array Value} {below : List Frame} {meth : Method} {c : Code} {T : State} {locs : List Loc} {cells slots : Nat}
theorem retI (X : Stand p l e R s m args below meth c T locs cells slots) (hx : p.tables.exec = Jvm.exec) {pc : Nat} {Ls : Array Slot} {z : Int32} {rest : List Value} (hret : meth.sig.returnType = some .int) (hd : decode c.code pc = .ok (.ireturn, 1)) {fs : List Frame}
    (hl : ∀ (f : JFrame) (acts : List Action), f.method = m → f.locked = none → f.entered = [] → (doReturn e (T.setTop f) acts (some (.int z))).1 = T.setFrames fs) : Steps p.tables e below (T.setTop (mkF m pc Ls (.int z :: rest))) (T.setFrames fs) :=
  retOut X hx hret rfl (Or.inl ⟨rfl, Or.inl rfl, z, rfl⟩) hd hl
end New
end Jvm.RoadKit
namespace Jvm.Pilot.@@N@@
open Jvm Jvm.ClassFile Sem Op Lib Jvm.Free Jvm.Stand Jvm.LawKit Jvm.RoadKit Bundle Jvm.Pilot.@@N@@.Jvm.D
section Own
variable {Z : State} {h h' : Heap} {a : Addr} {C n d : String} {v : Value} {ws : List Addr}
theorem ow {a0 : Array Value} (hw : ∀ d ∈ tables_1, d.before a0 Z = true) {d : Jvm.Cond} (i : Nat) (h : tables_1[i]? = some d) : d.before a0 Z = true := hw _ (List.mem_of_getElem? h)
abbrev oS (p : Program) (e : Env) (below : List Frame) (T : State) (m : MethodId) (pc : Nat) (Ls : Array Slot) (st : List Value) (t : State) : Prop := Steps p.tables e below (T.setTop (mkF m pc Ls st)) t
theorem own_hide {p : Program} {l : Launch} {e : Env} {R : Room} {s : State} {m : MethodId} {args : Array Value} {below : List Frame} {meth : Method} {c : Code} {T : State} {locs : List Loc} {cells slots k : Nat} (X : Stand p l e R s m args below meth c T locs cells slots) (N : Fr k locs) : ∃ L, Stand p l e R s m args below meth c T L cells slots ∧ Fr k L := ⟨_, X, N⟩
def own_Plain (h : Heap) (a : Addr) : Prop := ∀ cell : Cell, h[a]? = some cell → cell.vm.isStatics = false
theorem own_plain_E (F : Exa Z h a C) : own_Plain h a := fun cell hc => by
  obtain ⟨c1, _, h1, -, -, h4, -⟩ := F
  cases hc.symm.trans h1; exact h4
theorem own_plain_F (F : Fld Z h a C n d v) : own_Plain h a := fun cell hc => by
  obtain ⟨c1, _, _, _, _, h1, -, -, -, h4, -⟩ := F
  cases hc.symm.trans h1; exact h4
theorem own_plain_V {k : ClassId} {ty : FieldType} {z : Int32} {vs : List Value} {dv : Value} (F : Arv Z h a k ty z vs dv) : own_Plain h a := fun cell hc => by
  obtain ⟨c1, A, -⟩ := F
  cases hc.symm.trans A.1; exact A.plain
theorem own_sta_keep (F : Sta Z h C n d v) (K : Keep h h' ws) (q : ∀ x ∈ ws, own_Plain h x) : Sta Z h' C n d v := by
  obtain ⟨cf, i, k, f, st, cell, h1, h2, h3, h4, h5, h6, h7⟩ := F
  exact ⟨cf, i, k, f, st, cell, h1, h2, h3, h4, K.2.1 _ _ h5 (fun hm => by rw [q _ hm _ h5] at h6; cases h6), h6, h7⟩
theorem own_ne_EV {a0 : Array Value} {j : Nat} {b : Addr} {k : ClassId} {ty : FieldType} {z : Int32} {vs : List Value} {dv : Value} (F : Exa Z h a C) (wi : (Jvm.Cond.instantiable C j).before a0 Z = true) (G : Arv Z h b k ty z vs dv) : a ≠ b := by
  obtain ⟨c, A, -⟩ := G
  exact ne_arr F wi A
theorem own_mvM {s : State} {a0 args : Array Value} {own host : String} {y : MethodName} {index : Nat} (hZ : Z.Warmed39 s.vm) (w : (Jvm.Cond.methodLinkNest own index y host).before a0 Z = true) : (Jvm.Cond.methodLinkNest own index y host).before args s = true := (Cond.methodLinkNest_wide hZ w :)
theorem own_arr_keep {c : Cell} {ty : FieldType} (F : Arr Z h a c ty) (K : Keep h h' ws) (q : a ∉ ws) : Arr Z h' a c ty := ⟨K.2.1 _ _ F.1 q, F.2⟩
theorem own_ins_keep {b : Bool} (F : Ins Z h a C b) (K : Keep h h' ws) : Ins Z h' a C b := by
  obtain ⟨cell, cT, h1, h2, h3⟩ := F
  obtain ⟨c', e1, e2, e3, -⟩ := K.2.2 _ _ h1
  exact ⟨c', cT, e1, h2, by rw [e2, e3]; exact h3⟩
end Own
abbrev yN0 : MethodName := ⟨"java/lang/Number", "<init>", "()V"⟩
abbrev yN1 : MethodName := ⟨"java/lang/Integer", "<init>", "(I)V"⟩
abbrev yN2 : MethodName := ⟨"java/lang/Integer", "valueOf", "(I)Ljava/lang/Integer;"⟩
abbrev yN3 : MethodName := ⟨"java/util/List", "of", "()Ljava/util/List;"⟩
abbrev yN4 : MethodName := ⟨"com/example/willenhall/willenhall/api/ResponseEnvelope", "<init>", "(Ljava/lang/Object;Ljava/util/List;IZ)V"⟩
abbrev yN5 : MethodName := ⟨"com/example/willenhall/willenhall/api/ResponseEnvelope", "success", "(ILjava/lang/Object;)Lcom/example/willenhall/willenhall/api/ResponseEnvelope;"⟩
abbrev yN6 : MethodName := ⟨"com/example/willenhall/willenhall/api/ResponseEnvelope", "getResult", "()Ljava/lang/Object;"⟩
abbrev yN7 : MethodName := ⟨"com/example/willenhall/willenhall/api/ResponseEnvelope", "getStatusCode", "()I"⟩
abbrev yN8 : MethodName := ⟨"com/example/willenhall/willenhall/api/ResponseEnvelope", "isSuccess", "()Z"⟩
abbrev yN9 : MethodName := ⟨"com/example/willenhall/willenhall/api/ResponseEnvelope", "getErrorMessages", "()Ljava/util/List;"⟩
abbrev yN10 : MethodName := ⟨"java/util/ImmutableCollections$ListN", "size", "()I"⟩
abbrev yN11 : MethodName := ⟨"java/util/List", "size", "()I"⟩
theorem own_mod (x y : Int32) (k : Int) (hy : y.toInt = k) (hk : 0 < k) : 0 ≤ ((x &&& (2147483647 : Int32)) % y).toInt ∧ ((x &&& (2147483647 : Int32)) % y).toInt < k := by
  have h1 := c_mask x (2147483647 : Int32) 31 (by decide) (by decide)
  have h2 : 0 ≤ (x &&& (2147483647 : Int32)).toInt := by rw [h1]; omega
  have h3 := (c_irem (x &&& (2147483647 : Int32)) y k hy).1 h2
  rw [h3]
  exact ⟨Int.emod_nonneg _ (by omega), Int.emod_lt_of_pos _ hk⟩
theorem own_mask (x m : Int32) (k : Nat) (hk : k ≤ 31) (hm : m.toBitVec.toNat = 2 ^ k - 1) : 0 ≤ (x &&& m).toInt ∧ (x &&& m).toInt < (2 ^ k : Nat) := by
  rw [c_mask x m k hk hm]
  exact ⟨Int.emod_nonneg _ (by have := Nat.two_pow_pos k; omega), Int.emod_lt_of_pos _ (by have := Nat.two_pow_pos k; omega)⟩
theorem own_cache {s : State} {args : Array Value} {C n d : String} (h4 : (Jvm.Cond.arrayOf (.static C n d) (.object "java/lang/Integer")).before args s = true) (h6 : (Jvm.Cond.eq (.length (.static C n d)) (.int 256)).before args s = true)
    (h7 : (Jvm.Cond.all (.static C n d) (.and (.exactly (.elem (.static C n d) (.index 0)) "java/lang/Integer") (.eq (.field (.elem (.static C n d) (.index 0)) "java/lang/Integer" "value" "I") (.sub (.index 0) (.int 128))))).before args s = true) :
    ∃ a c, (Term.static C n d).eval args s none [] s = some (.ref a) ∧ Bxs s a c "java/lang/Integer" "I" (256 : Int32) (fun j => .int (j - 128)) := by
  obtain ⟨a, ev⟩ := arr_v (Cond.before_iff.mp h4)
  obtain ⟨c, A⟩ := Arr.start ev (Cond.before_iff.mp h4)
  have hl := Cond.eq_int h6 rfl
  obtain ⟨b, cell, e1, e2, e4⟩ := Term.length_spec hl
  have e3 := SBG.length_lt e1 e2 hl
  cases ev.symm.trans e1
  cases (A.fin (Vm.Alike.refl _)).symm.trans e2
  refine ⟨a, c, ev, Bxs.start (F := .sub (.index 0) (.int 128)) (fun idx => by simpa [Term.eval] using ev) A e3 (Value.int.inj e4).symm (by decide) (Cond.before_iff.mp h7) fun X j nn h => eqv_i ?_ h⟩
  simp [Term.eval, (back32 nn).1]
theorem own_cache_at {x : Int32} {c : Cell} (hs : c.slots.size = (256 : Int32).toNatClampNeg) (h1 : ¬ x < (-128 : Int32)) (h2 : ¬ (127 : Int32) < x) : ¬ (x + (128 : Int32) < 0 ∨ c.slots.size ≤ (x + (128 : Int32)).toNatClampNeg) := by
  rw [hs]
  have e : (x + (128 : Int32)).toInt = x.toInt + 128 := by
    have := c_iadd x (128 : Int32)
    have r := rng32 (x + (128 : Int32))
    rw [Int32.lt_iff_toInt_lt] at h1 h2
    have a1 : ((-128 : Int32)).toInt = -128 := by decide
    have a2 : ((127 : Int32)).toInt = 127 := by decide
    have a3 : ((128 : Int32)).toInt = 128 := by decide
    omega
  rw [Int32.lt_iff_toInt_lt] at h1 h2 ⊢
  have a1 : ((-128 : Int32)).toInt = -128 := by decide
  have a2 : ((127 : Int32)).toInt = 127 := by decide
  have a3 : ((0 : Int32)).toInt = 0 := by decide
  have a4 : ((256 : Int32)).toNatClampNeg = 256 := by decide
  have a5 : (x + (128 : Int32)).toNatClampNeg = (x + (128 : Int32)).toInt.toNat := rfl
  omega
theorem own_status (x : Int32) : ¬ ((200 : Int32) + ((x &&& (2147483647 : Int32)) % (100 : Int32)) < (200 : Int32)) ∧ ¬ ((299 : Int32) < (200 : Int32) + ((x &&& (2147483647 : Int32)) % (100 : Int32))) := by
  have h := own_mod x (100 : Int32) 100 (by decide) (by decide)
  have e := c_iadd (200 : Int32) ((x &&& (2147483647 : Int32)) % (100 : Int32))
  have r := rng32 ((200 : Int32) + ((x &&& (2147483647 : Int32)) % (100 : Int32)))
  rw [Int32.lt_iff_toInt_lt, Int32.lt_iff_toInt_lt]
  have a1 : ((200 : Int32)).toInt = 200 := by decide
  have a2 : ((299 : Int32)).toInt = 299 := by decide
  omega
theorem own_empty {s : State} {args : Array Value} {t : Term} {ty : FieldType} {a : Addr} (hf : Fit s) (ev : t.eval args s none [] s = some (.ref a)) (h1 : (Jvm.Cond.arrayOf t ty).before args s = true) (h2 : (Jvm.Cond.eq (.length t) (.int 0)).before args s = true) (dv : Value) :
    ∃ k, Arv s s.heap a k ty (0 : Int32) [] dv := by
  obtain ⟨c, A⟩ := Arr.start ev (Cond.before_iff.mp h1)
  have hl := Cond.eq_int h2 rfl
  obtain ⟨b, cell, e1, e2, e4⟩ := Term.length_spec hl
  have e3 := SBG.length_lt e1 e2 hl
  cases ev.symm.trans e1
  cases (A.fin (Vm.Alike.refl _)).symm.trans e2
  exact ⟨c.cls, Arv.start hf A e3 (Value.int.inj e4).symm (by decide) rfl trivial⟩
theorem d12_0 : decode jdk_18_method_1_code 0 = .ok (.aload_n 0, 1) := by decide +kernel
theorem d12_1 : decode jdk_18_method_1_code 1 = .ok (.invokespecial 1, 3) := by decide +kernel
theorem d12_4 : decode jdk_18_method_1_code 4 = .ok (.return_, 1) := by decide +kernel
theorem pn_0 : plainName "java/lang/Number" = true := by first | (simp [plainName, overriddenIn]; done) | decide +kernel
theorem ef_numI (m : MethodId) (pR1 : Addr) : entryFrame m #[(.ref pR1)] 1 = mkF m 0 #[.val (.ref pR1)] [] := by first | (simp [entryFrame, mkF, argsToLocals, Value.category]; done) | rfl
def QnumI (Z : State) (pR1 : Addr) (h0 : Heap) (n0 : Nat) (v : Option Value) (h : Heap) (L : List Loc) : Prop := v = none ∧ Fr n0 L ∧ h = h0
set_option maxRecDepth 65536 in
set_option maxHeartbeats 40000000 in
theorem numI (l : Launch) (Z : State) (a0 : Array Value) (hw : ∀ d ∈ tables_1, d.before a0 Z = true) (ws : List Jvm.Cond) (pR1 : Addr) (h0 : Heap) (n0 : Nat) (Z0 : n0 ≤ h0.size) :
    MetFree l yN0 (head1 (Jvm.Cond.code yN0 jdk_18_method_1_code 1 none :: ws) ({ frames := 1, cells := 0, slots := 0, locals := 12 } : Room)) (fun a U => a = #[(.ref pR1)] ∧ Z.Warmed39 U.vm ∧ U.heap = h0) (fun _ _ _ _ _ => True) (fun _ U o U' => ∃ v L, o = .returned v ∧ QnumI Z pR1 h0 n0 v U'.heap L ∧ FrameEnd U o U' L ({ frames := 1, cells := 0, slots := 0, locals := 12 } : Room).cells ({ frames := 1, cells := 0, slots := 0, locals := 12 } : Room).slots) := by
  refine MetFree.of_bodySF (plainFor_of_name pn_0) hisR ?_
  intro p e s m args below meth c s₁ Bd hml0 hP hK
  obtain ⟨rfl, hZ, hh⟩ := hP
  have hx := Bd.exec
  have hby := Bd.bytes
  have hml : c.maxLocals = 1 := hml0
  have hown : s.vm.findClass "java/lang/Number" = some m.cls := findClass_of_methodNamed Bd.named
  have hnm := (name_of_methodNamed Bd.named Bd.method).1
  have X0 : Stand p l e ({ frames := 1, cells := 0, slots := 0, locals := 12 } : Room) s m #[(.ref pR1)] below meth c s₁ [] 0 0 := Stand.of_body Bd
  have e0 : s₁.heap = h0 := by rw [← hh, Bd.state]; rfl
  have N0 := Fr.nil n0
  have pre0 : ∀ t, Steps p.tables e below (s₁.setTop (mkF m 0 #[.val (.ref pR1)] [])) t → Steps p.tables e below (s₁.setTop (entryFrame m #[(.ref pR1)] 1)) t := fun t k => castTop (ef_numI m pR1) k
  obtain ⟨T2, X2, e2, st2⟩ := initO X0 hx hZ hown (ow hw 78 rfl) (ow hw 24 rfl) (ow hw 25 rfl) e0 (g := (mkF m 1 #[.val (.ref pR1)] [(.ref pR1)])) rfl (by rw [hml]; rfl) rfl (hb hby d12_1) (by decide) (W := 0) (by show 2 * 0 + _ ≤ _; exact Nat.le_of_eq rfl) (by decide)
  obtain ⟨fs, hr, hrun, hended, hW, hsame⟩ := X2.leave (v := none) (fun _ => rfl)
  refine ⟨_, _, pre0 _ ?_, hrun, hended, _, _, rfl, ?_, ⟨_, rfl⟩, hW, hsame.mono (by decide) (by decide)⟩
  · show oS p e below s₁ m 0 #[.val (.ref pR1)] [] _
    refine XS.aloadN X0.here hx rfl (hb hby d12_0) rfl rfl ?_
    refine st2 _ ?_
    exact X2.returnOut hx Bd.returns (hb hby d12_4) hr
  · show QnumI Z pR1 h0 n0 _ T2.heap _
    rw [e2]
    exact ⟨rfl, N0, rfl⟩
theorem d11_0 : decode jdk_33_method_23_code 0 = .ok (.aload_n 0, 1) := by decide +kernel
theorem d11_1 : decode jdk_33_method_23_code 1 = .ok (.invokespecial 202, 3) := by decide +kernel
theorem pd_0 : parseMethodDescriptor "()V" = some ⟨[], none⟩ := by decide +kernel
theorem d11_4 : decode jdk_33_method_23_code 4 = .ok (.aload_n 0, 1) := by decide +kernel
theorem d11_5 : decode jdk_33_method_23_code 5 = .ok (.iload_n 1, 1) := by decide +kernel
theorem d11_6 : decode jdk_33_method_23_code 6 = .ok (.putfield 205, 3) := by decide +kernel
theorem d11_9 : decode jdk_33_method_23_code 9 = .ok (.return_, 1) := by decide +kernel
theorem pn_1 : plainName "java/lang/Integer" = true := by first | (simp [plainName, overriddenIn]; done) | decide +kernel
theorem ef_intI (m : MethodId) (pR1 : Addr) (pI2 : Int32) : entryFrame m #[(.ref pR1), (.int pI2)] 2 = mkF m 0 #[.val (.ref pR1), .val (.int pI2)] [] := by first | (simp [entryFrame, mkF, argsToLocals, Value.category]; done) | rfl
def QintI (Z : State) (pR1 : Addr) (pI2 : Int32) (h0 : Heap) (n0 : Nat) (v : Option Value) (h : Heap) (L : List Loc) : Prop := v = none ∧ Fr n0 L ∧ Keep h0 h [pR1] ∧ Exa Z h pR1 "java/lang/Integer" ∧ Fld Z h pR1 "java/lang/Integer" "value" "I" (.int pI2)
set_option maxRecDepth 65536 in
set_option maxHeartbeats 40000000 in
theorem intI (l : Launch) (Z : State) (a0 : Array Value) (hw : ∀ d ∈ tables_1, d.before a0 Z = true) (ws : List Jvm.Cond) (pR1 : Addr) (pI2 : Int32) (h0 : Heap) (n0 : Nat) (Z0 : n0 ≤ h0.size) (E_pR1 : Exa Z h0 pR1 "java/lang/Integer") (F_value_pR1 : Fld Z h0 pR1 "java/lang/Integer" "value" "I" (.int (0 : Int32))) (g_pR1 : n0 ≤ pR1) :
    MetFree l yN1 (head1 (Jvm.Cond.code yN1 jdk_33_method_23_code 2 none :: ws) ({ frames := 2, cells := 0, slots := 0, locals := 24 } : Room)) (fun a U => a = #[(.ref pR1), (.int pI2)] ∧ Z.Warmed39 U.vm ∧ U.heap = h0) (fun _ _ _ _ _ => True) (fun _ U o U' => ∃ v L, o = .returned v ∧ QintI Z pR1 pI2 h0 n0 v U'.heap L ∧ FrameEnd U o U' L ({ frames := 2, cells := 0, slots := 0, locals := 24 } : Room).cells ({ frames := 2, cells := 0, slots := 0, locals := 24 } : Room).slots) := by
  refine MetFree.of_bodySF (plainFor_of_name pn_1) hisR ?_
  intro p e s m args below meth c s₁ Bd hml0 hP hK
  obtain ⟨rfl, hZ, hh⟩ := hP
  have hx := Bd.exec
  have hby := Bd.bytes
  have hml : c.maxLocals = 2 := hml0
  have hown : s.vm.findClass "java/lang/Integer" = some m.cls := findClass_of_methodNamed Bd.named
  have hnm := (name_of_methodNamed Bd.named Bd.method).1
  have X0 : Stand p l e ({ frames := 2, cells := 0, slots := 0, locals := 24 } : Room) s m #[(.ref pR1), (.int pI2)] below meth c s₁ [] 0 0 := Stand.of_body Bd
  have e0 : s₁.heap = h0 := by rw [← hh, Bd.state]; rfl
  have N0 := Fr.nil n0
  have pre0 : ∀ t, Steps p.tables e below (s₁.setTop (mkF m 0 #[.val (.ref pR1), .val (.int pI2)] [])) t → Steps p.tables e below (s₁.setTop (entryFrame m #[(.ref pR1), (.int pI2)] 2)) t := fun t k => castTop (ef_intI m pR1 pI2) k
  obtain ⟨_, _, ⟨T3, L3, k3, n3⟩, -, X3, ⟨Lc3, hQ3, l3, y3, z3⟩, st3⟩ := X0.specialBack hx (y := yN0) rfl hown (mvT hZ (ow hw 72 rfl)) (mvT hZ (ow hw 73 rfl)) (mvT hZ (ow hw 77 rfl)) (by decide) (backOf (W := 0) (numI l Z a0 hw [] pR1 h0 n0 Z0 ) hZ (ow hw 77 rfl) (ow hw 76 rfl) (by decide) (by decide)) (g := (mkF m 1 #[.val (.ref pR1), .val (.int pI2)] [(.ref pR1)])) rfl (by rw [hml]; rfl) (Steps.refl _) (a := pR1) (argsL := []) (rest := []) (lenOf pd_0 rfl) rfl (by show 2 * 0 + _ ≤ _; exact Nat.le_of_eq rfl) (hb hby d11_1) (fun _ _ => ⟨rfl, e0, (by decide : 0 + 0 ≤ _), (by decide : 0 + 0 ≤ _)⟩)
  dsimp only [Pt.U, Pt.locs, Pt.cells, Pt.slots] at X3 l3 y3 z3 st3 hQ3
  subst l3 y3 z3
  obtain ⟨rfl, Nq3, e3⟩ := hQ3
  have N3 := Fr.app N0 Nq3
  obtain ⟨T4, h4, X4, e4, W4, st4⟩ := putF X3 hx hZ hown (host := "") (Or.inl (ow hw 79 rfl)) Via.refl e3 F_value_pR1 E_pR1 (Or.inr ⟨(ow hw 80 rfl), rfl, hnm⟩) (ow hw 67 rfl) (ty := .int) (by decide) rfl rfl (g := (mkF m 6 #[.val (.ref pR1), .val (.int pI2)] [(.int pI2), (.ref pR1)])) rfl rfl (hb hby d11_6)
  have K5 : Keep h0 h4 [pR1] := (Keep.refl h0 [pR1]).wr W4 (Or.inl (List.mem_of_getElem? (i := 0) rfl))
  have Z6 : n0 ≤ h4.size := (Nat.le_trans Z0 (Keep.of_wr W4).1)
  have N4 := Fr.snoc X4 N3 g_pR1
  obtain ⟨Lh4, X4, N4⟩ := own_hide X4 N4
  have F4 : Fld Z h4 pR1 "java/lang/Integer" "value" "I" (.int pI2) := Fld.same W4 F_value_pR1
  have c7 : Exa Z h4 pR1 "java/lang/Integer" := E_pR1.wr W4
  obtain ⟨fs, hr, hrun, hended, hW, hsame⟩ := X4.leave (v := none) (fun _ => rfl)
  refine ⟨_, _, pre0 _ ?_, hrun, hended, _, _, rfl, ?_, ⟨_, rfl⟩, hW, hsame.mono (by decide) (by decide)⟩
  · show oS p e below s₁ m 0 #[.val (.ref pR1), .val (.int pI2)] [] _
    refine XS.aloadN X0.here hx rfl (hb hby d11_0) rfl rfl ?_
    refine st3.trans ?_
    refine XS.aloadN X3.here hx rfl (hb hby d11_4) rfl rfl ?_
    refine XS.iloadN X3.here hx rfl (hb hby d11_5) rfl ?_
    show oS p e below T3 m 6 #[.val (.ref pR1), .val (.int pI2)] [(.int pI2), (.ref pR1)] _
    refine st4 _ ?_
    exact X4.returnOut hx Bd.returns (hb hby d11_9) hr
  · show QintI Z pR1 pI2 h0 n0 _ T4.heap _
    rw [e4]
    exact ⟨rfl, N4, K5, c7, F4⟩
theorem d1_0 : decode jdk_33_method_22_code 0 = .ok (.iload_n 0, 1) := by decide +kernel
theorem d1_1 : decode jdk_33_method_22_code 1 = .ok (.bipush (-128), 2) := by decide +kernel
theorem d1_3 : decode jdk_33_method_22_code 3 = .ok (.if_icmp .lt 20, 3) := by decide +kernel
theorem d1_23 : decode jdk_33_method_22_code 23 = .ok (.new 1, 3) := by decide +kernel
theorem d1_26 : decode jdk_33_method_22_code 26 = .ok (.dup, 1) := by decide +kernel
theorem d1_27 : decode jdk_33_method_22_code 27 = .ok (.iload_n 0, 1) := by decide +kernel
theorem d1_28 : decode jdk_33_method_22_code 28 = .ok (.invokespecial 199, 3) := by decide +kernel
theorem pd_1 : parseMethodDescriptor "(I)V" = some ⟨[.int], none⟩ := by decide +kernel
theorem d1_31 : decode jdk_33_method_22_code 31 = .ok (.areturn, 1) := by decide +kernel
theorem ef_voL (m : MethodId) (pI1 : Int32) : entryFrame m #[(.int pI1)] 1 = mkF m 0 #[.val (.int pI1)] [] := by first | (simp [entryFrame, mkF, argsToLocals, Value.category]; done) | rfl
def QvoL (Z : State) (pI1 : Int32) (h0 : Heap) (n0 : Nat) (v : Option Value) (h : Heap) (L : List Loc) : Prop := ∃ bR2 : Addr, v = some (.ref bR2) ∧ Fr n0 L ∧ Keep h0 h [] ∧ h0.size ≤ bR2 ∧ Exa Z h bR2 "java/lang/Integer" ∧ Fld Z h bR2 "java/lang/Integer" "value" "I" (.int pI1)
set_option maxRecDepth 65536 in
set_option maxHeartbeats 40000000 in
theorem voL (l : Launch) (Z : State) (a0 : Array Value) (hw : ∀ d ∈ tables_1, d.before a0 Z = true) (ws : List Jvm.Cond) (pI1 : Int32) (h0 : Heap) (n0 : Nat) (Z0 : n0 ≤ h0.size) (hc3 : pI1 < (-128 : Int32)) :
    MetFree l yN2 (head1 (Jvm.Cond.code yN2 jdk_33_method_22_code 1 (some (.object "java/lang/Integer")) :: ws) ({ frames := 3, cells := 1, slots := 1, locals := 38 } : Room)) (fun a U => a = #[(.int pI1)] ∧ Z.Warmed39 U.vm ∧ U.heap = h0) (fun _ _ _ _ _ => True) (fun _ U o U' => ∃ v L, o = .returned v ∧ QvoL Z pI1 h0 n0 v U'.heap L ∧ FrameEnd U o U' L ({ frames := 3, cells := 1, slots := 1, locals := 38 } : Room).cells ({ frames := 3, cells := 1, slots := 1, locals := 38 } : Room).slots) := by
  refine MetFree.of_bodySF (plainFor_of_name pn_1) hisR ?_
  intro p e s m args below meth c s₁ Bd hml0 hP hK
  obtain ⟨rfl, hZ, hh⟩ := hP
  have hx := Bd.exec
  have hby := Bd.bytes
  have hml : c.maxLocals = 1 := hml0
  have hown : s.vm.findClass "java/lang/Integer" = some m.cls := findClass_of_methodNamed Bd.named
  have hnm := (name_of_methodNamed Bd.named Bd.method).1
  have X0 : Stand p l e ({ frames := 3, cells := 1, slots := 1, locals := 38 } : Room) s m #[(.int pI1)] below meth c s₁ [] 0 0 := Stand.of_body Bd
  have e0 : s₁.heap = h0 := by rw [← hh, Bd.state]; rfl
  have N0 := Fr.nil n0
  have pre0 : ∀ t, Steps p.tables e below (s₁.setTop (mkF m 0 #[.val (.int pI1)] [])) t → Steps p.tables e below (s₁.setTop (entryFrame m #[(.int pI1)] 1)) t := fun t k => castTop (ef_voL m pI1) k
  obtain ⟨T2, h2, X2, e2, E2, A2, D2, U2, st2⟩ := newO X0 hx hZ hown (ow hw 66 rfl) (ow hw 67 rfl) (ow hw 3 rfl) e0 (g := (mkF m 23 #[.val (.int pI1)] [])) rfl (hb hby d1_23) (by decide) (by decide)
  obtain ⟨bR2, g2⟩ : ∃ z, z = h0.size := ⟨_, rfl⟩
  rw [← g2] at A2 D2 U2 st2
  have K3 : Keep h0 h2 [] := (Keep.refl h0 []).ext E2
  have Z4 : n0 ≤ h2.size := (Nat.le_trans Z0 E2.1)
  have F5 : Fld Z h2 bR2 "java/lang/Integer" "value" "I" (.int (0 : Int32)) := D2 (Or.inr (ow hw 80 rfl)) (ty := .int) (by decide)
  have g6 : n0 ≤ bR2 := Nat.le_trans Z0 (Nat.le_of_eq g2.symm)
  obtain ⟨_, _, ⟨T7, L7, k7, n7⟩, -, X7, ⟨Lc7, hQ7, l7, y7, z7⟩, st7⟩ := X2.specialBack hx (y := yN1) rfl hown (mvT hZ (ow hw 68 rfl)) (mvT hZ (ow hw 69 rfl)) (mvT hZ (ow hw 71 rfl)) (by decide) (backOf (W := 1) (intI l Z a0 hw [] bR2 pI1 h2 n0 Z4 A2 F5 g6) hZ (ow hw 71 rfl) (ow hw 3 rfl) (by decide) (by decide)) (g := (mkF m 28 #[.val (.int pI1)] [(.int pI1), (.ref bR2), (.ref bR2)])) rfl (by rw [hml]; rfl) (Steps.refl _) (a := bR2) (argsL := [(.int pI1)]) (rest := [(.ref bR2)]) (lenOf pd_1 rfl) rfl (by show 2 * 0 + _ ≤ _; exact Nat.le_of_eq rfl) (hb hby d1_28) (fun _ _ => ⟨rfl, e2, (by decide : 1 + 0 ≤ _), (by decide : 1 + 0 ≤ _)⟩)
  dsimp only [Pt.U, Pt.locs, Pt.cells, Pt.slots] at X7 l7 y7 z7 st7 hQ7
  subst l7 y7 z7
  obtain ⟨rfl, Nq7, Kq7, x7_0, x7_1⟩ := hQ7
  have N7 := Fr.app N0 Nq7
  obtain ⟨Lh7, X7, N7⟩ := own_hide X7 N7
  have K8 : Keep h0 T7.heap [] := K3.trans Kq7 (allS (Or.inr (Nat.le_of_eq g2.symm)) all0)
  have Z9 : n0 ≤ T7.heap.size := (Nat.le_trans Z4 Kq7.1)
  obtain ⟨fs, hr, hrun, hended, hW, hsame⟩ := X7.leave (v := some (.ref bR2)) (fun h => by rw [Bd.returns] at h; cases h)
  refine ⟨_, _, pre0 _ ?_, hrun, hended, _, _, rfl, ?_, ⟨_, rfl⟩, hW, hsame.mono (by decide) (by decide)⟩
  · show oS p e below s₁ m 0 #[.val (.int pI1)] [] _
    refine XS.iloadN X0.here hx rfl (hb hby d1_0) rfl ?_
    refine XS.bipush X0.here hx rfl (hb hby d1_1) ?_
    refine XS.icmpYes X0.here hx rfl (pc0 := 3) (pc' := 23) rfl (hb hby d1_3) rfl (tlt hc3).1 (by decide) (by decide) ?_
    refine st2 _ ?_
    show oS p e below T2 m 26 #[.val (.int pI1)] [(.ref bR2)] _
    refine XS.dup X2.here hx rfl (hb hby d1_26) rfl rfl ?_
    refine XS.iloadN X2.here hx rfl (hb hby d1_27) rfl ?_
    refine st7.trans ?_
    exact retOut X7 hx Bd.returns rfl (Or.inr (Or.inr (Or.inr (Or.inr ⟨rfl, rfl, rfl⟩)))) (hb hby d1_31) hr
  · show QvoL Z pI1 h0 n0 _ T7.heap _
    exact ⟨bR2, rfl, N7, K8, (Nat.le_of_eq g2.symm), x7_0, x7_1⟩
theorem d1_6 : decode jdk_33_method_22_code 6 = .ok (.iload_n 0, 1) := by decide +kernel
theorem d1_7 : decode jdk_33_method_22_code 7 = .ok (.getstatic 191, 3) := by decide +kernel
theorem d1_10 : decode jdk_33_method_22_code 10 = .ok (.if_icmp .gt 13, 3) := by decide +kernel
theorem ef_voH (m : MethodId) (pI1 : Int32) : entryFrame m #[(.int pI1)] 1 = mkF m 0 #[.val (.int pI1)] [] := by first | (simp [entryFrame, mkF, argsToLocals, Value.category]; done) | rfl
def QvoH (Z : State) (pI1 : Int32) (h0 : Heap) (n0 : Nat) (v : Option Value) (h : Heap) (L : List Loc) : Prop := ∃ bR3 : Addr, v = some (.ref bR3) ∧ Fr n0 L ∧ Keep h0 h [] ∧ h0.size ≤ bR3 ∧ Exa Z h bR3 "java/lang/Integer" ∧ Fld Z h bR3 "java/lang/Integer" "value" "I" (.int pI1)
set_option maxRecDepth 65536 in
set_option maxHeartbeats 40000000 in
theorem voH (l : Launch) (Z : State) (a0 : Array Value) (hw : ∀ d ∈ tables_1, d.before a0 Z = true) (ws : List Jvm.Cond) (pI1 : Int32) (h0 : Heap) (n0 : Nat) (Z0 : n0 ≤ h0.size) (S_Integer_IntegerCache_high : Sta Z h0 "java/lang/Integer$IntegerCache" "high" "I" (.int (127 : Int32))) (hc3 : ¬ (pI1 < (-128 : Int32))) (hc10 : (127 : Int32) < pI1) :
    MetFree l yN2 (head1 (Jvm.Cond.code yN2 jdk_33_method_22_code 1 (some (.object "java/lang/Integer")) :: ws) ({ frames := 3, cells := 1, slots := 1, locals := 38 } : Room)) (fun a U => a = #[(.int pI1)] ∧ Z.Warmed39 U.vm ∧ U.heap = h0) (fun _ _ _ _ _ => True) (fun _ U o U' => ∃ v L, o = .returned v ∧ QvoH Z pI1 h0 n0 v U'.heap L ∧ FrameEnd U o U' L ({ frames := 3, cells := 1, slots := 1, locals := 38 } : Room).cells ({ frames := 3, cells := 1, slots := 1, locals := 38 } : Room).slots) := by
  refine MetFree.of_bodySF (plainFor_of_name pn_1) hisR ?_
  intro p e s m args below meth c s₁ Bd hml0 hP hK
  obtain ⟨rfl, hZ, hh⟩ := hP
  have hx := Bd.exec
  have hby := Bd.bytes
  have hml : c.maxLocals = 1 := hml0
  have hown : s.vm.findClass "java/lang/Integer" = some m.cls := findClass_of_methodNamed Bd.named
  have hnm := (name_of_methodNamed Bd.named Bd.method).1
  have X0 : Stand p l e ({ frames := 3, cells := 1, slots := 1, locals := 38 } : Room) s m #[(.int pI1)] below meth c s₁ [] 0 0 := Stand.of_body Bd
  have e0 : s₁.heap = h0 := by rw [← hh, Bd.state]; rfl
  have N0 := Fr.nil n0
  have pre0 : ∀ t, Steps p.tables e below (s₁.setTop (mkF m 0 #[.val (.int pI1)] [])) t → Steps p.tables e below (s₁.setTop (entryFrame m #[(.int pI1)] 1)) t := fun t k => castTop (ef_voH m pI1) k
  obtain ⟨T2, X2, e2, st2⟩ := getS2 X0 hx hZ hown (host := "") (Or.inl (ow hw 5 rfl)) Via.refl e0 S_Integer_IntegerCache_high (g := (mkF m 7 #[.val (.int pI1)] [(.int pI1)])) rfl (hb hby d1_7)
  obtain ⟨T3, h3, X3, e3, E3, A3, D3, U3, st3⟩ := newO X2 hx hZ hown (ow hw 66 rfl) (ow hw 67 rfl) (ow hw 3 rfl) e2 (g := (mkF m 23 #[.val (.int pI1)] [])) rfl (hb hby d1_23) (by decide) (by decide)
  obtain ⟨bR3, g3⟩ : ∃ z, z = h0.size := ⟨_, rfl⟩
  rw [← g3] at A3 D3 U3 st3
  have K4 : Keep h0 h3 [] := (Keep.refl h0 []).ext E3
  have Z5 : n0 ≤ h3.size := (Nat.le_trans Z0 E3.1)
  have F6 : Fld Z h3 bR3 "java/lang/Integer" "value" "I" (.int (0 : Int32)) := D3 (Or.inr (ow hw 80 rfl)) (ty := .int) (by decide)
  have g7 : n0 ≤ bR3 := Nat.le_trans Z0 (Nat.le_of_eq g3.symm)
  obtain ⟨_, _, ⟨T8, L8, k8, n8⟩, -, X8, ⟨Lc8, hQ8, l8, y8, z8⟩, st8⟩ := X3.specialBack hx (y := yN1) rfl hown (mvT hZ (ow hw 68 rfl)) (mvT hZ (ow hw 69 rfl)) (mvT hZ (ow hw 71 rfl)) (by decide) (backOf (W := 1) (intI l Z a0 hw [] bR3 pI1 h3 n0 Z5 A3 F6 g7) hZ (ow hw 71 rfl) (ow hw 3 rfl) (by decide) (by decide)) (g := (mkF m 28 #[.val (.int pI1)] [(.int pI1), (.ref bR3), (.ref bR3)])) rfl (by rw [hml]; rfl) (Steps.refl _) (a := bR3) (argsL := [(.int pI1)]) (rest := [(.ref bR3)]) (lenOf pd_1 rfl) rfl (by show 2 * 0 + _ ≤ _; exact Nat.le_of_eq rfl) (hb hby d1_28) (fun _ _ => ⟨rfl, e3, (by decide : 1 + 0 ≤ _), (by decide : 1 + 0 ≤ _)⟩)
  dsimp only [Pt.U, Pt.locs, Pt.cells, Pt.slots] at X8 l8 y8 z8 st8 hQ8
  subst l8 y8 z8
  obtain ⟨rfl, Nq8, Kq8, x8_0, x8_1⟩ := hQ8
  have N8 := Fr.app N0 Nq8
  obtain ⟨Lh8, X8, N8⟩ := own_hide X8 N8
  have K9 : Keep h0 T8.heap [] := K4.trans Kq8 (allS (Or.inr (Nat.le_of_eq g3.symm)) all0)
  have Z10 : n0 ≤ T8.heap.size := (Nat.le_trans Z5 Kq8.1)
  obtain ⟨fs, hr, hrun, hended, hW, hsame⟩ := X8.leave (v := some (.ref bR3)) (fun h => by rw [Bd.returns] at h; cases h)
  refine ⟨_, _, pre0 _ ?_, hrun, hended, _, _, rfl, ?_, ⟨_, rfl⟩, hW, hsame.mono (by decide) (by decide)⟩
  · show oS p e below s₁ m 0 #[.val (.int pI1)] [] _
    refine XS.iloadN X0.here hx rfl (hb hby d1_0) rfl ?_
    refine XS.bipush X0.here hx rfl (hb hby d1_1) ?_
    refine XS.icmpNo X0.here hx rfl (hb hby d1_3) rfl (flt hc3).1 ?_
    refine XS.iloadN X0.here hx rfl (hb hby d1_6) rfl ?_
    show oS p e below s₁ m 7 #[.val (.int pI1)] [(.int pI1)] _
    refine st2 _ ?_
    refine XS.icmpYes X2.here hx rfl (pc0 := 10) (pc' := 23) rfl (hb hby d1_10) rfl (tlt hc10).2.2.1 (by decide) (by decide) ?_
    refine st3 _ ?_
    refine XS.dup X3.here hx rfl (hb hby d1_26) rfl rfl ?_
    show oS p e below T3 m 27 #[.val (.int pI1)] [(.ref bR3), (.ref bR3)] _
    refine XS.iloadN X3.here hx rfl (hb hby d1_27) rfl ?_
    refine st8.trans ?_
    exact retOut X8 hx Bd.returns rfl (Or.inr (Or.inr (Or.inr (Or.inr ⟨rfl, rfl, rfl⟩)))) (hb hby d1_31) hr
  · show QvoH Z pI1 h0 n0 _ T8.heap _
    exact ⟨bR3, rfl, N8, K9, (Nat.le_of_eq g3.symm), x8_0, x8_1⟩
theorem d1_13 : decode jdk_33_method_22_code 13 = .ok (.getstatic 195, 3) := by decide +kernel
theorem d1_16 : decode jdk_33_method_22_code 16 = .ok (.iload_n 0, 1) := by decide +kernel
theorem d1_17 : decode jdk_33_method_22_code 17 = .ok (.sipush 128, 3) := by decide +kernel
theorem d1_20 : decode jdk_33_method_22_code 20 = .ok (.iadd, 1) := by decide +kernel
theorem d1_21 : decode jdk_33_method_22_code 21 = .ok (.aaload, 1) := by decide +kernel
theorem d1_22 : decode jdk_33_method_22_code 22 = .ok (.areturn, 1) := by decide +kernel
theorem ef_voC (m : MethodId) (pI1 : Int32) : entryFrame m #[(.int pI1)] 1 = mkF m 0 #[.val (.int pI1)] [] := by first | (simp [entryFrame, mkF, argsToLocals, Value.category]; done) | rfl
def QvoC (Z : State) (pI1 : Int32) (pR3 : Addr) (pC5 : Cell) (pR6 : Addr) (h0 : Heap) (n0 : Nat) (v : Option Value) (h : Heap) (L : List Loc) : Prop := v = some (.ref pR6) ∧ Fr n0 L ∧ h = h0
set_option maxRecDepth 65536 in
set_option maxHeartbeats 40000000 in
theorem voC (l : Launch) (Z : State) (a0 : Array Value) (hw : ∀ d ∈ tables_1, d.before a0 Z = true) (ws : List Jvm.Cond) (pI1 : Int32) (pR3 : Addr) (pC5 : Cell) (pR6 : Addr) (h0 : Heap) (n0 : Nat) (Z0 : n0 ≤ h0.size) (S_Integer_IntegerCache_high : Sta Z h0 "java/lang/Integer$IntegerCache" "high" "I" (.int (127 : Int32))) (S_Integer_IntegerCache_cache : Sta Z h0 "java/lang/Integer$IntegerCache" "cache" "[Ljava/lang/Integer;" (.ref pR3)) (Ar_pR3 : Arr Z h0 pR3 pC5 (.object "java/lang/Integer")) (hat_pC5_21 : pC5.slots[((pI1 + (128 : Int32))).toNatClampNeg]? = some (.ref pR6)) (hc3 : ¬ (pI1 < (-128 : Int32))) (hc10 : ¬ ((127 : Int32) < pI1)) (hc21 : ¬ ((pI1 + (128 : Int32)) < 0 ∨ pC5.slots.size ≤ ((pI1 + (128 : Int32))).toNatClampNeg)) :
    MetFree l yN2 (head1 (Jvm.Cond.code yN2 jdk_33_method_22_code 1 (some (.object "java/lang/Integer")) :: ws) ({ frames := 0, cells := 0, slots := 0, locals := 0 } : Room)) (fun a U => a = #[(.int pI1)] ∧ Z.Warmed39 U.vm ∧ U.heap = h0) (fun _ _ _ _ _ => True) (fun _ U o U' => ∃ v L, o = .returned v ∧ QvoC Z pI1 pR3 pC5 pR6 h0 n0 v U'.heap L ∧ FrameEnd U o U' L ({ frames := 0, cells := 0, slots := 0, locals := 0 } : Room).cells ({ frames := 0, cells := 0, slots := 0, locals := 0 } : Room).slots) := by
  refine MetFree.of_bodySF (plainFor_of_name pn_1) hisR ?_
  intro p e s m args below meth c s₁ Bd hml0 hP hK
  obtain ⟨rfl, hZ, hh⟩ := hP
  have hx := Bd.exec
  have hby := Bd.bytes
  have hml : c.maxLocals = 1 := hml0
  have hown : s.vm.findClass "java/lang/Integer" = some m.cls := findClass_of_methodNamed Bd.named
  have hnm := (name_of_methodNamed Bd.named Bd.method).1
  have X0 : Stand p l e ({ frames := 0, cells := 0, slots := 0, locals := 0 } : Room) s m #[(.int pI1)] below meth c s₁ [] 0 0 := Stand.of_body Bd
  have e0 : s₁.heap = h0 := by rw [← hh, Bd.state]; rfl
  have N0 := Fr.nil n0
  have pre0 : ∀ t, Steps p.tables e below (s₁.setTop (mkF m 0 #[.val (.int pI1)] [])) t → Steps p.tables e below (s₁.setTop (entryFrame m #[(.int pI1)] 1)) t := fun t k => castTop (ef_voC m pI1) k
  obtain ⟨T2, X2, e2, st2⟩ := getS2 X0 hx hZ hown (host := "") (Or.inl (ow hw 5 rfl)) Via.refl e0 S_Integer_IntegerCache_high (g := (mkF m 7 #[.val (.int pI1)] [(.int pI1)])) rfl (hb hby d1_7)
  obtain ⟨T4, X4, e4, st4⟩ := getS2 X2 hx hZ hown (host := "") (Or.inl (ow hw 7 rfl)) Via.refl e2 S_Integer_IntegerCache_cache (g := (mkF m 13 #[.val (.int pI1)] [])) rfl (hb hby d1_13)
  obtain ⟨fs, hr, hrun, hended, hW, hsame⟩ := X4.leave (v := some (.ref pR6)) (fun h => by rw [Bd.returns] at h; cases h)
  refine ⟨_, _, pre0 _ ?_, hrun, hended, _, _, rfl, ?_, ⟨_, rfl⟩, hW, hsame.mono (by decide) (by decide)⟩
  · show oS p e below s₁ m 0 #[.val (.int pI1)] [] _
    refine XS.iloadN X0.here hx rfl (hb hby d1_0) rfl ?_
    refine XS.bipush X0.here hx rfl (hb hby d1_1) ?_
    refine XS.icmpNo X0.here hx rfl (hb hby d1_3) rfl (flt hc3).1 ?_
    refine XS.iloadN X0.here hx rfl (hb hby d1_6) rfl ?_
    show oS p e below s₁ m 7 #[.val (.int pI1)] [(.int pI1)] _
    refine st2 _ ?_
    refine XS.icmpNo X2.here hx rfl (hb hby d1_10) rfl (flt hc10).2.2.1 ?_
    refine st4 _ ?_
    refine XS.iloadN X4.here hx rfl (hb hby d1_16) rfl ?_
    show oS p e below T4 m 17 #[.val (.int pI1)] [(.int pI1), (.ref pR3)] _
    refine XS.sipush X4.here hx rfl (hb hby d1_17) ?_
    refine XS.iadd X4.here hx rfl (hb hby d1_20) rfl ?_
    refine X4.aaload hx (j := (pI1 + (128 : Int32))) (v := (.ref pR6)) (by rw [e4]; exact Ar_pR3.1) (State.isArrayOf_alike hZ.alike Ar_pR3.2.1) rfl Ar_pR3.2.2 hc21 hat_pC5_21 (g := (mkF m 21 #[.val (.int pI1)] [(.int (pI1 + (128 : Int32))), (.ref pR3)])) rfl rfl (hb hby d1_21) _ ?_
    exact retOut X4 hx Bd.returns rfl (Or.inr (Or.inr (Or.inr (Or.inr ⟨rfl, rfl, rfl⟩)))) (hb hby d1_22) hr
  · show QvoC Z pI1 pR3 pC5 pR6 h0 n0 _ T4.heap _
    rw [e4]
    exact ⟨rfl, N0, rfl⟩
theorem d3_0 : decode jdk_40_method_36_code 0 = .ok (.getstatic 90, 3) := by decide +kernel
theorem d3_3 : decode jdk_40_method_36_code 3 = .ok (.areturn, 1) := by decide +kernel
theorem pn_2 : plainName "java/util/List" = true := by first | (simp [plainName, overriddenIn]; done) | decide +kernel
theorem ef_listOf (m : MethodId)  : entryFrame m #[] 0 = mkF m 0 #[] [] := by first | (simp [entryFrame, mkF, argsToLocals, Value.category]; done) | rfl
def QlistOf (Z : State) (pR1 : Addr) (h0 : Heap) (n0 : Nat) (v : Option Value) (h : Heap) (L : List Loc) : Prop := v = some (.ref pR1) ∧ Fr n0 L ∧ h = h0
set_option maxRecDepth 65536 in
set_option maxHeartbeats 40000000 in
theorem listOf (l : Launch) (Z : State) (a0 : Array Value) (hw : ∀ d ∈ tables_1, d.before a0 Z = true) (ws : List Jvm.Cond) (pR1 : Addr) (h0 : Heap) (n0 : Nat) (Z0 : n0 ≤ h0.size) (S_ImmutableCollections_EMPTY_LIST : Sta Z h0 "java/util/ImmutableCollections" "EMPTY_LIST" "Ljava/util/ImmutableCollections$ListN;" (.ref pR1)) :
    MetFree l yN3 (head1 (Jvm.Cond.code yN3 jdk_40_method_36_code 0 (some (.object "java/util/List")) :: ws) ({ frames := 0, cells := 0, slots := 0, locals := 0 } : Room)) (fun a U => a = #[] ∧ Z.Warmed39 U.vm ∧ U.heap = h0) (fun _ _ _ _ _ => True) (fun _ U o U' => ∃ v L, o = .returned v ∧ QlistOf Z pR1 h0 n0 v U'.heap L ∧ FrameEnd U o U' L ({ frames := 0, cells := 0, slots := 0, locals := 0 } : Room).cells ({ frames := 0, cells := 0, slots := 0, locals := 0 } : Room).slots) := by
  refine MetFree.of_bodySF (plainFor_of_name pn_2) hisR ?_
  intro p e s m args below meth c s₁ Bd hml0 hP hK
  obtain ⟨rfl, hZ, hh⟩ := hP
  have hx := Bd.exec
  have hby := Bd.bytes
  have hml : c.maxLocals = 0 := hml0
  have hown : s.vm.findClass "java/util/List" = some m.cls := findClass_of_methodNamed Bd.named
  have hnm := (name_of_methodNamed Bd.named Bd.method).1
  have X0 : Stand p l e ({ frames := 0, cells := 0, slots := 0, locals := 0 } : Room) s m #[] below meth c s₁ [] 0 0 := Stand.of_body Bd
  have e0 : s₁.heap = h0 := by rw [← hh, Bd.state]; rfl
  have N0 := Fr.nil n0
  have pre0 : ∀ t, Steps p.tables e below (s₁.setTop (mkF m 0 #[] [])) t → Steps p.tables e below (s₁.setTop (entryFrame m #[] 0)) t := fun t k => castTop (ef_listOf m ) k
  obtain ⟨T2, X2, e2, st2⟩ := getS2 X0 hx hZ hown (host := "") (Or.inl (ow hw 18 rfl)) Via.refl e0 S_ImmutableCollections_EMPTY_LIST (g := (mkF m 0 #[] [])) rfl (hb hby d3_0)
  obtain ⟨fs, hr, hrun, hended, hW, hsame⟩ := X2.leave (v := some (.ref pR1)) (fun h => by rw [Bd.returns] at h; cases h)
  refine ⟨_, _, pre0 _ ?_, hrun, hended, _, _, rfl, ?_, ⟨_, rfl⟩, hW, hsame.mono (by decide) (by decide)⟩
  · show oS p e below s₁ m 0 #[] [] _
    refine st2 _ ?_
    exact retOut X2 hx Bd.returns rfl (Or.inr (Or.inr (Or.inr (Or.inr ⟨rfl, rfl, rfl⟩)))) (hb hby d3_3) hr
  · show QlistOf Z pR1 h0 n0 _ T2.heap _
    rw [e2]
    exact ⟨rfl, N0, rfl⟩
theorem d4_0 : decode prog_6_method_1_code 0 = .ok (.aload_n 0, 1) := by decide +kernel
theorem d4_1 : decode prog_6_method_1_code 1 = .ok (.invokespecial 1, 3) := by decide +kernel
theorem d4_4 : decode prog_6_method_1_code 4 = .ok (.aload_n 0, 1) := by decide +kernel
theorem d4_5 : decode prog_6_method_1_code 5 = .ok (.aload_n 1, 1) := by decide +kernel
theorem d4_6 : decode prog_6_method_1_code 6 = .ok (.putfield 7, 3) := by decide +kernel
theorem d4_9 : decode prog_6_method_1_code 9 = .ok (.aload_n 0, 1) := by decide +kernel
theorem d4_10 : decode prog_6_method_1_code 10 = .ok (.aload_n 2, 1) := by decide +kernel
theorem d4_11 : decode prog_6_method_1_code 11 = .ok (.putfield 13, 3) := by decide +kernel
theorem d4_14 : decode prog_6_method_1_code 14 = .ok (.aload_n 0, 1) := by decide +kernel
theorem d4_15 : decode prog_6_method_1_code 15 = .ok (.iload_n 3, 1) := by decide +kernel
theorem d4_16 : decode prog_6_method_1_code 16 = .ok (.putfield 17, 3) := by decide +kernel
theorem d4_19 : decode prog_6_method_1_code 19 = .ok (.aload_n 0, 1) := by decide +kernel
theorem d4_20 : decode prog_6_method_1_code 20 = .ok (.iload 4, 2) := by decide +kernel
theorem d4_22 : decode prog_6_method_1_code 22 = .ok (.putfield 21, 3) := by decide +kernel
theorem d4_25 : decode prog_6_method_1_code 25 = .ok (.return_, 1) := by decide +kernel
theorem pn_3 : plainName "com/example/willenhall/willenhall/api/ResponseEnvelope" = true := by first | (simp [plainName, overriddenIn]; done) | decide +kernel
theorem ef_ctR (m : MethodId) (pR1 : Addr) (pR2 : Addr) (pR3 : Addr) (pI4 : Int32) : entryFrame m #[(.ref pR1), (.ref pR2), (.ref pR3), (.int pI4), (.int (1 : Int32))] 5 = mkF m 0 #[.val (.ref pR1), .val (.ref pR2), .val (.ref pR3), .val (.int pI4), .val (.int (1 : Int32))] [] := by first | (simp [entryFrame, mkF, argsToLocals, Value.category]; done) | rfl
def QctR (Z : State) (pR1 : Addr) (pR2 : Addr) (pR3 : Addr) (pI4 : Int32) (h0 : Heap) (n0 : Nat) (v : Option Value) (h : Heap) (L : List Loc) : Prop := v = none ∧ Fr n0 L ∧ Keep h0 h [pR1] ∧ Exa Z h pR1 "com/example/willenhall/willenhall/api/ResponseEnvelope" ∧ Fld Z h pR1 "com/example/willenhall/willenhall/api/ResponseEnvelope" "result" "Ljava/lang/Object;" (.ref pR2) ∧ Fld Z h pR1 "com/example/willenhall/willenhall/api/ResponseEnvelope" "errorMessages" "Ljava/util/List;" (.ref pR3) ∧ Fld Z h pR1 "com/example/willenhall/willenhall/api/ResponseEnvelope" "statusCode" "I" (.int pI4) ∧ Fld Z h pR1 "com/example/willenhall/willenhall/api/ResponseEnvelope" "success" "Z" (.int (1 : Int32))
set_option maxRecDepth 65536 in
set_option maxHeartbeats 40000000 in
theorem ctR (l : Launch) (Z : State) (a0 : Array Value) (hw : ∀ d ∈ tables_1, d.before a0 Z = true) (ws : List Jvm.Cond) (pR1 : Addr) (pR2 : Addr) (pR3 : Addr) (pI4 : Int32) (h0 : Heap) (n0 : Nat) (Z0 : n0 ≤ h0.size) (E_pR1 : Exa Z h0 pR1 "com/example/willenhall/willenhall/api/ResponseEnvelope") (F_result_pR1 : Fld Z h0 pR1 "com/example/willenhall/willenhall/api/ResponseEnvelope" "result" "Ljava/lang/Object;" .null) (g_pR1 : n0 ≤ pR1) (F_errorMessages_pR1 : Fld Z h0 pR1 "com/example/willenhall/willenhall/api/ResponseEnvelope" "errorMessages" "Ljava/util/List;" .null) (F_statusCode_pR1 : Fld Z h0 pR1 "com/example/willenhall/willenhall/api/ResponseEnvelope" "statusCode" "I" (.int (0 : Int32))) (F_success_pR1 : Fld Z h0 pR1 "com/example/willenhall/willenhall/api/ResponseEnvelope" "success" "Z" (.int (0 : Int32))) :
    MetFree l yN4 (head1 (Jvm.Cond.code yN4 prog_6_method_1_code 5 none :: ws) ({ frames := 1, cells := 0, slots := 0, locals := 12 } : Room)) (fun a U => a = #[(.ref pR1), (.ref pR2), (.ref pR3), (.int pI4), (.int (1 : Int32))] ∧ Z.Warmed39 U.vm ∧ U.heap = h0) (fun _ _ _ _ _ => True) (fun _ U o U' => ∃ v L, o = .returned v ∧ QctR Z pR1 pR2 pR3 pI4 h0 n0 v U'.heap L ∧ FrameEnd U o U' L ({ frames := 1, cells := 0, slots := 0, locals := 12 } : Room).cells ({ frames := 1, cells := 0, slots := 0, locals := 12 } : Room).slots) := by
  refine MetFree.of_bodySF (plainFor_of_name pn_3) hisR ?_
  intro p e s m args below meth c s₁ Bd hml0 hP hK
  obtain ⟨rfl, hZ, hh⟩ := hP
  have hx := Bd.exec
  have hby := Bd.bytes
  have hml : c.maxLocals = 5 := hml0
  have hown : s.vm.findClass "com/example/willenhall/willenhall/api/ResponseEnvelope" = some m.cls := findClass_of_methodNamed Bd.named
  have hnm := (name_of_methodNamed Bd.named Bd.method).1
  have X0 : Stand p l e ({ frames := 1, cells := 0, slots := 0, locals := 12 } : Room) s m #[(.ref pR1), (.ref pR2), (.ref pR3), (.int pI4), (.int (1 : Int32))] below meth c s₁ [] 0 0 := Stand.of_body Bd
  have e0 : s₁.heap = h0 := by rw [← hh, Bd.state]; rfl
  have N0 := Fr.nil n0
  have pre0 : ∀ t, Steps p.tables e below (s₁.setTop (mkF m 0 #[.val (.ref pR1), .val (.ref pR2), .val (.ref pR3), .val (.int pI4), .val (.int (1 : Int32))] [])) t → Steps p.tables e below (s₁.setTop (entryFrame m #[(.ref pR1), (.ref pR2), (.ref pR3), (.int pI4), (.int (1 : Int32))] 5)) t := fun t k => castTop (ef_ctR m pR1 pR2 pR3 pI4) k
  obtain ⟨T5, X5, e5, st5⟩ := initO X0 hx hZ hown (ow hw 23 rfl) (ow hw 24 rfl) (ow hw 25 rfl) e0 (g := (mkF m 1 #[.val (.ref pR1), .val (.ref pR2), .val (.ref pR3), .val (.int pI4), .val (.int (1 : Int32))] [(.ref pR1)])) rfl (by rw [hml]; rfl) rfl (hb hby d4_1) (by decide) (W := 0) (by show 2 * 0 + _ ≤ _; exact Nat.le_of_eq rfl) (by decide)
  obtain ⟨T6, h6, X6, e6, W6, st6⟩ := putF X5 hx hZ hown (host := "") (Or.inl (ow hw 26 rfl)) Via.refl e5 F_result_pR1 E_pR1 (Or.inr ⟨(ow hw 27 rfl), rfl, hnm⟩) (ow hw 13 rfl) (ty := (.object "java/lang/Object")) (by decide) rfl rfl (g := (mkF m 6 #[.val (.ref pR1), .val (.ref pR2), .val (.ref pR3), .val (.int pI4), .val (.int (1 : Int32))] [(.ref pR2), (.ref pR1)])) rfl rfl (hb hby d4_6)
  have K7 : Keep h0 h6 [pR1] := (Keep.refl h0 [pR1]).wr W6 (Or.inl (List.mem_of_getElem? (i := 0) rfl))
  have Z8 : n0 ≤ h6.size := (Nat.le_trans Z0 (Keep.of_wr W6).1)
  have N6 := Fr.snoc X6 N0 g_pR1
  obtain ⟨Lh6, X6, N6⟩ := own_hide X6 N6
  have F6 : Fld Z h6 pR1 "com/example/willenhall/willenhall/api/ResponseEnvelope" "result" "Ljava/lang/Object;" (.ref pR2) := Fld.same W6 F_result_pR1
  have c9 : Fld Z h6 pR1 "com/example/willenhall/willenhall/api/ResponseEnvelope" "errorMessages" "Ljava/util/List;" .null := F_errorMessages_pR1.other W6 (Or.inr (slot_ne (Or.inr (ow hw 29 rfl)) (Or.inr (ow hw 27 rfl)) (by decide) (t := (.object "java/util/List")) (t' := (.object "java/lang/Object")) (by decide) (by decide)))
  have c10 : Exa Z h6 pR1 "com/example/willenhall/willenhall/api/ResponseEnvelope" := E_pR1.wr W6
  obtain ⟨T11, h11, X11, e11, W11, st11⟩ := putF X6 hx hZ hown (host := "") (Or.inl (ow hw 28 rfl)) Via.refl e6 c9 c10 (Or.inr ⟨(ow hw 29 rfl), rfl, hnm⟩) (ow hw 13 rfl) (ty := (.object "java/util/List")) (by decide) rfl rfl (g := (mkF m 11 #[.val (.ref pR1), .val (.ref pR2), .val (.ref pR3), .val (.int pI4), .val (.int (1 : Int32))] [(.ref pR3), (.ref pR1)])) rfl rfl (hb hby d4_11)
  have K12 : Keep h0 h11 [pR1] := K7.wr W11 (Or.inl (List.mem_of_getElem? (i := 0) rfl))
  have Z13 : n0 ≤ h11.size := (Nat.le_trans Z8 (Keep.of_wr W11).1)
  have N11 := Fr.snoc X11 N6 g_pR1
  obtain ⟨Lh11, X11, N11⟩ := own_hide X11 N11
  have F11 : Fld Z h11 pR1 "com/example/willenhall/willenhall/api/ResponseEnvelope" "errorMessages" "Ljava/util/List;" (.ref pR3) := Fld.same W11 c9
  have c14 : Fld Z h6 pR1 "com/example/willenhall/willenhall/api/ResponseEnvelope" "statusCode" "I" (.int (0 : Int32)) := F_statusCode_pR1.other W6 (Or.inr (slot_ne (Or.inr (ow hw 31 rfl)) (Or.inr (ow hw 27 rfl)) (by decide) (t := .int) (t' := (.object "java/lang/Object")) (by decide) (by decide)))
  have c15 : Fld Z h11 pR1 "com/example/willenhall/willenhall/api/ResponseEnvelope" "statusCode" "I" (.int (0 : Int32)) := c14.other W11 (Or.inr (slot_ne (Or.inr (ow hw 31 rfl)) (Or.inr (ow hw 29 rfl)) (by decide) (t := .int) (t' := (.object "java/util/List")) (by decide) (by decide)))
  have c16 : Exa Z h11 pR1 "com/example/willenhall/willenhall/api/ResponseEnvelope" := c10.wr W11
  obtain ⟨T17, h17, X17, e17, W17, st17⟩ := putF X11 hx hZ hown (host := "") (Or.inl (ow hw 30 rfl)) Via.refl e11 c15 c16 (Or.inr ⟨(ow hw 31 rfl), rfl, hnm⟩) (ow hw 13 rfl) (ty := .int) (by decide) rfl rfl (g := (mkF m 16 #[.val (.ref pR1), .val (.ref pR2), .val (.ref pR3), .val (.int pI4), .val (.int (1 : Int32))] [(.int pI4), (.ref pR1)])) rfl rfl (hb hby d4_16)
  have K18 : Keep h0 h17 [pR1] := K12.wr W17 (Or.inl (List.mem_of_getElem? (i := 0) rfl))
  have Z19 : n0 ≤ h17.size := (Nat.le_trans Z13 (Keep.of_wr W17).1)
  have N17 := Fr.snoc X17 N11 g_pR1
  obtain ⟨Lh17, X17, N17⟩ := own_hide X17 N17
  have F17 : Fld Z h17 pR1 "com/example/willenhall/willenhall/api/ResponseEnvelope" "statusCode" "I" (.int pI4) := Fld.same W17 c15
  have c20 : Fld Z h6 pR1 "com/example/willenhall/willenhall/api/ResponseEnvelope" "success" "Z" (.int (0 : Int32)) := F_success_pR1.other W6 (Or.inr (slot_ne (Or.inr (ow hw 33 rfl)) (Or.inr (ow hw 27 rfl)) (by decide) (t := .boolean) (t' := (.object "java/lang/Object")) (by decide) (by decide)))
  have c21 : Fld Z h11 pR1 "com/example/willenhall/willenhall/api/ResponseEnvelope" "success" "Z" (.int (0 : Int32)) := c20.other W11 (Or.inr (slot_ne (Or.inr (ow hw 33 rfl)) (Or.inr (ow hw 29 rfl)) (by decide) (t := .boolean) (t' := (.object "java/util/List")) (by decide) (by decide)))
  have c22 : Fld Z h17 pR1 "com/example/willenhall/willenhall/api/ResponseEnvelope" "success" "Z" (.int (0 : Int32)) := c21.other W17 (Or.inr (slot_ne (Or.inr (ow hw 33 rfl)) (Or.inr (ow hw 31 rfl)) (by decide) (t := .boolean) (t' := .int) (by decide) (by decide)))
  have c23 : Exa Z h17 pR1 "com/example/willenhall/willenhall/api/ResponseEnvelope" := c16.wr W17
  obtain ⟨T24, h24, X24, e24, W24, st24⟩ := putFN X17 hx hZ hown (ow hw 32 rfl) Via.refl e17 c22 c23 (Or.inr ⟨(ow hw 33 rfl), rfl, hnm⟩) (ow hw 13 rfl) (ty := .boolean) (v' := .int (1 : Int32)) (by decide) (by rfl) (by first | rfl | exact fits_nar_bool _) (g := (mkF m 22 #[.val (.ref pR1), .val (.ref pR2), .val (.ref pR3), .val (.int pI4), .val (.int (1 : Int32))] [(.int (1 : Int32)), (.ref pR1)])) rfl rfl (hb hby d4_22)
  have K25 : Keep h0 h24 [pR1] := K18.wr W24 (Or.inl (List.mem_of_getElem? (i := 0) rfl))
  have Z26 : n0 ≤ h24.size := (Nat.le_trans Z19 (Keep.of_wr W24).1)
  have N24 := Fr.snoc X24 N17 g_pR1
  obtain ⟨Lh24, X24, N24⟩ := own_hide X24 N24
  have F24 : Fld Z h24 pR1 "com/example/willenhall/willenhall/api/ResponseEnvelope" "success" "Z" (.int (1 : Int32)) := Fld.same W24 c22
  have c27 : Exa Z h24 pR1 "com/example/willenhall/willenhall/api/ResponseEnvelope" := c23.wr W24
  have c28 : Fld Z h11 pR1 "com/example/willenhall/willenhall/api/ResponseEnvelope" "result" "Ljava/lang/Object;" (.ref pR2) := F6.other W11 (Or.inr (slot_ne (Or.inr (ow hw 27 rfl)) (Or.inr (ow hw 29 rfl)) (by decide) (t := (.object "java/lang/Object")) (t' := (.object "java/util/List")) (by decide) (by decide)))
  have c29 : Fld Z h17 pR1 "com/example/willenhall/willenhall/api/ResponseEnvelope" "result" "Ljava/lang/Object;" (.ref pR2) := c28.other W17 (Or.inr (slot_ne (Or.inr (ow hw 27 rfl)) (Or.inr (ow hw 31 rfl)) (by decide) (t := (.object "java/lang/Object")) (t' := .int) (by decide) (by decide)))
  have c30 : Fld Z h24 pR1 "com/example/willenhall/willenhall/api/ResponseEnvelope" "result" "Ljava/lang/Object;" (.ref pR2) := c29.other W24 (Or.inr (slot_ne (Or.inr (ow hw 27 rfl)) (Or.inr (ow hw 33 rfl)) (by decide) (t := (.object "java/lang/Object")) (t' := .boolean) (by decide) (by decide)))
  have c31 : Fld Z h17 pR1 "com/example/willenhall/willenhall/api/ResponseEnvelope" "errorMessages" "Ljava/util/List;" (.ref pR3) := F11.other W17 (Or.inr (slot_ne (Or.inr (ow hw 29 rfl)) (Or.inr (ow hw 31 rfl)) (by decide) (t := (.object "java/util/List")) (t' := .int) (by decide) (by decide)))
  have c32 : Fld Z h24 pR1 "com/example/willenhall/willenhall/api/ResponseEnvelope" "errorMessages" "Ljava/util/List;" (.ref pR3) := c31.other W24 (Or.inr (slot_ne (Or.inr (ow hw 29 rfl)) (Or.inr (ow hw 33 rfl)) (by decide) (t := (.object "java/util/List")) (t' := .boolean) (by decide) (by decide)))
  have c33 : Fld Z h24 pR1 "com/example/willenhall/willenhall/api/ResponseEnvelope" "statusCode" "I" (.int pI4) := F17.other W24 (Or.inr (slot_ne (Or.inr (ow hw 31 rfl)) (Or.inr (ow hw 33 rfl)) (by decide) (t := .int) (t' := .boolean) (by decide) (by decide)))
  obtain ⟨fs, hr, hrun, hended, hW, hsame⟩ := X24.leave (v := none) (fun _ => rfl)
  refine ⟨_, _, pre0 _ ?_, hrun, hended, _, _, rfl, ?_, ⟨_, rfl⟩, hW, hsame.mono (by decide) (by decide)⟩
  · show oS p e below s₁ m 0 #[.val (.ref pR1), .val (.ref pR2), .val (.ref pR3), .val (.int pI4), .val (.int (1 : Int32))] [] _
    refine XS.aloadN X0.here hx rfl (hb hby d4_0) rfl rfl ?_
    refine st5 _ ?_
    refine XS.aloadN X5.here hx rfl (hb hby d4_4) rfl rfl ?_
    refine XS.aloadN X5.here hx rfl (hb hby d4_5) rfl rfl ?_
    show oS p e below T5 m 6 #[.val (.ref pR1), .val (.ref pR2), .val (.ref pR3), .val (.int pI4), .val (.int (1 : Int32))] [(.ref pR2), (.ref pR1)] _
    refine st6 _ ?_
    refine XS.aloadN X6.here hx rfl (hb hby d4_9) rfl rfl ?_
    refine XS.aloadN X6.here hx rfl (hb hby d4_10) rfl rfl ?_
    refine st11 _ ?_
    show oS p e below T11 m 14 #[.val (.ref pR1), .val (.ref pR2), .val (.ref pR3), .val (.int pI4), .val (.int (1 : Int32))] [] _
    refine XS.aloadN X11.here hx rfl (hb hby d4_14) rfl rfl ?_
    refine XS.iloadN X11.here hx rfl (hb hby d4_15) rfl ?_
    refine st17 _ ?_
    refine XS.aloadN X17.here hx rfl (hb hby d4_19) rfl rfl ?_
    show oS p e below T17 m 20 #[.val (.ref pR1), .val (.ref pR2), .val (.ref pR3), .val (.int pI4), .val (.int (1 : Int32))] [(.ref pR1)] _
    refine XS.iload X17.here hx rfl (hb hby d4_20) rfl ?_
    refine st24 _ ?_
    exact X24.returnOut hx Bd.returns (hb hby d4_25) hr
  · show QctR Z pR1 pR2 pR3 pI4 h0 n0 _ T24.heap _
    rw [e24]
    exact ⟨rfl, N24, K25, c27, c30, c32, c33, F24⟩
theorem ef_ctN (m : MethodId) (pR1 : Addr) (pR2 : Addr) (pI3 : Int32) : entryFrame m #[(.ref pR1), .null, (.ref pR2), (.int pI3), (.int (1 : Int32))] 5 = mkF m 0 #[.val (.ref pR1), .val .null, .val (.ref pR2), .val (.int pI3), .val (.int (1 : Int32))] [] := by first | (simp [entryFrame, mkF, argsToLocals, Value.category]; done) | rfl
def QctN (Z : State) (pR1 : Addr) (pR2 : Addr) (pI3 : Int32) (h0 : Heap) (n0 : Nat) (v : Option Value) (h : Heap) (L : List Loc) : Prop := v = none ∧ Fr n0 L ∧ Keep h0 h [pR1] ∧ Exa Z h pR1 "com/example/willenhall/willenhall/api/ResponseEnvelope" ∧ Fld Z h pR1 "com/example/willenhall/willenhall/api/ResponseEnvelope" "result" "Ljava/lang/Object;" .null ∧ Fld Z h pR1 "com/example/willenhall/willenhall/api/ResponseEnvelope" "errorMessages" "Ljava/util/List;" (.ref pR2) ∧ Fld Z h pR1 "com/example/willenhall/willenhall/api/ResponseEnvelope" "statusCode" "I" (.int pI3) ∧ Fld Z h pR1 "com/example/willenhall/willenhall/api/ResponseEnvelope" "success" "Z" (.int (1 : Int32))
set_option maxRecDepth 65536 in
set_option maxHeartbeats 40000000 in
theorem ctN (l : Launch) (Z : State) (a0 : Array Value) (hw : ∀ d ∈ tables_1, d.before a0 Z = true) (ws : List Jvm.Cond) (pR1 : Addr) (pR2 : Addr) (pI3 : Int32) (h0 : Heap) (n0 : Nat) (Z0 : n0 ≤ h0.size) (E_pR1 : Exa Z h0 pR1 "com/example/willenhall/willenhall/api/ResponseEnvelope") (F_result_pR1 : Fld Z h0 pR1 "com/example/willenhall/willenhall/api/ResponseEnvelope" "result" "Ljava/lang/Object;" .null) (g_pR1 : n0 ≤ pR1) (F_errorMessages_pR1 : Fld Z h0 pR1 "com/example/willenhall/willenhall/api/ResponseEnvelope" "errorMessages" "Ljava/util/List;" .null) (F_statusCode_pR1 : Fld Z h0 pR1 "com/example/willenhall/willenhall/api/ResponseEnvelope" "statusCode" "I" (.int (0 : Int32))) (F_success_pR1 : Fld Z h0 pR1 "com/example/willenhall/willenhall/api/ResponseEnvelope" "success" "Z" (.int (0 : Int32))) :
    MetFree l yN4 (head1 (Jvm.Cond.code yN4 prog_6_method_1_code 5 none :: ws) ({ frames := 1, cells := 0, slots := 0, locals := 12 } : Room)) (fun a U => a = #[(.ref pR1), .null, (.ref pR2), (.int pI3), (.int (1 : Int32))] ∧ Z.Warmed39 U.vm ∧ U.heap = h0) (fun _ _ _ _ _ => True) (fun _ U o U' => ∃ v L, o = .returned v ∧ QctN Z pR1 pR2 pI3 h0 n0 v U'.heap L ∧ FrameEnd U o U' L ({ frames := 1, cells := 0, slots := 0, locals := 12 } : Room).cells ({ frames := 1, cells := 0, slots := 0, locals := 12 } : Room).slots) := by
  refine MetFree.of_bodySF (plainFor_of_name pn_3) hisR ?_
  intro p e s m args below meth c s₁ Bd hml0 hP hK
  obtain ⟨rfl, hZ, hh⟩ := hP
  have hx := Bd.exec
  have hby := Bd.bytes
  have hml : c.maxLocals = 5 := hml0
  have hown : s.vm.findClass "com/example/willenhall/willenhall/api/ResponseEnvelope" = some m.cls := findClass_of_methodNamed Bd.named
  have hnm := (name_of_methodNamed Bd.named Bd.method).1
  have X0 : Stand p l e ({ frames := 1, cells := 0, slots := 0, locals := 12 } : Room) s m #[(.ref pR1), .null, (.ref pR2), (.int pI3), (.int (1 : Int32))] below meth c s₁ [] 0 0 := Stand.of_body Bd
  have e0 : s₁.heap = h0 := by rw [← hh, Bd.state]; rfl
  have N0 := Fr.nil n0
  have pre0 : ∀ t, Steps p.tables e below (s₁.setTop (mkF m 0 #[.val (.ref pR1), .val .null, .val (.ref pR2), .val (.int pI3), .val (.int (1 : Int32))] [])) t → Steps p.tables e below (s₁.setTop (entryFrame m #[(.ref pR1), .null, (.ref pR2), (.int pI3), (.int (1 : Int32))] 5)) t := fun t k => castTop (ef_ctN m pR1 pR2 pI3) k
  obtain ⟨T4, X4, e4, st4⟩ := initO X0 hx hZ hown (ow hw 23 rfl) (ow hw 24 rfl) (ow hw 25 rfl) e0 (g := (mkF m 1 #[.val (.ref pR1), .val .null, .val (.ref pR2), .val (.int pI3), .val (.int (1 : Int32))] [(.ref pR1)])) rfl (by rw [hml]; rfl) rfl (hb hby d4_1) (by decide) (W := 0) (by show 2 * 0 + _ ≤ _; exact Nat.le_of_eq rfl) (by decide)
  obtain ⟨T5, h5, X5, e5, W5, st5⟩ := putF X4 hx hZ hown (host := "") (Or.inl (ow hw 26 rfl)) Via.refl e4 F_result_pR1 E_pR1 (Or.inr ⟨(ow hw 27 rfl), rfl, hnm⟩) (ow hw 13 rfl) (ty := (.object "java/lang/Object")) (by decide) rfl rfl (g := (mkF m 6 #[.val (.ref pR1), .val .null, .val (.ref pR2), .val (.int pI3), .val (.int (1 : Int32))] [.null, (.ref pR1)])) rfl rfl (hb hby d4_6)
  have K6 : Keep h0 h5 [pR1] := (Keep.refl h0 [pR1]).wr W5 (Or.inl (List.mem_of_getElem? (i := 0) rfl))
  have Z7 : n0 ≤ h5.size := (Nat.le_trans Z0 (Keep.of_wr W5).1)
  have N5 := Fr.snoc X5 N0 g_pR1
  obtain ⟨Lh5, X5, N5⟩ := own_hide X5 N5
  have F5 : Fld Z h5 pR1 "com/example/willenhall/willenhall/api/ResponseEnvelope" "result" "Ljava/lang/Object;" .null := Fld.same W5 F_result_pR1
  have c8 : Fld Z h5 pR1 "com/example/willenhall/willenhall/api/ResponseEnvelope" "errorMessages" "Ljava/util/List;" .null := F_errorMessages_pR1.other W5 (Or.inr (slot_ne (Or.inr (ow hw 29 rfl)) (Or.inr (ow hw 27 rfl)) (by decide) (t := (.object "java/util/List")) (t' := (.object "java/lang/Object")) (by decide) (by decide)))
  have c9 : Exa Z h5 pR1 "com/example/willenhall/willenhall/api/ResponseEnvelope" := E_pR1.wr W5
  obtain ⟨T10, h10, X10, e10, W10, st10⟩ := putF X5 hx hZ hown (host := "") (Or.inl (ow hw 28 rfl)) Via.refl e5 c8 c9 (Or.inr ⟨(ow hw 29 rfl), rfl, hnm⟩) (ow hw 13 rfl) (ty := (.object "java/util/List")) (by decide) rfl rfl (g := (mkF m 11 #[.val (.ref pR1), .val .null, .val (.ref pR2), .val (.int pI3), .val (.int (1 : Int32))] [(.ref pR2), (.ref pR1)])) rfl rfl (hb hby d4_11)
  have K11 : Keep h0 h10 [pR1] := K6.wr W10 (Or.inl (List.mem_of_getElem? (i := 0) rfl))
  have Z12 : n0 ≤ h10.size := (Nat.le_trans Z7 (Keep.of_wr W10).1)
  have N10 := Fr.snoc X10 N5 g_pR1
  obtain ⟨Lh10, X10, N10⟩ := own_hide X10 N10
  have F10 : Fld Z h10 pR1 "com/example/willenhall/willenhall/api/ResponseEnvelope" "errorMessages" "Ljava/util/List;" (.ref pR2) := Fld.same W10 c8
  have c13 : Fld Z h5 pR1 "com/example/willenhall/willenhall/api/ResponseEnvelope" "statusCode" "I" (.int (0 : Int32)) := F_statusCode_pR1.other W5 (Or.inr (slot_ne (Or.inr (ow hw 31 rfl)) (Or.inr (ow hw 27 rfl)) (by decide) (t := .int) (t' := (.object "java/lang/Object")) (by decide) (by decide)))
  have c14 : Fld Z h10 pR1 "com/example/willenhall/willenhall/api/ResponseEnvelope" "statusCode" "I" (.int (0 : Int32)) := c13.other W10 (Or.inr (slot_ne (Or.inr (ow hw 31 rfl)) (Or.inr (ow hw 29 rfl)) (by decide) (t := .int) (t' := (.object "java/util/List")) (by decide) (by decide)))
  have c15 : Exa Z h10 pR1 "com/example/willenhall/willenhall/api/ResponseEnvelope" := c9.wr W10
  obtain ⟨T16, h16, X16, e16, W16, st16⟩ := putF X10 hx hZ hown (host := "") (Or.inl (ow hw 30 rfl)) Via.refl e10 c14 c15 (Or.inr ⟨(ow hw 31 rfl), rfl, hnm⟩) (ow hw 13 rfl) (ty := .int) (by decide) rfl rfl (g := (mkF m 16 #[.val (.ref pR1), .val .null, .val (.ref pR2), .val (.int pI3), .val (.int (1 : Int32))] [(.int pI3), (.ref pR1)])) rfl rfl (hb hby d4_16)
  have K17 : Keep h0 h16 [pR1] := K11.wr W16 (Or.inl (List.mem_of_getElem? (i := 0) rfl))
  have Z18 : n0 ≤ h16.size := (Nat.le_trans Z12 (Keep.of_wr W16).1)
  have N16 := Fr.snoc X16 N10 g_pR1
  obtain ⟨Lh16, X16, N16⟩ := own_hide X16 N16
  have F16 : Fld Z h16 pR1 "com/example/willenhall/willenhall/api/ResponseEnvelope" "statusCode" "I" (.int pI3) := Fld.same W16 c14
  have c19 : Fld Z h5 pR1 "com/example/willenhall/willenhall/api/ResponseEnvelope" "success" "Z" (.int (0 : Int32)) := F_success_pR1.other W5 (Or.inr (slot_ne (Or.inr (ow hw 33 rfl)) (Or.inr (ow hw 27 rfl)) (by decide) (t := .boolean) (t' := (.object "java/lang/Object")) (by decide) (by decide)))
  have c20 : Fld Z h10 pR1 "com/example/willenhall/willenhall/api/ResponseEnvelope" "success" "Z" (.int (0 : Int32)) := c19.other W10 (Or.inr (slot_ne (Or.inr (ow hw 33 rfl)) (Or.inr (ow hw 29 rfl)) (by decide) (t := .boolean) (t' := (.object "java/util/List")) (by decide) (by decide)))
  have c21 : Fld Z h16 pR1 "com/example/willenhall/willenhall/api/ResponseEnvelope" "success" "Z" (.int (0 : Int32)) := c20.other W16 (Or.inr (slot_ne (Or.inr (ow hw 33 rfl)) (Or.inr (ow hw 31 rfl)) (by decide) (t := .boolean) (t' := .int) (by decide) (by decide)))
  have c22 : Exa Z h16 pR1 "com/example/willenhall/willenhall/api/ResponseEnvelope" := c15.wr W16
  obtain ⟨T23, h23, X23, e23, W23, st23⟩ := putFN X16 hx hZ hown (ow hw 32 rfl) Via.refl e16 c21 c22 (Or.inr ⟨(ow hw 33 rfl), rfl, hnm⟩) (ow hw 13 rfl) (ty := .boolean) (v' := .int (1 : Int32)) (by decide) (by rfl) (by first | rfl | exact fits_nar_bool _) (g := (mkF m 22 #[.val (.ref pR1), .val .null, .val (.ref pR2), .val (.int pI3), .val (.int (1 : Int32))] [(.int (1 : Int32)), (.ref pR1)])) rfl rfl (hb hby d4_22)
  have K24 : Keep h0 h23 [pR1] := K17.wr W23 (Or.inl (List.mem_of_getElem? (i := 0) rfl))
  have Z25 : n0 ≤ h23.size := (Nat.le_trans Z18 (Keep.of_wr W23).1)
  have N23 := Fr.snoc X23 N16 g_pR1
  obtain ⟨Lh23, X23, N23⟩ := own_hide X23 N23
  have F23 : Fld Z h23 pR1 "com/example/willenhall/willenhall/api/ResponseEnvelope" "success" "Z" (.int (1 : Int32)) := Fld.same W23 c21
  have c26 : Exa Z h23 pR1 "com/example/willenhall/willenhall/api/ResponseEnvelope" := c22.wr W23
  have c27 : Fld Z h10 pR1 "com/example/willenhall/willenhall/api/ResponseEnvelope" "result" "Ljava/lang/Object;" .null := F5.other W10 (Or.inr (slot_ne (Or.inr (ow hw 27 rfl)) (Or.inr (ow hw 29 rfl)) (by decide) (t := (.object "java/lang/Object")) (t' := (.object "java/util/List")) (by decide) (by decide)))
  have c28 : Fld Z h16 pR1 "com/example/willenhall/willenhall/api/ResponseEnvelope" "result" "Ljava/lang/Object;" .null := c27.other W16 (Or.inr (slot_ne (Or.inr (ow hw 27 rfl)) (Or.inr (ow hw 31 rfl)) (by decide) (t := (.object "java/lang/Object")) (t' := .int) (by decide) (by decide)))
  have c29 : Fld Z h23 pR1 "com/example/willenhall/willenhall/api/ResponseEnvelope" "result" "Ljava/lang/Object;" .null := c28.other W23 (Or.inr (slot_ne (Or.inr (ow hw 27 rfl)) (Or.inr (ow hw 33 rfl)) (by decide) (t := (.object "java/lang/Object")) (t' := .boolean) (by decide) (by decide)))
  have c30 : Fld Z h16 pR1 "com/example/willenhall/willenhall/api/ResponseEnvelope" "errorMessages" "Ljava/util/List;" (.ref pR2) := F10.other W16 (Or.inr (slot_ne (Or.inr (ow hw 29 rfl)) (Or.inr (ow hw 31 rfl)) (by decide) (t := (.object "java/util/List")) (t' := .int) (by decide) (by decide)))
  have c31 : Fld Z h23 pR1 "com/example/willenhall/willenhall/api/ResponseEnvelope" "errorMessages" "Ljava/util/List;" (.ref pR2) := c30.other W23 (Or.inr (slot_ne (Or.inr (ow hw 29 rfl)) (Or.inr (ow hw 33 rfl)) (by decide) (t := (.object "java/util/List")) (t' := .boolean) (by decide) (by decide)))
  have c32 : Fld Z h23 pR1 "com/example/willenhall/willenhall/api/ResponseEnvelope" "statusCode" "I" (.int pI3) := F16.other W23 (Or.inr (slot_ne (Or.inr (ow hw 31 rfl)) (Or.inr (ow hw 33 rfl)) (by decide) (t := .int) (t' := .boolean) (by decide) (by decide)))
  obtain ⟨fs, hr, hrun, hended, hW, hsame⟩ := X23.leave (v := none) (fun _ => rfl)
  refine ⟨_, _, pre0 _ ?_, hrun, hended, _, _, rfl, ?_, ⟨_, rfl⟩, hW, hsame.mono (by decide) (by decide)⟩
  · show oS p e below s₁ m 0 #[.val (.ref pR1), .val .null, .val (.ref pR2), .val (.int pI3), .val (.int (1 : Int32))] [] _
    refine XS.aloadN X0.here hx rfl (hb hby d4_0) rfl rfl ?_
    refine st4 _ ?_
    refine XS.aloadN X4.here hx rfl (hb hby d4_4) rfl rfl ?_
    refine XS.aloadN X4.here hx rfl (hb hby d4_5) rfl rfl ?_
    show oS p e below T4 m 6 #[.val (.ref pR1), .val .null, .val (.ref pR2), .val (.int pI3), .val (.int (1 : Int32))] [.null, (.ref pR1)] _
    refine st5 _ ?_
    refine XS.aloadN X5.here hx rfl (hb hby d4_9) rfl rfl ?_
    refine XS.aloadN X5.here hx rfl (hb hby d4_10) rfl rfl ?_
    refine st10 _ ?_
    show oS p e below T10 m 14 #[.val (.ref pR1), .val .null, .val (.ref pR2), .val (.int pI3), .val (.int (1 : Int32))] [] _
    refine XS.aloadN X10.here hx rfl (hb hby d4_14) rfl rfl ?_
    refine XS.iloadN X10.here hx rfl (hb hby d4_15) rfl ?_
    refine st16 _ ?_
    refine XS.aloadN X16.here hx rfl (hb hby d4_19) rfl rfl ?_
    show oS p e below T16 m 20 #[.val (.ref pR1), .val .null, .val (.ref pR2), .val (.int pI3), .val (.int (1 : Int32))] [(.ref pR1)] _
    refine XS.iload X16.here hx rfl (hb hby d4_20) rfl ?_
    refine st23 _ ?_
    exact X23.returnOut hx Bd.returns (hb hby d4_25) hr
  · show QctN Z pR1 pR2 pI3 h0 n0 _ T23.heap _
    rw [e23]
    exact ⟨rfl, N23, K24, c26, c29, c31, c32, F23⟩
theorem d2_0 : decode prog_6_method_2_code 0 = .ok (.iload_n 0, 1) := by decide +kernel
theorem d2_1 : decode prog_6_method_2_code 1 = .ok (.sipush 200, 3) := by decide +kernel
theorem d2_4 : decode prog_6_method_2_code 4 = .ok (.if_icmp .lt 10, 3) := by decide +kernel
theorem d2_7 : decode prog_6_method_2_code 7 = .ok (.iload_n 0, 1) := by decide +kernel
theorem d2_8 : decode prog_6_method_2_code 8 = .ok (.sipush 299, 3) := by decide +kernel
theorem d2_11 : decode prog_6_method_2_code 11 = .ok (.if_icmp .le 17, 3) := by decide +kernel
theorem d2_28 : decode prog_6_method_2_code 28 = .ok (.new 8, 3) := by decide +kernel
theorem d2_31 : decode prog_6_method_2_code 31 = .ok (.dup, 1) := by decide +kernel
theorem d2_32 : decode prog_6_method_2_code 32 = .ok (.aload_n 1, 1) := by decide +kernel
theorem d2_33 : decode prog_6_method_2_code 33 = .ok (.invokestatic 34, 3) := by decide +kernel
theorem pd_2 : parseMethodDescriptor "()Ljava/util/List;" = some ⟨[], some (.object "java/util/List")⟩ := by decide +kernel
theorem d2_36 : decode prog_6_method_2_code 36 = .ok (.iload_n 0, 1) := by decide +kernel
theorem d2_37 : decode prog_6_method_2_code 37 = .ok (.iconst 1, 1) := by decide +kernel
theorem d2_38 : decode prog_6_method_2_code 38 = .ok (.invokespecial 40, 3) := by decide +kernel
theorem pd_3 : parseMethodDescriptor "(Ljava/lang/Object;Ljava/util/List;IZ)V" = some ⟨[(.object "java/lang/Object"), (.object "java/util/List"), .int, .boolean], none⟩ := by decide +kernel
theorem d2_41 : decode prog_6_method_2_code 41 = .ok (.areturn, 1) := by decide +kernel
theorem ef_suR (m : MethodId) (pI1 : Int32) (pR2 : Addr) : entryFrame m #[(.int pI1), (.ref pR2)] 2 = mkF m 0 #[.val (.int pI1), .val (.ref pR2)] [] := by first | (simp [entryFrame, mkF, argsToLocals, Value.category]; done) | rfl
def QsuR (Z : State) (pI1 : Int32) (pR2 : Addr) (pR10 : Addr) (h0 : Heap) (n0 : Nat) (v : Option Value) (h : Heap) (L : List Loc) : Prop := ∃ bR3 : Addr, v = some (.ref bR3) ∧ Fr n0 L ∧ Keep h0 h [] ∧ h0.size ≤ bR3 ∧ Exa Z h bR3 "com/example/willenhall/willenhall/api/ResponseEnvelope" ∧ Fld Z h bR3 "com/example/willenhall/willenhall/api/ResponseEnvelope" "result" "Ljava/lang/Object;" (.ref pR2) ∧ Fld Z h bR3 "com/example/willenhall/willenhall/api/ResponseEnvelope" "errorMessages" "Ljava/util/List;" (.ref pR10) ∧ Fld Z h bR3 "com/example/willenhall/willenhall/api/ResponseEnvelope" "statusCode" "I" (.int pI1) ∧ Fld Z h bR3 "com/example/willenhall/willenhall/api/ResponseEnvelope" "success" "Z" (.int (1 : Int32))
set_option maxRecDepth 65536 in
set_option maxHeartbeats 40000000 in
theorem suR (l : Launch) (Z : State) (a0 : Array Value) (hw : ∀ d ∈ tables_1, d.before a0 Z = true) (ws : List Jvm.Cond) (pI1 : Int32) (pR2 : Addr) (pR10 : Addr) (h0 : Heap) (n0 : Nat) (Z0 : n0 ≤ h0.size) (S_ImmutableCollections_EMPTY_LIST : Sta Z h0 "java/util/ImmutableCollections" "EMPTY_LIST" "Ljava/util/ImmutableCollections$ListN;" (.ref pR10)) (hc4 : ¬ (pI1 < (200 : Int32))) (hc11 : ¬ ((299 : Int32) < pI1)) :
    MetFree l yN5 (head1 (Jvm.Cond.code yN5 prog_6_method_2_code 2 (some (.object "com/example/willenhall/willenhall/api/ResponseEnvelope")) :: ws) ({ frames := 2, cells := 1, slots := 4, locals := 29 } : Room)) (fun a U => a = #[(.int pI1), (.ref pR2)] ∧ Z.Warmed39 U.vm ∧ U.heap = h0) (fun _ _ _ _ _ => True) (fun _ U o U' => ∃ v L, o = .returned v ∧ QsuR Z pI1 pR2 pR10 h0 n0 v U'.heap L ∧ FrameEnd U o U' L ({ frames := 2, cells := 1, slots := 4, locals := 29 } : Room).cells ({ frames := 2, cells := 1, slots := 4, locals := 29 } : Room).slots) := by
  refine MetFree.of_bodySF (plainFor_of_name pn_3) hisR ?_
  intro p e s m args below meth c s₁ Bd hml0 hP hK
  obtain ⟨rfl, hZ, hh⟩ := hP
  have hx := Bd.exec
  have hby := Bd.bytes
  have hml : c.maxLocals = 2 := hml0
  have hown : s.vm.findClass "com/example/willenhall/willenhall/api/ResponseEnvelope" = some m.cls := findClass_of_methodNamed Bd.named
  have hnm := (name_of_methodNamed Bd.named Bd.method).1
  have X0 : Stand p l e ({ frames := 2, cells := 1, slots := 4, locals := 29 } : Room) s m #[(.int pI1), (.ref pR2)] below meth c s₁ [] 0 0 := Stand.of_body Bd
  have e0 : s₁.heap = h0 := by rw [← hh, Bd.state]; rfl
  have N0 := Fr.nil n0
  have pre0 : ∀ t, Steps p.tables e below (s₁.setTop (mkF m 0 #[.val (.int pI1), .val (.ref pR2)] [])) t → Steps p.tables e below (s₁.setTop (entryFrame m #[(.int pI1), (.ref pR2)] 2)) t := fun t k => castTop (ef_suR m pI1 pR2) k
  obtain ⟨T3, h3, X3, e3, E3, A3, D3, U3, st3⟩ := newO X0 hx hZ hown (ow hw 12 rfl) (ow hw 13 rfl) (ow hw 10 rfl) e0 (g := (mkF m 28 #[.val (.int pI1), .val (.ref pR2)] [])) rfl (hb hby d2_28) (by decide) (by decide)
  obtain ⟨bR3, g3⟩ : ∃ z, z = h0.size := ⟨_, rfl⟩
  rw [← g3] at A3 D3 U3 st3
  have K4 : Keep h0 h3 [] := (Keep.refl h0 []).ext E3
  have Z5 : n0 ≤ h3.size := (Nat.le_trans Z0 E3.1)
  have F6 : Fld Z h3 bR3 "com/example/willenhall/willenhall/api/ResponseEnvelope" "result" "Ljava/lang/Object;" .null := D3 (Or.inr (ow hw 27 rfl)) (ty := (.object "java/lang/Object")) (by decide)
  have F7 : Fld Z h3 bR3 "com/example/willenhall/willenhall/api/ResponseEnvelope" "errorMessages" "Ljava/util/List;" .null := D3 (Or.inr (ow hw 29 rfl)) (ty := (.object "java/util/List")) (by decide)
  have F8 : Fld Z h3 bR3 "com/example/willenhall/willenhall/api/ResponseEnvelope" "statusCode" "I" (.int (0 : Int32)) := D3 (Or.inr (ow hw 31 rfl)) (ty := .int) (by decide)
  have F9 : Fld Z h3 bR3 "com/example/willenhall/willenhall/api/ResponseEnvelope" "success" "Z" (.int (0 : Int32)) := D3 (Or.inr (ow hw 33 rfl)) (ty := .boolean) (by decide)
  have c11 : Sta Z h3 "java/util/ImmutableCollections" "EMPTY_LIST" "Ljava/util/ImmutableCollections$ListN;" (.ref pR10) := S_ImmutableCollections_EMPTY_LIST.ext E3
  obtain ⟨_, _, ⟨T12, L12, k12, n12⟩, -, X12, ⟨Lc12, hQ12, l12, y12, z12⟩, st12⟩ := Jvm.LawKit.callS X3 hx (y := yN3) hown (mvT hZ (ow hw 14 rfl)) (mvT hZ (ow hw 15 rfl)) (mvT hZ (ow hw 16 rfl)) (mvT hZ (ow hw 17 rfl)) (by decide) (backOf (W := 3) (listOf l Z a0 hw [] pR10 h3 n0 Z5 c11) hZ (ow hw 17 rfl) (ow hw 16 rfl) (by decide) (by decide)) (g := (mkF m 33 #[.val (.int pI1), .val (.ref pR2)] [(.ref pR2), (.ref bR3), (.ref bR3)])) rfl (by rw [hml]; rfl) (argsL := []) (rest := [(.ref pR2), (.ref bR3), (.ref bR3)]) (lenOf pd_2 rfl) rfl (by show 2 * 0 + _ ≤ _; exact Nat.le_of_eq rfl) (hb hby d2_33) (fun _ _ => ⟨rfl, e3, (by decide : 1 + 0 ≤ _), (by decide : 4 + 0 ≤ _)⟩)
  dsimp only [Pt.U, Pt.locs, Pt.cells, Pt.slots] at X12 l12 y12 z12 st12 hQ12
  subst l12 y12 z12
  obtain ⟨rfl, Nq12, e12⟩ := hQ12
  have N12 := Fr.app N0 Nq12
  have g13 : n0 ≤ bR3 := Nat.le_trans Z0 (Nat.le_of_eq g3.symm)
  obtain ⟨_, _, ⟨T14, L14, k14, n14⟩, -, X14, ⟨Lc14, hQ14, l14, y14, z14⟩, st14⟩ := X12.specialBack hx (y := yN4) rfl hown (mvT hZ (ow hw 20 rfl)) (mvT hZ (ow hw 21 rfl)) (mvT hZ (ow hw 22 rfl)) (by decide) (backOf (W := 1) (ctR l Z a0 hw [] bR3 pR2 pR10 pI1 h3 n0 Z5 A3 F6 g13 F7 F8 F9) hZ (ow hw 22 rfl) (ow hw 10 rfl) (by decide) (by decide)) (g := (mkF m 38 #[.val (.int pI1), .val (.ref pR2)] [(.int (1 : Int32)), (.int pI1), (.ref pR10), (.ref pR2), (.ref bR3), (.ref bR3)])) rfl (by rw [hml]; rfl) (Steps.refl _) (a := bR3) (argsL := [(.ref pR2), (.ref pR10), (.int pI1), (.int (1 : Int32))]) (rest := [(.ref bR3)]) (lenOf pd_3 rfl) rfl (by show 2 * 0 + _ ≤ _; exact Nat.le_of_eq rfl) (hb hby d2_38) (fun _ _ => ⟨rfl, e12, (by decide : 1 + 0 ≤ _), (by decide : 4 + 0 ≤ _)⟩)
  dsimp only [Pt.U, Pt.locs, Pt.cells, Pt.slots] at X14 l14 y14 z14 st14 hQ14
  subst l14 y14 z14
  obtain ⟨rfl, Nq14, Kq14, x14_0, x14_1, x14_2, x14_3, x14_4⟩ := hQ14
  have N14 := Fr.app N12 Nq14
  obtain ⟨Lh14, X14, N14⟩ := own_hide X14 N14
  have K15 : Keep h0 T14.heap [] := K4.trans Kq14 (allS (Or.inr (Nat.le_of_eq g3.symm)) all0)
  have Z16 : n0 ≤ T14.heap.size := (Nat.le_trans Z5 Kq14.1)
  obtain ⟨fs, hr, hrun, hended, hW, hsame⟩ := X14.leave (v := some (.ref bR3)) (fun h => by rw [Bd.returns] at h; cases h)
  refine ⟨_, _, pre0 _ ?_, hrun, hended, _, _, rfl, ?_, ⟨_, rfl⟩, hW, hsame.mono (by decide) (by decide)⟩
  · show oS p e below s₁ m 0 #[.val (.int pI1), .val (.ref pR2)] [] _
    refine XS.iloadN X0.here hx rfl (hb hby d2_0) rfl ?_
    refine XS.sipush X0.here hx rfl (hb hby d2_1) ?_
    refine XS.icmpNo X0.here hx rfl (hb hby d2_4) rfl (flt hc4).1 ?_
    refine XS.iloadN X0.here hx rfl (hb hby d2_7) rfl ?_
    show oS p e below s₁ m 8 #[.val (.int pI1), .val (.ref pR2)] [(.int pI1)] _
    refine XS.sipush X0.here hx rfl (hb hby d2_8) ?_
    refine XS.icmpYes X0.here hx rfl (pc0 := 11) (pc' := 28) rfl (hb hby d2_11) rfl (flt hc11).2.2.2 (by decide) (by decide) ?_
    refine st3 _ ?_
    refine XS.dup X3.here hx rfl (hb hby d2_31) rfl rfl ?_
    show oS p e below T3 m 32 #[.val (.int pI1), .val (.ref pR2)] [(.ref bR3), (.ref bR3)] _
    refine XS.aloadN X3.here hx rfl (hb hby d2_32) rfl rfl ?_
    refine st12 _ ?_
    refine XS.iloadN X12.here hx rfl (hb hby d2_36) rfl ?_
    refine XS.iconst X12.here hx rfl (hb hby d2_37) ?_
    show oS p e below T12 m 38 #[.val (.int pI1), .val (.ref pR2)] [(.int (1 : Int32)), (.int pI1), (.ref pR10), (.ref pR2), (.ref bR3), (.ref bR3)] _
    refine st14.trans ?_
    exact retOut X14 hx Bd.returns rfl (Or.inr (Or.inr (Or.inr (Or.inr ⟨rfl, rfl, rfl⟩)))) (hb hby d2_41) hr
  · show QsuR Z pI1 pR2 pR10 h0 n0 _ T14.heap _
    exact ⟨bR3, rfl, N14, K15, (Nat.le_of_eq g3.symm), x14_0, x14_1, x14_2, x14_3, x14_4⟩
theorem ef_suN (m : MethodId) (pI1 : Int32) : entryFrame m #[(.int pI1), .null] 2 = mkF m 0 #[.val (.int pI1), .val .null] [] := by first | (simp [entryFrame, mkF, argsToLocals, Value.category]; done) | rfl
def QsuN (Z : State) (pI1 : Int32) (pR9 : Addr) (h0 : Heap) (n0 : Nat) (v : Option Value) (h : Heap) (L : List Loc) : Prop := ∃ bR2 : Addr, v = some (.ref bR2) ∧ Fr n0 L ∧ Keep h0 h [] ∧ h0.size ≤ bR2 ∧ Exa Z h bR2 "com/example/willenhall/willenhall/api/ResponseEnvelope" ∧ Fld Z h bR2 "com/example/willenhall/willenhall/api/ResponseEnvelope" "result" "Ljava/lang/Object;" .null ∧ Fld Z h bR2 "com/example/willenhall/willenhall/api/ResponseEnvelope" "errorMessages" "Ljava/util/List;" (.ref pR9) ∧ Fld Z h bR2 "com/example/willenhall/willenhall/api/ResponseEnvelope" "statusCode" "I" (.int pI1) ∧ Fld Z h bR2 "com/example/willenhall/willenhall/api/ResponseEnvelope" "success" "Z" (.int (1 : Int32))
set_option maxRecDepth 65536 in
set_option maxHeartbeats 40000000 in
theorem suN (l : Launch) (Z : State) (a0 : Array Value) (hw : ∀ d ∈ tables_1, d.before a0 Z = true) (ws : List Jvm.Cond) (pI1 : Int32) (pR9 : Addr) (h0 : Heap) (n0 : Nat) (Z0 : n0 ≤ h0.size) (S_ImmutableCollections_EMPTY_LIST : Sta Z h0 "java/util/ImmutableCollections" "EMPTY_LIST" "Ljava/util/ImmutableCollections$ListN;" (.ref pR9)) (hc4 : ¬ (pI1 < (200 : Int32))) (hc11 : ¬ ((299 : Int32) < pI1)) :
    MetFree l yN5 (head1 (Jvm.Cond.code yN5 prog_6_method_2_code 2 (some (.object "com/example/willenhall/willenhall/api/ResponseEnvelope")) :: ws) ({ frames := 2, cells := 1, slots := 4, locals := 29 } : Room)) (fun a U => a = #[(.int pI1), .null] ∧ Z.Warmed39 U.vm ∧ U.heap = h0) (fun _ _ _ _ _ => True) (fun _ U o U' => ∃ v L, o = .returned v ∧ QsuN Z pI1 pR9 h0 n0 v U'.heap L ∧ FrameEnd U o U' L ({ frames := 2, cells := 1, slots := 4, locals := 29 } : Room).cells ({ frames := 2, cells := 1, slots := 4, locals := 29 } : Room).slots) := by
  refine MetFree.of_bodySF (plainFor_of_name pn_3) hisR ?_
  intro p e s m args below meth c s₁ Bd hml0 hP hK
  obtain ⟨rfl, hZ, hh⟩ := hP
  have hx := Bd.exec
  have hby := Bd.bytes
  have hml : c.maxLocals = 2 := hml0
  have hown : s.vm.findClass "com/example/willenhall/willenhall/api/ResponseEnvelope" = some m.cls := findClass_of_methodNamed Bd.named
  have hnm := (name_of_methodNamed Bd.named Bd.method).1
  have X0 : Stand p l e ({ frames := 2, cells := 1, slots := 4, locals := 29 } : Room) s m #[(.int pI1), .null] below meth c s₁ [] 0 0 := Stand.of_body Bd
  have e0 : s₁.heap = h0 := by rw [← hh, Bd.state]; rfl
  have N0 := Fr.nil n0
  have pre0 : ∀ t, Steps p.tables e below (s₁.setTop (mkF m 0 #[.val (.int pI1), .val .null] [])) t → Steps p.tables e below (s₁.setTop (entryFrame m #[(.int pI1), .null] 2)) t := fun t k => castTop (ef_suN m pI1) k
  obtain ⟨T2, h2, X2, e2, E2, A2, D2, U2, st2⟩ := newO X0 hx hZ hown (ow hw 12 rfl) (ow hw 13 rfl) (ow hw 10 rfl) e0 (g := (mkF m 28 #[.val (.int pI1), .val .null] [])) rfl (hb hby d2_28) (by decide) (by decide)
  obtain ⟨bR2, g2⟩ : ∃ z, z = h0.size := ⟨_, rfl⟩
  rw [← g2] at A2 D2 U2 st2
  have K3 : Keep h0 h2 [] := (Keep.refl h0 []).ext E2
  have Z4 : n0 ≤ h2.size := (Nat.le_trans Z0 E2.1)
  have F5 : Fld Z h2 bR2 "com/example/willenhall/willenhall/api/ResponseEnvelope" "result" "Ljava/lang/Object;" .null := D2 (Or.inr (ow hw 27 rfl)) (ty := (.object "java/lang/Object")) (by decide)
  have F6 : Fld Z h2 bR2 "com/example/willenhall/willenhall/api/ResponseEnvelope" "errorMessages" "Ljava/util/List;" .null := D2 (Or.inr (ow hw 29 rfl)) (ty := (.object "java/util/List")) (by decide)
  have F7 : Fld Z h2 bR2 "com/example/willenhall/willenhall/api/ResponseEnvelope" "statusCode" "I" (.int (0 : Int32)) := D2 (Or.inr (ow hw 31 rfl)) (ty := .int) (by decide)
  have F8 : Fld Z h2 bR2 "com/example/willenhall/willenhall/api/ResponseEnvelope" "success" "Z" (.int (0 : Int32)) := D2 (Or.inr (ow hw 33 rfl)) (ty := .boolean) (by decide)
  have c10 : Sta Z h2 "java/util/ImmutableCollections" "EMPTY_LIST" "Ljava/util/ImmutableCollections$ListN;" (.ref pR9) := S_ImmutableCollections_EMPTY_LIST.ext E2
  obtain ⟨_, _, ⟨T11, L11, k11, n11⟩, -, X11, ⟨Lc11, hQ11, l11, y11, z11⟩, st11⟩ := Jvm.LawKit.callS X2 hx (y := yN3) hown (mvT hZ (ow hw 14 rfl)) (mvT hZ (ow hw 15 rfl)) (mvT hZ (ow hw 16 rfl)) (mvT hZ (ow hw 17 rfl)) (by decide) (backOf (W := 3) (listOf l Z a0 hw [] pR9 h2 n0 Z4 c10) hZ (ow hw 17 rfl) (ow hw 16 rfl) (by decide) (by decide)) (g := (mkF m 33 #[.val (.int pI1), .val .null] [.null, (.ref bR2), (.ref bR2)])) rfl (by rw [hml]; rfl) (argsL := []) (rest := [.null, (.ref bR2), (.ref bR2)]) (lenOf pd_2 rfl) rfl (by show 2 * 0 + _ ≤ _; exact Nat.le_of_eq rfl) (hb hby d2_33) (fun _ _ => ⟨rfl, e2, (by decide : 1 + 0 ≤ _), (by decide : 4 + 0 ≤ _)⟩)
  dsimp only [Pt.U, Pt.locs, Pt.cells, Pt.slots] at X11 l11 y11 z11 st11 hQ11
  subst l11 y11 z11
  obtain ⟨rfl, Nq11, e11⟩ := hQ11
  have N11 := Fr.app N0 Nq11
  have g12 : n0 ≤ bR2 := Nat.le_trans Z0 (Nat.le_of_eq g2.symm)
  obtain ⟨_, _, ⟨T13, L13, k13, n13⟩, -, X13, ⟨Lc13, hQ13, l13, y13, z13⟩, st13⟩ := X11.specialBack hx (y := yN4) rfl hown (mvT hZ (ow hw 20 rfl)) (mvT hZ (ow hw 21 rfl)) (mvT hZ (ow hw 22 rfl)) (by decide) (backOf (W := 1) (ctN l Z a0 hw [] bR2 pR9 pI1 h2 n0 Z4 A2 F5 g12 F6 F7 F8) hZ (ow hw 22 rfl) (ow hw 10 rfl) (by decide) (by decide)) (g := (mkF m 38 #[.val (.int pI1), .val .null] [(.int (1 : Int32)), (.int pI1), (.ref pR9), .null, (.ref bR2), (.ref bR2)])) rfl (by rw [hml]; rfl) (Steps.refl _) (a := bR2) (argsL := [.null, (.ref pR9), (.int pI1), (.int (1 : Int32))]) (rest := [(.ref bR2)]) (lenOf pd_3 rfl) rfl (by show 2 * 0 + _ ≤ _; exact Nat.le_of_eq rfl) (hb hby d2_38) (fun _ _ => ⟨rfl, e11, (by decide : 1 + 0 ≤ _), (by decide : 4 + 0 ≤ _)⟩)
  dsimp only [Pt.U, Pt.locs, Pt.cells, Pt.slots] at X13 l13 y13 z13 st13 hQ13
  subst l13 y13 z13
  obtain ⟨rfl, Nq13, Kq13, x13_0, x13_1, x13_2, x13_3, x13_4⟩ := hQ13
  have N13 := Fr.app N11 Nq13
  obtain ⟨Lh13, X13, N13⟩ := own_hide X13 N13
  have K14 : Keep h0 T13.heap [] := K3.trans Kq13 (allS (Or.inr (Nat.le_of_eq g2.symm)) all0)
  have Z15 : n0 ≤ T13.heap.size := (Nat.le_trans Z4 Kq13.1)
  obtain ⟨fs, hr, hrun, hended, hW, hsame⟩ := X13.leave (v := some (.ref bR2)) (fun h => by rw [Bd.returns] at h; cases h)
  refine ⟨_, _, pre0 _ ?_, hrun, hended, _, _, rfl, ?_, ⟨_, rfl⟩, hW, hsame.mono (by decide) (by decide)⟩
  · show oS p e below s₁ m 0 #[.val (.int pI1), .val .null] [] _
    refine XS.iloadN X0.here hx rfl (hb hby d2_0) rfl ?_
    refine XS.sipush X0.here hx rfl (hb hby d2_1) ?_
    refine XS.icmpNo X0.here hx rfl (hb hby d2_4) rfl (flt hc4).1 ?_
    refine XS.iloadN X0.here hx rfl (hb hby d2_7) rfl ?_
    show oS p e below s₁ m 8 #[.val (.int pI1), .val .null] [(.int pI1)] _
    refine XS.sipush X0.here hx rfl (hb hby d2_8) ?_
    refine XS.icmpYes X0.here hx rfl (pc0 := 11) (pc' := 28) rfl (hb hby d2_11) rfl (flt hc11).2.2.2 (by decide) (by decide) ?_
    refine st2 _ ?_
    refine XS.dup X2.here hx rfl (hb hby d2_31) rfl rfl ?_
    show oS p e below T2 m 32 #[.val (.int pI1), .val .null] [(.ref bR2), (.ref bR2)] _
    refine XS.aloadN X2.here hx rfl (hb hby d2_32) rfl rfl ?_
    refine st11 _ ?_
    refine XS.iloadN X11.here hx rfl (hb hby d2_36) rfl ?_
    refine XS.iconst X11.here hx rfl (hb hby d2_37) ?_
    show oS p e below T11 m 38 #[.val (.int pI1), .val .null] [(.int (1 : Int32)), (.int pI1), (.ref pR9), .null, (.ref bR2), (.ref bR2)] _
    refine st13.trans ?_
    exact retOut X13 hx Bd.returns rfl (Or.inr (Or.inr (Or.inr (Or.inr ⟨rfl, rfl, rfl⟩)))) (hb hby d2_41) hr
  · show QsuN Z pI1 pR9 h0 n0 _ T13.heap _
    exact ⟨bR2, rfl, N13, K14, (Nat.le_of_eq g2.symm), x13_0, x13_1, x13_2, x13_3, x13_4⟩
theorem d6_0 : decode prog_6_method_4_code 0 = .ok (.aload_n 0, 1) := by decide +kernel
theorem d6_1 : decode prog_6_method_4_code 1 = .ok (.getfield 7, 3) := by decide +kernel
theorem d6_4 : decode prog_6_method_4_code 4 = .ok (.areturn, 1) := by decide +kernel
theorem ef_grR (m : MethodId) (pR1 : Addr) : entryFrame m #[(.ref pR1)] 1 = mkF m 0 #[.val (.ref pR1)] [] := by first | (simp [entryFrame, mkF, argsToLocals, Value.category]; done) | rfl
def QgrR (Z : State) (pR1 : Addr) (pR2 : Addr) (h0 : Heap) (n0 : Nat) (v : Option Value) (h : Heap) (L : List Loc) : Prop := v = some (.ref pR2) ∧ Fr n0 L ∧ h = h0
set_option maxRecDepth 65536 in
set_option maxHeartbeats 40000000 in
theorem grR (l : Launch) (Z : State) (a0 : Array Value) (hw : ∀ d ∈ tables_1, d.before a0 Z = true) (ws : List Jvm.Cond) (pR1 : Addr) (pR2 : Addr) (h0 : Heap) (n0 : Nat) (Z0 : n0 ≤ h0.size) (F_result_pR1 : Fld Z h0 pR1 "com/example/willenhall/willenhall/api/ResponseEnvelope" "result" "Ljava/lang/Object;" (.ref pR2)) :
    MetFree l yN6 (head1 (Jvm.Cond.code yN6 prog_6_method_4_code 1 (some (.object "java/lang/Object")) :: ws) ({ frames := 0, cells := 0, slots := 0, locals := 0 } : Room)) (fun a U => a = #[(.ref pR1)] ∧ Z.Warmed39 U.vm ∧ U.heap = h0) (fun _ _ _ _ _ => True) (fun _ U o U' => ∃ v L, o = .returned v ∧ QgrR Z pR1 pR2 h0 n0 v U'.heap L ∧ FrameEnd U o U' L ({ frames := 0, cells := 0, slots := 0, locals := 0 } : Room).cells ({ frames := 0, cells := 0, slots := 0, locals := 0 } : Room).slots) := by
  refine MetFree.of_bodySF (plainFor_of_name pn_3) hisR ?_
  intro p e s m args below meth c s₁ Bd hml0 hP hK
  obtain ⟨rfl, hZ, hh⟩ := hP
  have hx := Bd.exec
  have hby := Bd.bytes
  have hml : c.maxLocals = 1 := hml0
  have hown : s.vm.findClass "com/example/willenhall/willenhall/api/ResponseEnvelope" = some m.cls := findClass_of_methodNamed Bd.named
  have hnm := (name_of_methodNamed Bd.named Bd.method).1
  have X0 : Stand p l e ({ frames := 0, cells := 0, slots := 0, locals := 0 } : Room) s m #[(.ref pR1)] below meth c s₁ [] 0 0 := Stand.of_body Bd
  have e0 : s₁.heap = h0 := by rw [← hh, Bd.state]; rfl
  have N0 := Fr.nil n0
  have pre0 : ∀ t, Steps p.tables e below (s₁.setTop (mkF m 0 #[.val (.ref pR1)] [])) t → Steps p.tables e below (s₁.setTop (entryFrame m #[(.ref pR1)] 1)) t := fun t k => castTop (ef_grR m pR1) k
  obtain ⟨T3, X3, e3, st3⟩ := getF X0 hx hZ hown (host := "") (Or.inl (ow hw 26 rfl)) Via.refl e0 F_result_pR1 (g := (mkF m 1 #[.val (.ref pR1)] [(.ref pR1)])) rfl rfl (hb hby d6_1)
  obtain ⟨fs, hr, hrun, hended, hW, hsame⟩ := X3.leave (v := some (.ref pR2)) (fun h => by rw [Bd.returns] at h; cases h)
  refine ⟨_, _, pre0 _ ?_, hrun, hended, _, _, rfl, ?_, ⟨_, rfl⟩, hW, hsame.mono (by decide) (by decide)⟩
  · show oS p e below s₁ m 0 #[.val (.ref pR1)] [] _
    refine XS.aloadN X0.here hx rfl (hb hby d6_0) rfl rfl ?_
    refine st3 _ ?_
    exact retOut X3 hx Bd.returns rfl (Or.inr (Or.inr (Or.inr (Or.inr ⟨rfl, rfl, rfl⟩)))) (hb hby d6_4) hr
  · show QgrR Z pR1 pR2 h0 n0 _ T3.heap _
    rw [e3]
    exact ⟨rfl, N0, rfl⟩
theorem ef_grN (m : MethodId) (pR1 : Addr) : entryFrame m #[(.ref pR1)] 1 = mkF m 0 #[.val (.ref pR1)] [] := by first | (simp [entryFrame, mkF, argsToLocals, Value.category]; done) | rfl
def QgrN (Z : State) (pR1 : Addr) (h0 : Heap) (n0 : Nat) (v : Option Value) (h : Heap) (L : List Loc) : Prop := v = some .null ∧ Fr n0 L ∧ h = h0
set_option maxRecDepth 65536 in
set_option maxHeartbeats 40000000 in
theorem grN (l : Launch) (Z : State) (a0 : Array Value) (hw : ∀ d ∈ tables_1, d.before a0 Z = true) (ws : List Jvm.Cond) (pR1 : Addr) (h0 : Heap) (n0 : Nat) (Z0 : n0 ≤ h0.size) (F_result_pR1 : Fld Z h0 pR1 "com/example/willenhall/willenhall/api/ResponseEnvelope" "result" "Ljava/lang/Object;" .null) :
    MetFree l yN6 (head1 (Jvm.Cond.code yN6 prog_6_method_4_code 1 (some (.object "java/lang/Object")) :: ws) ({ frames := 0, cells := 0, slots := 0, locals := 0 } : Room)) (fun a U => a = #[(.ref pR1)] ∧ Z.Warmed39 U.vm ∧ U.heap = h0) (fun _ _ _ _ _ => True) (fun _ U o U' => ∃ v L, o = .returned v ∧ QgrN Z pR1 h0 n0 v U'.heap L ∧ FrameEnd U o U' L ({ frames := 0, cells := 0, slots := 0, locals := 0 } : Room).cells ({ frames := 0, cells := 0, slots := 0, locals := 0 } : Room).slots) := by
  refine MetFree.of_bodySF (plainFor_of_name pn_3) hisR ?_
  intro p e s m args below meth c s₁ Bd hml0 hP hK
  obtain ⟨rfl, hZ, hh⟩ := hP
  have hx := Bd.exec
  have hby := Bd.bytes
  have hml : c.maxLocals = 1 := hml0
  have hown : s.vm.findClass "com/example/willenhall/willenhall/api/ResponseEnvelope" = some m.cls := findClass_of_methodNamed Bd.named
  have hnm := (name_of_methodNamed Bd.named Bd.method).1
  have X0 : Stand p l e ({ frames := 0, cells := 0, slots := 0, locals := 0 } : Room) s m #[(.ref pR1)] below meth c s₁ [] 0 0 := Stand.of_body Bd
  have e0 : s₁.heap = h0 := by rw [← hh, Bd.state]; rfl
  have N0 := Fr.nil n0
  have pre0 : ∀ t, Steps p.tables e below (s₁.setTop (mkF m 0 #[.val (.ref pR1)] [])) t → Steps p.tables e below (s₁.setTop (entryFrame m #[(.ref pR1)] 1)) t := fun t k => castTop (ef_grN m pR1) k
  obtain ⟨T2, X2, e2, st2⟩ := getF X0 hx hZ hown (host := "") (Or.inl (ow hw 26 rfl)) Via.refl e0 F_result_pR1 (g := (mkF m 1 #[.val (.ref pR1)] [(.ref pR1)])) rfl rfl (hb hby d6_1)
  obtain ⟨fs, hr, hrun, hended, hW, hsame⟩ := X2.leave (v := some .null) (fun h => by rw [Bd.returns] at h; cases h)
  refine ⟨_, _, pre0 _ ?_, hrun, hended, _, _, rfl, ?_, ⟨_, rfl⟩, hW, hsame.mono (by decide) (by decide)⟩
  · show oS p e below s₁ m 0 #[.val (.ref pR1)] [] _
    refine XS.aloadN X0.here hx rfl (hb hby d6_0) rfl rfl ?_
    refine st2 _ ?_
    exact retOut X2 hx Bd.returns rfl (Or.inr (Or.inr (Or.inr (Or.inr ⟨rfl, rfl, rfl⟩)))) (hb hby d6_4) hr
  · show QgrN Z pR1 h0 n0 _ T2.heap _
    rw [e2]
    exact ⟨rfl, N0, rfl⟩
theorem d7_0 : decode prog_6_method_6_code 0 = .ok (.aload_n 0, 1) := by decide +kernel
theorem d7_1 : decode prog_6_method_6_code 1 = .ok (.getfield 17, 3) := by decide +kernel
theorem d7_4 : decode prog_6_method_6_code 4 = .ok (.ireturn, 1) := by decide +kernel
theorem ef_gsc (m : MethodId) (pR1 : Addr) : entryFrame m #[(.ref pR1)] 1 = mkF m 0 #[.val (.ref pR1)] [] := by first | (simp [entryFrame, mkF, argsToLocals, Value.category]; done) | rfl
def Qgsc (Z : State) (pR1 : Addr) (pI2 : Int32) (h0 : Heap) (n0 : Nat) (v : Option Value) (h : Heap) (L : List Loc) : Prop := v = some (.int pI2) ∧ Fr n0 L ∧ h = h0
set_option maxRecDepth 65536 in
set_option maxHeartbeats 40000000 in
theorem gsc (l : Launch) (Z : State) (a0 : Array Value) (hw : ∀ d ∈ tables_1, d.before a0 Z = true) (ws : List Jvm.Cond) (pR1 : Addr) (pI2 : Int32) (h0 : Heap) (n0 : Nat) (Z0 : n0 ≤ h0.size) (F_statusCode_pR1 : Fld Z h0 pR1 "com/example/willenhall/willenhall/api/ResponseEnvelope" "statusCode" "I" (.int pI2)) :
    MetFree l yN7 (head1 (Jvm.Cond.code yN7 prog_6_method_6_code 1 (some .int) :: ws) ({ frames := 0, cells := 0, slots := 0, locals := 0 } : Room)) (fun a U => a = #[(.ref pR1)] ∧ Z.Warmed39 U.vm ∧ U.heap = h0) (fun _ _ _ _ _ => True) (fun _ U o U' => ∃ v L, o = .returned v ∧ Qgsc Z pR1 pI2 h0 n0 v U'.heap L ∧ FrameEnd U o U' L ({ frames := 0, cells := 0, slots := 0, locals := 0 } : Room).cells ({ frames := 0, cells := 0, slots := 0, locals := 0 } : Room).slots) := by
  refine MetFree.of_bodySF (plainFor_of_name pn_3) hisR ?_
  intro p e s m args below meth c s₁ Bd hml0 hP hK
  obtain ⟨rfl, hZ, hh⟩ := hP
  have hx := Bd.exec
  have hby := Bd.bytes
  have hml : c.maxLocals = 1 := hml0
  have hown : s.vm.findClass "com/example/willenhall/willenhall/api/ResponseEnvelope" = some m.cls := findClass_of_methodNamed Bd.named
  have hnm := (name_of_methodNamed Bd.named Bd.method).1
  have X0 : Stand p l e ({ frames := 0, cells := 0, slots := 0, locals := 0 } : Room) s m #[(.ref pR1)] below meth c s₁ [] 0 0 := Stand.of_body Bd
  have e0 : s₁.heap = h0 := by rw [← hh, Bd.state]; rfl
  have N0 := Fr.nil n0
  have pre0 : ∀ t, Steps p.tables e below (s₁.setTop (mkF m 0 #[.val (.ref pR1)] [])) t → Steps p.tables e below (s₁.setTop (entryFrame m #[(.ref pR1)] 1)) t := fun t k => castTop (ef_gsc m pR1) k
  obtain ⟨T3, X3, e3, st3⟩ := getF X0 hx hZ hown (host := "") (Or.inl (ow hw 30 rfl)) Via.refl e0 F_statusCode_pR1 (g := (mkF m 1 #[.val (.ref pR1)] [(.ref pR1)])) rfl rfl (hb hby d7_1)
  obtain ⟨fs, hr, hrun, hended, hW, hsame⟩ := X3.leave (v := some (.int pI2)) (fun h => by rw [Bd.returns] at h; cases h)
  refine ⟨_, _, pre0 _ ?_, hrun, hended, _, _, rfl, ?_, ⟨_, rfl⟩, hW, hsame.mono (by decide) (by decide)⟩
  · show oS p e below s₁ m 0 #[.val (.ref pR1)] [] _
    refine XS.aloadN X0.here hx rfl (hb hby d7_0) rfl rfl ?_
    refine st3 _ ?_
    exact retI X3 hx Bd.returns (hb hby d7_4) hr
  · show Qgsc Z pR1 pI2 h0 n0 _ T3.heap _
    rw [e3]
    exact ⟨rfl, N0, rfl⟩
theorem d8_0 : decode prog_6_method_7_code 0 = .ok (.aload_n 0, 1) := by decide +kernel
theorem d8_1 : decode prog_6_method_7_code 1 = .ok (.getfield 21, 3) := by decide +kernel
theorem d8_4 : decode prog_6_method_7_code 4 = .ok (.ireturn, 1) := by decide +kernel
theorem ef_isS (m : MethodId) (pR1 : Addr) : entryFrame m #[(.ref pR1)] 1 = mkF m 0 #[.val (.ref pR1)] [] := by first | (simp [entryFrame, mkF, argsToLocals, Value.category]; done) | rfl
def QisS (Z : State) (pR1 : Addr) (h0 : Heap) (n0 : Nat) (v : Option Value) (h : Heap) (L : List Loc) : Prop := v = some (.int (1 : Int32)) ∧ Fr n0 L ∧ h = h0
set_option maxRecDepth 65536 in
set_option maxHeartbeats 40000000 in
theorem isS (l : Launch) (Z : State) (a0 : Array Value) (hw : ∀ d ∈ tables_1, d.before a0 Z = true) (ws : List Jvm.Cond) (pR1 : Addr) (h0 : Heap) (n0 : Nat) (Z0 : n0 ≤ h0.size) (F_success_pR1 : Fld Z h0 pR1 "com/example/willenhall/willenhall/api/ResponseEnvelope" "success" "Z" (.int (1 : Int32))) :
    MetFree l yN8 (head1 (Jvm.Cond.code yN8 prog_6_method_7_code 1 (some .boolean) :: ws) ({ frames := 0, cells := 0, slots := 0, locals := 0 } : Room)) (fun a U => a = #[(.ref pR1)] ∧ Z.Warmed39 U.vm ∧ U.heap = h0) (fun _ _ _ _ _ => True) (fun _ U o U' => ∃ v L, o = .returned v ∧ QisS Z pR1 h0 n0 v U'.heap L ∧ FrameEnd U o U' L ({ frames := 0, cells := 0, slots := 0, locals := 0 } : Room).cells ({ frames := 0, cells := 0, slots := 0, locals := 0 } : Room).slots) := by
  refine MetFree.of_bodySF (plainFor_of_name pn_3) hisR ?_
  intro p e s m args below meth c s₁ Bd hml0 hP hK
  obtain ⟨rfl, hZ, hh⟩ := hP
  have hx := Bd.exec
  have hby := Bd.bytes
  have hml : c.maxLocals = 1 := hml0
  have hown : s.vm.findClass "com/example/willenhall/willenhall/api/ResponseEnvelope" = some m.cls := findClass_of_methodNamed Bd.named
  have hnm := (name_of_methodNamed Bd.named Bd.method).1
  have X0 : Stand p l e ({ frames := 0, cells := 0, slots := 0, locals := 0 } : Room) s m #[(.ref pR1)] below meth c s₁ [] 0 0 := Stand.of_body Bd
  have e0 : s₁.heap = h0 := by rw [← hh, Bd.state]; rfl
  have N0 := Fr.nil n0
  have pre0 : ∀ t, Steps p.tables e below (s₁.setTop (mkF m 0 #[.val (.ref pR1)] [])) t → Steps p.tables e below (s₁.setTop (entryFrame m #[(.ref pR1)] 1)) t := fun t k => castTop (ef_isS m pR1) k
  obtain ⟨T2, X2, e2, st2⟩ := getF X0 hx hZ hown (host := "") (Or.inl (ow hw 32 rfl)) Via.refl e0 F_success_pR1 (g := (mkF m 1 #[.val (.ref pR1)] [(.ref pR1)])) rfl rfl (hb hby d8_1)
  obtain ⟨fs, hr, hrun, hended, hW, hsame⟩ := X2.leave (v := some (.int (1 : Int32))) (fun h => by rw [Bd.returns] at h; cases h)
  refine ⟨_, _, pre0 _ ?_, hrun, hended, _, _, rfl, ?_, ⟨_, rfl⟩, hW, hsame.mono (by decide) (by decide)⟩
  · show oS p e below s₁ m 0 #[.val (.ref pR1)] [] _
    refine XS.aloadN X0.here hx rfl (hb hby d8_0) rfl rfl ?_
    refine st2 _ ?_
    exact retN X2 hx (t := .boolean) Bd.returns (by simp) (hb hby d8_4) hr
  · show QisS Z pR1 h0 n0 _ T2.heap _
    rw [e2]
    exact ⟨rfl, N0, rfl⟩
theorem d9_0 : decode prog_6_method_5_code 0 = .ok (.aload_n 0, 1) := by decide +kernel
theorem d9_1 : decode prog_6_method_5_code 1 = .ok (.getfield 13, 3) := by decide +kernel
theorem d9_4 : decode prog_6_method_5_code 4 = .ok (.areturn, 1) := by decide +kernel
theorem ef_gem (m : MethodId) (pR1 : Addr) : entryFrame m #[(.ref pR1)] 1 = mkF m 0 #[.val (.ref pR1)] [] := by first | (simp [entryFrame, mkF, argsToLocals, Value.category]; done) | rfl
def Qgem (Z : State) (pR1 : Addr) (pR2 : Addr) (h0 : Heap) (n0 : Nat) (v : Option Value) (h : Heap) (L : List Loc) : Prop := v = some (.ref pR2) ∧ Fr n0 L ∧ h = h0
set_option maxRecDepth 65536 in
set_option maxHeartbeats 40000000 in
theorem gem (l : Launch) (Z : State) (a0 : Array Value) (hw : ∀ d ∈ tables_1, d.before a0 Z = true) (ws : List Jvm.Cond) (pR1 : Addr) (pR2 : Addr) (h0 : Heap) (n0 : Nat) (Z0 : n0 ≤ h0.size) (F_errorMessages_pR1 : Fld Z h0 pR1 "com/example/willenhall/willenhall/api/ResponseEnvelope" "errorMessages" "Ljava/util/List;" (.ref pR2)) :
    MetFree l yN9 (head1 (Jvm.Cond.code yN9 prog_6_method_5_code 1 (some (.object "java/util/List")) :: ws) ({ frames := 0, cells := 0, slots := 0, locals := 0 } : Room)) (fun a U => a = #[(.ref pR1)] ∧ Z.Warmed39 U.vm ∧ U.heap = h0) (fun _ _ _ _ _ => True) (fun _ U o U' => ∃ v L, o = .returned v ∧ Qgem Z pR1 pR2 h0 n0 v U'.heap L ∧ FrameEnd U o U' L ({ frames := 0, cells := 0, slots := 0, locals := 0 } : Room).cells ({ frames := 0, cells := 0, slots := 0, locals := 0 } : Room).slots) := by
  refine MetFree.of_bodySF (plainFor_of_name pn_3) hisR ?_
  intro p e s m args below meth c s₁ Bd hml0 hP hK
  obtain ⟨rfl, hZ, hh⟩ := hP
  have hx := Bd.exec
  have hby := Bd.bytes
  have hml : c.maxLocals = 1 := hml0
  have hown : s.vm.findClass "com/example/willenhall/willenhall/api/ResponseEnvelope" = some m.cls := findClass_of_methodNamed Bd.named
  have hnm := (name_of_methodNamed Bd.named Bd.method).1
  have X0 : Stand p l e ({ frames := 0, cells := 0, slots := 0, locals := 0 } : Room) s m #[(.ref pR1)] below meth c s₁ [] 0 0 := Stand.of_body Bd
  have e0 : s₁.heap = h0 := by rw [← hh, Bd.state]; rfl
  have N0 := Fr.nil n0
  have pre0 : ∀ t, Steps p.tables e below (s₁.setTop (mkF m 0 #[.val (.ref pR1)] [])) t → Steps p.tables e below (s₁.setTop (entryFrame m #[(.ref pR1)] 1)) t := fun t k => castTop (ef_gem m pR1) k
  obtain ⟨T3, X3, e3, st3⟩ := getF X0 hx hZ hown (host := "") (Or.inl (ow hw 28 rfl)) Via.refl e0 F_errorMessages_pR1 (g := (mkF m 1 #[.val (.ref pR1)] [(.ref pR1)])) rfl rfl (hb hby d9_1)
  obtain ⟨fs, hr, hrun, hended, hW, hsame⟩ := X3.leave (v := some (.ref pR2)) (fun h => by rw [Bd.returns] at h; cases h)
  refine ⟨_, _, pre0 _ ?_, hrun, hended, _, _, rfl, ?_, ⟨_, rfl⟩, hW, hsame.mono (by decide) (by decide)⟩
  · show oS p e below s₁ m 0 #[.val (.ref pR1)] [] _
    refine XS.aloadN X0.here hx rfl (hb hby d9_0) rfl rfl ?_
    refine st3 _ ?_
    exact retOut X3 hx Bd.returns rfl (Or.inr (Or.inr (Or.inr (Or.inr ⟨rfl, rfl, rfl⟩)))) (hb hby d9_4) hr
  · show Qgem Z pR1 pR2 h0 n0 _ T3.heap _
    rw [e3]
    exact ⟨rfl, N0, rfl⟩
theorem d10_0 : decode jdk_45_method_3_code 0 = .ok (.aload_n 0, 1) := by decide +kernel
theorem d10_1 : decode jdk_45_method_3_code 1 = .ok (.getfield 7, 3) := by decide +kernel
theorem d10_4 : decode jdk_45_method_3_code 4 = .ok (.arraylength, 1) := by decide +kernel
theorem d10_5 : decode jdk_45_method_3_code 5 = .ok (.ireturn, 1) := by decide +kernel
theorem pn_4 : plainName "java/util/ImmutableCollections$ListN" = true := by first | (simp [plainName, overriddenIn]; done) | decide +kernel
theorem ef_lsz (m : MethodId) (pR1 : Addr) : entryFrame m #[(.ref pR1)] 1 = mkF m 0 #[.val (.ref pR1)] [] := by first | (simp [entryFrame, mkF, argsToLocals, Value.category]; done) | rfl
def Qlsz (Z : State) (pR1 : Addr) (pR2 : Addr) (pK4 : ClassId) (h0 : Heap) (n0 : Nat) (v : Option Value) (h : Heap) (L : List Loc) : Prop := v = some (.int (0 : Int32)) ∧ Fr n0 L ∧ h = h0
set_option maxRecDepth 65536 in
set_option maxHeartbeats 40000000 in
theorem lsz (l : Launch) (Z : State) (a0 : Array Value) (hw : ∀ d ∈ tables_1, d.before a0 Z = true) (ws : List Jvm.Cond) (pR1 : Addr) (pR2 : Addr) (pK4 : ClassId) (h0 : Heap) (n0 : Nat) (Z0 : n0 ≤ h0.size) (F_elements_pR1 : Fld Z h0 pR1 "java/util/ImmutableCollections$ListN" "elements" "[Ljava/lang/Object;" (.ref pR2)) (V_pR2 : Arv Z h0 pR2 pK4 (.object "java/lang/Object") (0 : Int32) [] .null) :
    MetFree l yN10 (head1 (Jvm.Cond.code yN10 jdk_45_method_3_code 1 (some .int) :: ws) ({ frames := 0, cells := 0, slots := 0, locals := 0 } : Room)) (fun a U => a = #[(.ref pR1)] ∧ Z.Warmed39 U.vm ∧ U.heap = h0) (fun _ _ _ _ _ => True) (fun _ U o U' => ∃ v L, o = .returned v ∧ Qlsz Z pR1 pR2 pK4 h0 n0 v U'.heap L ∧ FrameEnd U o U' L ({ frames := 0, cells := 0, slots := 0, locals := 0 } : Room).cells ({ frames := 0, cells := 0, slots := 0, locals := 0 } : Room).slots) := by
  refine MetFree.of_bodySF (plainFor_of_name pn_4) hisR ?_
  intro p e s m args below meth c s₁ Bd hml0 hP hK
  obtain ⟨rfl, hZ, hh⟩ := hP
  have hx := Bd.exec
  have hby := Bd.bytes
  have hml : c.maxLocals = 1 := hml0
  have hown : s.vm.findClass "java/util/ImmutableCollections$ListN" = some m.cls := findClass_of_methodNamed Bd.named
  have hnm := (name_of_methodNamed Bd.named Bd.method).1
  have X0 : Stand p l e ({ frames := 0, cells := 0, slots := 0, locals := 0 } : Room) s m #[(.ref pR1)] below meth c s₁ [] 0 0 := Stand.of_body Bd
  have e0 : s₁.heap = h0 := by rw [← hh, Bd.state]; rfl
  have N0 := Fr.nil n0
  have pre0 : ∀ t, Steps p.tables e below (s₁.setTop (mkF m 0 #[.val (.ref pR1)] [])) t → Steps p.tables e below (s₁.setTop (entryFrame m #[(.ref pR1)] 1)) t := fun t k => castTop (ef_lsz m pR1) k
  obtain ⟨T3, X3, e3, st3⟩ := getF X0 hx hZ hown (host := "") (Or.inl (ow hw 64 rfl)) Via.refl e0 F_elements_pR1 (g := (mkF m 1 #[.val (.ref pR1)] [(.ref pR1)])) rfl rfl (hb hby d10_1)
  obtain ⟨clq5, Arq5, Akq5, Asq5, Anq5, Ahq5, Agq5⟩ := id V_pR2
  obtain ⟨fs, hr, hrun, hended, hW, hsame⟩ := X3.leave (v := some (.int (0 : Int32))) (fun h => by rw [Bd.returns] at h; cases h)
  refine ⟨_, _, pre0 _ ?_, hrun, hended, _, _, rfl, ?_, ⟨_, rfl⟩, hW, hsame.mono (by decide) (by decide)⟩
  · show oS p e below s₁ m 0 #[.val (.ref pR1)] [] _
    refine XS.aloadN X0.here hx rfl (hb hby d10_0) rfl rfl ?_
    refine st3 _ ?_
    refine X3.arraylength hx (by rw [e3]; exact Arq5.1) (State.isArrayOf_alike hZ.alike Arq5.2.1) (g := (mkF m 4 #[.val (.ref pR1)] [(.ref pR2)])) rfl rfl (hb hby d10_4) _ ?_
    rw [len_of Asq5 Anq5]
    exact retI X3 hx Bd.returns (hb hby d10_5) hr
  · show Qlsz Z pR1 pR2 pK4 h0 n0 _ T3.heap _
    rw [e3]
    exact ⟨rfl, N0, rfl⟩
theorem pd_4 : parseMethodDescriptor "(ILjava/lang/Object;)Lcom/example/willenhall/willenhall/api/ResponseEnvelope;" = some ⟨[.int, (.object "java/lang/Object")], some (.object "com/example/willenhall/willenhall/api/ResponseEnvelope")⟩ := by decide +kernel
theorem pd_5 : parseMethodDescriptor "()Ljava/lang/Object;" = some ⟨[], some (.object "java/lang/Object")⟩ := by decide +kernel
theorem pd_6 : parseMethodDescriptor "()I" = some ⟨[], some .int⟩ := by decide +kernel
theorem pd_7 : parseMethodDescriptor "()Z" = some ⟨[], some .boolean⟩ := by decide +kernel
theorem pn_5 : plainName "com/example/willenhall/willenhall/api/ResponseEnvelopeSuccessPinLaw" = true := by first | (simp [plainName, overriddenIn]; done) | decide +kernel
theorem ef_lawN (m : MethodId) (pI1 : Int32) (pI2 : Int32) (pI3 : Int32) : entryFrame m #[(.int pI1), (.int pI2), (.int pI3)] maxLocals = mkF m 0 #[.val (.int pI1), .val (.int pI2), .val (.int pI3), .unset, .unset, .unset, .unset] [] := by first | (simp [entryFrame, mkF, argsToLocals, Value.category, maxLocals]; done) | rfl
def QlawN (Z : State) (pI1 : Int32) (pI2 : Int32) (pI3 : Int32) (pR4 : Addr) (pR13 : Addr) (pK15 : ClassId) (h0 : Heap) (n0 : Nat) (v : Option Value) (h : Heap) (L : List Loc) : Prop := v = some (.int (1 : Int32)) ∧ Fr n0 L
set_option maxRecDepth 65536 in
set_option maxHeartbeats 40000000 in
theorem lawN (l : Launch) (Z : State) (a0 : Array Value) (hw : ∀ d ∈ tables_1, d.before a0 Z = true) (ws : List Jvm.Cond) (pI1 : Int32) (pI2 : Int32) (pI3 : Int32) (pR4 : Addr) (pR13 : Addr) (pK15 : ClassId) (h0 : Heap) (n0 : Nat) (Z0 : n0 ≤ h0.size) (S_ImmutableCollections_EMPTY_LIST : Sta Z h0 "java/util/ImmutableCollections" "EMPTY_LIST" "Ljava/util/ImmutableCollections$ListN;" (.ref pR4)) (F_elements_pR4 : Fld Z h0 pR4 "java/util/ImmutableCollections$ListN" "elements" "[Ljava/lang/Object;" (.ref pR13)) (V_pR13 : Arv Z h0 pR13 pK15 (.object "java/lang/Object") (0 : Int32) [] .null) (E_pR4 : Exa Z h0 pR4 "java/util/ImmutableCollections$ListN") (hc15 : ¬ ((pI3 &&& (1 : Int32)) = (0 : Int32))) (hc43 : ¬ (((200 : Int32) + ((pI1 &&& (2147483647 : Int32)) % (100 : Int32))) < (200 : Int32))) (hc43' : ¬ ((299 : Int32) < ((200 : Int32) + ((pI1 &&& (2147483647 : Int32)) % (100 : Int32))))) :
    MetFree l x (head1 (Jvm.Cond.code x code maxLocals ret :: ws) room_1) (fun a U => a = #[(.int pI1), (.int pI2), (.int pI3)] ∧ Z.Warmed39 U.vm ∧ U.heap = h0) (fun _ _ _ _ _ => True) (fun _ U o U' => ∃ v L, o = .returned v ∧ QlawN Z pI1 pI2 pI3 pR4 pR13 pK15 h0 n0 v U'.heap L ∧ FrameEnd U o U' L room_1.cells room_1.slots) := by
  refine MetFree.of_bodySF (plainFor_of_name pn_5) hisR ?_
  intro p e s m args below meth c s₁ Bd hml0 hP hK
  obtain ⟨rfl, hZ, hh⟩ := hP
  have hx := Bd.exec
  have hby := Bd.bytes
  have hml : c.maxLocals = 7 := hml0
  have hown : s.vm.findClass "com/example/willenhall/willenhall/api/ResponseEnvelopeSuccessPinLaw" = some m.cls := findClass_of_methodNamed Bd.named
  have hnm := (name_of_methodNamed Bd.named Bd.method).1
  have X0 : Stand p l e room_1 s m #[(.int pI1), (.int pI2), (.int pI3)] below meth c s₁ [] 0 0 := Stand.of_body Bd
  have e0 : s₁.heap = h0 := by rw [← hh, Bd.state]; rfl
  have N0 := Fr.nil n0
  have pre0 : ∀ t, Steps p.tables e below (s₁.setTop (mkF m 0 #[.val (.int pI1), .val (.int pI2), .val (.int pI3), .unset, .unset, .unset, .unset] [])) t → Steps p.tables e below (s₁.setTop (entryFrame m #[(.int pI1), (.int pI2), (.int pI3)] maxLocals)) t := fun t k => castTop (ef_lawN m pI1 pI2 pI3) k
  obtain ⟨_, _, ⟨T5, L5, k5, n5⟩, -, X5, ⟨Lc5, hQ5, l5, y5, z5⟩, st5⟩ := Jvm.LawKit.callS X0 hx (y := yN5) hown (mvT hZ (ow hw 8 rfl)) (mvT hZ (ow hw 9 rfl)) (mvT hZ (ow hw 10 rfl)) (mvT hZ (ow hw 11 rfl)) (by decide) (backOf (W := 0) (suN l Z a0 hw [] ((200 : Int32) + ((pI1 &&& (2147483647 : Int32)) % (100 : Int32))) pR4 h0 n0 Z0 S_ImmutableCollections_EMPTY_LIST hc43 hc43') hZ (ow hw 11 rfl) (ow hw 10 rfl) (by decide) (by decide)) (g := (mkF m 43 #[.val (.int pI1), .val (.int pI2), .val (.int pI3), .val (.int ((200 : Int32) + ((pI1 &&& (2147483647 : Int32)) % (100 : Int32)))), .val (.int (1 : Int32)), .val .null, .unset] [.null, (.int ((200 : Int32) + ((pI1 &&& (2147483647 : Int32)) % (100 : Int32))))])) rfl (by rw [hml]; rfl) (argsL := [(.int ((200 : Int32) + ((pI1 &&& (2147483647 : Int32)) % (100 : Int32)))), .null]) (rest := []) (lenOf pd_4 rfl) rfl (by show 2 * 0 + _ ≤ _; exact Nat.le_of_eq rfl) (hb hby at_43) (fun _ _ => ⟨rfl, e0, (by decide : 0 + 1 ≤ _), (by decide : 0 + 4 ≤ _)⟩)
  dsimp only [Pt.U, Pt.locs, Pt.cells, Pt.slots] at X5 l5 y5 z5 st5 hQ5
  subst l5 y5 z5
  obtain ⟨bR5_2, rfl, Nq5, Kq5, sz5_2, x5_0, x5_1, x5_2, x5_3, x5_4⟩ := hQ5
  have N5 := Fr.app N0 Nq5
  obtain ⟨Lh5, X5, N5⟩ := own_hide X5 N5
  have Z7 : n0 ≤ T5.heap.size := (Nat.le_trans Z0 Kq5.1)
  obtain ⟨cq8, kq8, q8a, q8b, q8c⟩ := isOf hZ rfl x5_0
  obtain ⟨_, _, ⟨T8, L8, k8, n8⟩, -, X8, ⟨Lc8, hQ8, l8, y8, z8⟩, st8⟩ := X5.virtualBack hx (y := yN6) (z := yN6) hown (mvT hZ (ow hw 34 rfl)) (mvT hZ (ow hw 35 rfl)) (notFace_of_selects (args := #[]) (mvT hZ (ow hw 37 rfl))) (mvT hZ (ow hw 37 rfl)) (mvT hZ (ow hw 36 rfl)) (by decide) (backOf (W := 0) (grN l Z a0 hw [] bR5_2 T5.heap n0 Z7 x5_1) hZ (ow hw 38 rfl) (ow hw 10 rfl) (by decide) (by decide)) q8a q8c (g := (mkF m 57 #[.val (.int pI1), .val (.int pI2), .val (.int pI3), .val (.int ((200 : Int32) + ((pI1 &&& (2147483647 : Int32)) % (100 : Int32)))), .val (.int (1 : Int32)), .val .null, .val (.ref bR5_2)] [(.ref bR5_2)])) rfl (by rw [hml]; rfl) (Steps.refl _) (argsL := []) (rest := []) (lenOf pd_5 rfl) rfl (by show 2 * 0 + _ ≤ _; exact Nat.le_of_eq rfl) (hb hby at_57) (fun _ _ => ⟨rfl, rfl, (by decide : 1 + 0 ≤ _), (by decide : 4 + 0 ≤ _)⟩)
  dsimp only [Pt.U, Pt.locs, Pt.cells, Pt.slots] at X8 l8 y8 z8 st8 hQ8
  subst l8 y8 z8
  obtain ⟨rfl, Nq8, e8⟩ := hQ8
  have N8 := Fr.app N5 Nq8
  obtain ⟨cq9, kq9, q9a, q9b, q9c⟩ := isOf hZ e8 x5_0
  obtain ⟨_, _, ⟨T9, L9, k9, n9⟩, -, X9, ⟨Lc9, hQ9, l9, y9, z9⟩, st9⟩ := X8.virtualBack hx (y := yN7) (z := yN7) hown (mvT hZ (ow hw 39 rfl)) (mvT hZ (ow hw 40 rfl)) (notFace_of_selects (args := #[]) (mvT hZ (ow hw 42 rfl))) (mvT hZ (ow hw 42 rfl)) (mvT hZ (ow hw 41 rfl)) (by decide) (backOf (W := 0) (gsc l Z a0 hw [] bR5_2 ((200 : Int32) + ((pI1 &&& (2147483647 : Int32)) % (100 : Int32))) T5.heap n0 Z7 x5_3) hZ (ow hw 43 rfl) (ow hw 10 rfl) (by decide) (by decide)) q9a q9c (g := (mkF m 69 #[.val (.int pI1), .val (.int pI2), .val (.int pI3), .val (.int ((200 : Int32) + ((pI1 &&& (2147483647 : Int32)) % (100 : Int32)))), .val (.int (1 : Int32)), .val .null, .val (.ref bR5_2)] [(.ref bR5_2)])) rfl (by rw [hml]; rfl) (Steps.refl _) (argsL := []) (rest := []) (lenOf pd_6 rfl) rfl (by show 2 * 0 + _ ≤ _; exact Nat.le_of_eq rfl) (hb hby at_69) (fun _ _ => ⟨rfl, e8, (by decide : 1 + 0 ≤ _), (by decide : 4 + 0 ≤ _)⟩)
  dsimp only [Pt.U, Pt.locs, Pt.cells, Pt.slots] at X9 l9 y9 z9 st9 hQ9
  subst l9 y9 z9
  obtain ⟨rfl, Nq9, e9⟩ := hQ9
  have N9 := Fr.app N8 Nq9
  obtain ⟨cq10, kq10, q10a, q10b, q10c⟩ := isOf hZ e9 x5_0
  obtain ⟨_, _, ⟨T10, L10, k10, n10⟩, -, X10, ⟨Lc10, hQ10, l10, y10, z10⟩, st10⟩ := X9.virtualBack hx (y := yN8) (z := yN8) hown (mvT hZ (ow hw 44 rfl)) (mvT hZ (ow hw 45 rfl)) (notFace_of_selects (args := #[]) (mvT hZ (ow hw 47 rfl))) (mvT hZ (ow hw 47 rfl)) (mvT hZ (ow hw 46 rfl)) (by decide) (backOf (W := 0) (isS l Z a0 hw [] bR5_2 T5.heap n0 Z7 x5_4) hZ (ow hw 48 rfl) (ow hw 10 rfl) (by decide) (by decide)) q10a q10c (g := (mkF m 80 #[.val (.int pI1), .val (.int pI2), .val (.int pI3), .val (.int ((200 : Int32) + ((pI1 &&& (2147483647 : Int32)) % (100 : Int32)))), .val (.int (1 : Int32)), .val .null, .val (.ref bR5_2)] [(.ref bR5_2)])) rfl (by rw [hml]; rfl) (Steps.refl _) (argsL := []) (rest := []) (lenOf pd_7 rfl) rfl (by show 2 * 0 + _ ≤ _; exact Nat.le_of_eq rfl) (hb hby at_80) (fun _ _ => ⟨rfl, e9, (by decide : 1 + 0 ≤ _), (by decide : 4 + 0 ≤ _)⟩)
  dsimp only [Pt.U, Pt.locs, Pt.cells, Pt.slots] at X10 l10 y10 z10 st10 hQ10
  subst l10 y10 z10
  obtain ⟨rfl, Nq10, e10⟩ := hQ10
  have N10 := Fr.app N9 Nq10
  obtain ⟨cq11, kq11, q11a, q11b, q11c⟩ := isOf hZ e10 x5_0
  obtain ⟨_, _, ⟨T11, L11, k11, n11⟩, -, X11, ⟨Lc11, hQ11, l11, y11, z11⟩, st11⟩ := X10.virtualBack hx (y := yN9) (z := yN9) hown (mvT hZ (ow hw 49 rfl)) (mvT hZ (ow hw 50 rfl)) (notFace_of_selects (args := #[]) (mvT hZ (ow hw 52 rfl))) (mvT hZ (ow hw 52 rfl)) (mvT hZ (ow hw 51 rfl)) (by decide) (backOf (W := 0) (gem l Z a0 hw [] bR5_2 pR4 T5.heap n0 Z7 x5_2) hZ (ow hw 53 rfl) (ow hw 10 rfl) (by decide) (by decide)) q11a q11c (g := (mkF m 90 #[.val (.int pI1), .val (.int pI2), .val (.int pI3), .val (.int ((200 : Int32) + ((pI1 &&& (2147483647 : Int32)) % (100 : Int32)))), .val (.int (1 : Int32)), .val .null, .val (.ref bR5_2)] [(.ref bR5_2)])) rfl (by rw [hml]; rfl) (Steps.refl _) (argsL := []) (rest := []) (lenOf pd_2 rfl) rfl (by show 2 * 0 + _ ≤ _; exact Nat.le_of_eq rfl) (hb hby at_90) (fun _ _ => ⟨rfl, e10, (by decide : 1 + 0 ≤ _), (by decide : 4 + 0 ≤ _)⟩)
  dsimp only [Pt.U, Pt.locs, Pt.cells, Pt.slots] at X11 l11 y11 z11 st11 hQ11
  subst l11 y11 z11
  obtain ⟨rfl, Nq11, e11⟩ := hQ11
  have N11 := Fr.app N10 Nq11
  obtain ⟨cq12, kq12, q12a, q12b, q12c⟩ := isOf hZ e11 x5_0
  obtain ⟨_, _, ⟨T12, L12, k12, n12⟩, -, X12, ⟨Lc12, hQ12, l12, y12, z12⟩, st12⟩ := X11.virtualBack hx (y := yN9) (z := yN9) hown (mvT hZ (ow hw 49 rfl)) (mvT hZ (ow hw 50 rfl)) (notFace_of_selects (args := #[]) (mvT hZ (ow hw 52 rfl))) (mvT hZ (ow hw 52 rfl)) (mvT hZ (ow hw 51 rfl)) (by decide) (backOf (W := 0) (gem l Z a0 hw [] bR5_2 pR4 T5.heap n0 Z7 x5_2) hZ (ow hw 53 rfl) (ow hw 10 rfl) (by decide) (by decide)) q12a q12c (g := (mkF m 100 #[.val (.int pI1), .val (.int pI2), .val (.int pI3), .val (.int ((200 : Int32) + ((pI1 &&& (2147483647 : Int32)) % (100 : Int32)))), .val (.int (1 : Int32)), .val .null, .val (.ref bR5_2)] [(.ref bR5_2)])) rfl (by rw [hml]; rfl) (Steps.refl _) (argsL := []) (rest := []) (lenOf pd_2 rfl) rfl (by show 2 * 0 + _ ≤ _; exact Nat.le_of_eq rfl) (hb hby at_100) (fun _ _ => ⟨rfl, e11, (by decide : 1 + 0 ≤ _), (by decide : 4 + 0 ≤ _)⟩)
  dsimp only [Pt.U, Pt.locs, Pt.cells, Pt.slots] at X12 l12 y12 z12 st12 hQ12
  subst l12 y12 z12
  obtain ⟨rfl, Nq12, e12⟩ := hQ12
  have N12 := Fr.app N11 Nq12
  have c14 : Fld Z T5.heap pR4 "java/util/ImmutableCollections$ListN" "elements" "[Ljava/lang/Object;" (.ref pR13) := F_elements_pR4.keep Kq5 nin0
  have c16 : Arv Z T5.heap pR13 pK15 (.object "java/lang/Object") (0 : Int32) [] .null := V_pR13.keep Kq5 nin0
  have c18 : Exa Z T5.heap pR4 "java/util/ImmutableCollections$ListN" := E_pR4.keep Kq5
  obtain ⟨cq17, kq17, q17a, q17b, q17c⟩ := isOf hZ e12 c18
  obtain ⟨_, _, ⟨T17, L17, k17, n17⟩, -, X17, ⟨Lc17, hQ17, l17, y17, z17⟩, st17⟩ := X12.interfaceBack hx (xi := yN11) (y := yN10) hown (mvT hZ (ow hw 54 rfl)) (mvT hZ (ow hw 55 rfl)) (mvT hZ (ow hw 56 rfl)) (mvT hZ (ow hw 57 rfl)) (mvT hZ (ow hw 58 rfl)) (mvT hZ (ow hw 59 rfl)) (mvT hZ (ow hw 60 rfl)) (mvT hZ (ow hw 61 rfl)) (by decide) (backOf (W := 0) (lsz l Z a0 hw [] pR4 pR13 pK15 T5.heap n0 Z7 c14 c16) hZ (ow hw 63 rfl) (ow hw 62 rfl) (by decide) (by decide)) q17a q17b q17c (g := (mkF m 103 #[.val (.int pI1), .val (.int pI2), .val (.int pI3), .val (.int ((200 : Int32) + ((pI1 &&& (2147483647 : Int32)) % (100 : Int32)))), .val (.int (1 : Int32)), .val .null, .val (.ref bR5_2)] [(.ref pR4)])) rfl (by rw [hml]; rfl) (Steps.refl _) (argsL := []) (rest := []) (lenOf pd_6 rfl) rfl (by show 2 * 0 + _ ≤ _; exact Nat.le_of_eq rfl) (hb hby at_103) (fun _ _ => ⟨rfl, e12, (by decide : 1 + 0 ≤ _), (by decide : 4 + 0 ≤ _)⟩)
  dsimp only [Pt.U, Pt.locs, Pt.cells, Pt.slots] at X17 l17 y17 z17 st17 hQ17
  subst l17 y17 z17
  obtain ⟨rfl, Nq17, e17⟩ := hQ17
  have N17 := Fr.app N12 Nq17
  obtain ⟨fs, hr, hrun, hended, hW, hsame⟩ := X17.leave (v := some (.int (1 : Int32))) (fun h => by rw [Bd.returns] at h; cases h)
  refine ⟨_, _, pre0 _ ?_, hrun, hended, _, _, rfl, ?_, ⟨_, rfl⟩, hW, hsame.mono (by decide) (by decide)⟩
  · show oS p e below s₁ m 0 #[.val (.int pI1), .val (.int pI2), .val (.int pI3), .unset, .unset, .unset, .unset] [] _
    refine XS.sipush X0.here hx rfl (hb hby at_0) ?_
    refine XS.iloadN X0.here hx rfl (hb hby at_3) rfl ?_
    refine X0.ldcInt hx hown (mvT hZ (ow hw 0 rfl)) (g := (mkF m 4 #[.val (.int pI1), .val (.int pI2), .val (.int pI3), .unset, .unset, .unset, .unset] [(.int pI1), (.int (200 : Int32))])) rfl (hb hby at_4) _ ?_
    refine XS.iand X0.here hx rfl (hb hby at_6) rfl ?_
    show oS p e below s₁ m 7 #[.val (.int pI1), .val (.int pI2), .val (.int pI3), .unset, .unset, .unset, .unset] [(.int (pI1 &&& (2147483647 : Int32))), (.int (200 : Int32))] _
    refine XS.bipush X0.here hx rfl (hb hby at_7) ?_
    show Steps p.tables e below (s₁.setTop (mkF m 9 #[.val (.int pI1), .val (.int pI2), .val (.int pI3), .unset, .unset, .unset, .unset] [(.int (100 : Int32)), (.int (pI1 &&& (2147483647 : Int32))), (.int (200 : Int32))])) _
    refine iremM (g := (mkF m 9 #[.val (.int pI1), .val (.int pI2), .val (.int pI3), .unset, .unset, .unset, .unset] [(.int (100 : Int32)), (.int (pI1 &&& (2147483647 : Int32))), (.int (200 : Int32))])) X0 hx rfl (hb hby at_9) rfl (by decide) ?_
    refine XS.iadd X0.here hx rfl (hb hby at_10) rfl ?_
    refine XS.istoreN X0.here hx rfl (hb hby at_11) rfl (l' := #[.val (.int pI1), .val (.int pI2), .val (.int pI3), .val (.int ((200 : Int32) + ((pI1 &&& (2147483647 : Int32)) % (100 : Int32)))), .unset, .unset, .unset]) rfl ?_
    show oS p e below s₁ m 12 #[.val (.int pI1), .val (.int pI2), .val (.int pI3), .val (.int ((200 : Int32) + ((pI1 &&& (2147483647 : Int32)) % (100 : Int32)))), .unset, .unset, .unset] [] _
    refine XS.iloadN X0.here hx rfl (hb hby at_12) rfl ?_
    refine XS.iconst X0.here hx rfl (hb hby at_13) ?_
    refine XS.iand X0.here hx rfl (hb hby at_14) rfl ?_
    refine XS.ifNo X0.here hx rfl (hb hby at_15) rfl ((if0 _ _).trans (feq hc15).1) ?_
    show oS p e below s₁ m 18 #[.val (.int pI1), .val (.int pI2), .val (.int pI3), .val (.int ((200 : Int32) + ((pI1 &&& (2147483647 : Int32)) % (100 : Int32)))), .unset, .unset, .unset] [] _
    refine XS.iconst X0.here hx rfl (hb hby at_18) ?_
    refine XS.goto X0.here hx rfl (pc0 := 19) (pc' := 23) rfl (hb hby at_19) (by decide) (by decide) ?_
    refine XS.istore X0.here hx rfl (hb hby at_23) rfl (l' := #[.val (.int pI1), .val (.int pI2), .val (.int pI3), .val (.int ((200 : Int32) + ((pI1 &&& (2147483647 : Int32)) % (100 : Int32)))), .val (.int (1 : Int32)), .unset, .unset]) rfl ?_
    refine XS.iload X0.here hx rfl (hb hby at_25) rfl ?_
    show oS p e below s₁ m 27 #[.val (.int pI1), .val (.int pI2), .val (.int pI3), .val (.int ((200 : Int32) + ((pI1 &&& (2147483647 : Int32)) % (100 : Int32)))), .val (.int (1 : Int32)), .unset, .unset] [(.int (1 : Int32))] _
    refine XS.ifNo X0.here hx rfl (hb hby at_27) rfl ((if0 _ _).trans (feq (by decide : ¬ ((1 : Int32) = (0 : Int32)))).1) ?_
    refine XS.aconstNull X0.here hx rfl (hb hby at_30) ?_
    refine XS.goto X0.here hx rfl (pc0 := 31) (pc' := 38) rfl (hb hby at_31) (by decide) (by decide) ?_
    refine XS.astore X0.here hx rfl (hb hby at_38) rfl rfl (l' := #[.val (.int pI1), .val (.int pI2), .val (.int pI3), .val (.int ((200 : Int32) + ((pI1 &&& (2147483647 : Int32)) % (100 : Int32)))), .val (.int (1 : Int32)), .val .null, .unset]) rfl ?_
    show oS p e below s₁ m 40 #[.val (.int pI1), .val (.int pI2), .val (.int pI3), .val (.int ((200 : Int32) + ((pI1 &&& (2147483647 : Int32)) % (100 : Int32)))), .val (.int (1 : Int32)), .val .null, .unset] [] _
    refine XS.iloadN X0.here hx rfl (hb hby at_40) rfl ?_
    refine XS.aload X0.here hx rfl (hb hby at_41) rfl rfl ?_
    refine st5 _ ?_
    refine XS.astore X5.here hx rfl (hb hby at_46) rfl rfl (l' := #[.val (.int pI1), .val (.int pI2), .val (.int pI3), .val (.int ((200 : Int32) + ((pI1 &&& (2147483647 : Int32)) % (100 : Int32)))), .val (.int (1 : Int32)), .val .null, .val (.ref bR5_2)]) rfl ?_
    show oS p e below T5 m 48 #[.val (.int pI1), .val (.int pI2), .val (.int pI3), .val (.int ((200 : Int32) + ((pI1 &&& (2147483647 : Int32)) % (100 : Int32)))), .val (.int (1 : Int32)), .val .null, .val (.ref bR5_2)] [] _
    refine XS.aload X5.here hx rfl (hb hby at_48) rfl rfl ?_
    refine XS.ifnonnullYes X5.here hx rfl (pc0 := 50) (pc' := 55) rfl (hb hby at_50) rfl (by decide) (by decide) ?_
    refine XS.aload X5.here hx rfl (hb hby at_55) rfl rfl ?_
    refine st8.trans ?_
    show oS p e below T8 m 60 #[.val (.int pI1), .val (.int pI2), .val (.int pI3), .val (.int ((200 : Int32) + ((pI1 &&& (2147483647 : Int32)) % (100 : Int32)))), .val (.int (1 : Int32)), .val .null, .val (.ref bR5_2)] [.null] _
    refine XS.aload X8.here hx rfl (hb hby at_60) rfl rfl ?_
    refine Jvm.RoadKit.acmp (g := (mkF m 62 #[.val (.int pI1), .val (.int pI2), .val (.int pI3), .val (.int ((200 : Int32) + ((pI1 &&& (2147483647 : Int32)) % (100 : Int32)))), .val (.int (1 : Int32)), .val .null, .val (.ref bR5_2)] [.null, .null])) X8 hx rfl rfl rfl (pc0 := 62) (pc' := 67) (same := true) rfl (hb hby at_62) rfl (decide_eq_true rfl) (by decide) (by decide) ?_
    refine XS.aload X8.here hx rfl (hb hby at_67) rfl rfl ?_
    refine st9.trans ?_
    show oS p e below T9 m 72 #[.val (.int pI1), .val (.int pI2), .val (.int pI3), .val (.int ((200 : Int32) + ((pI1 &&& (2147483647 : Int32)) % (100 : Int32)))), .val (.int (1 : Int32)), .val .null, .val (.ref bR5_2)] [(.int ((200 : Int32) + ((pI1 &&& (2147483647 : Int32)) % (100 : Int32))))] _
    refine XS.iloadN X9.here hx rfl (hb hby at_72) rfl ?_
    refine XS.icmpYes X9.here hx rfl (pc0 := 73) (pc' := 78) rfl (hb hby at_73) rfl (teq (rfl : ((200 : Int32) + ((pI1 &&& (2147483647 : Int32)) % (100 : Int32))) = ((200 : Int32) + ((pI1 &&& (2147483647 : Int32)) % (100 : Int32))))).1 (by decide) (by decide) ?_
    refine XS.aload X9.here hx rfl (hb hby at_78) rfl rfl ?_
    refine st10.trans ?_
    show oS p e below T10 m 83 #[.val (.int pI1), .val (.int pI2), .val (.int pI3), .val (.int ((200 : Int32) + ((pI1 &&& (2147483647 : Int32)) % (100 : Int32)))), .val (.int (1 : Int32)), .val .null, .val (.ref bR5_2)] [(.int (1 : Int32))] _
    refine XS.ifYes X10.here hx rfl (pc0 := 83) (pc' := 88) rfl (hb hby at_83) rfl ((if0 _ _).trans (feq (by decide : ¬ ((1 : Int32) = (0 : Int32)))).2) (by decide) (by decide) ?_
    refine XS.aload X10.here hx rfl (hb hby at_88) rfl rfl ?_
    refine st11.trans ?_
    refine XS.ifnonnullYes X11.here hx rfl (pc0 := 93) (pc' := 98) rfl (hb hby at_93) rfl (by decide) (by decide) ?_
    show oS p e below T11 m 98 #[.val (.int pI1), .val (.int pI2), .val (.int pI3), .val (.int ((200 : Int32) + ((pI1 &&& (2147483647 : Int32)) % (100 : Int32)))), .val (.int (1 : Int32)), .val .null, .val (.ref bR5_2)] [] _
    refine XS.aload X11.here hx rfl (hb hby at_98) rfl rfl ?_
    refine st12.trans ?_
    refine st17.trans ?_
    refine XS.ifNo X17.here hx rfl (hb hby at_108) rfl ((if0 _ _).trans (teq (by decide : (0 : Int32) = (0 : Int32))).2) ?_
    show oS p e below T17 m 111 #[.val (.int pI1), .val (.int pI2), .val (.int pI3), .val (.int ((200 : Int32) + ((pI1 &&& (2147483647 : Int32)) % (100 : Int32)))), .val (.int (1 : Int32)), .val .null, .val (.ref bR5_2)] [] _
    refine XS.iconst X17.here hx rfl (hb hby at_111) ?_
    refine XS.goto X17.here hx rfl (pc0 := 112) (pc' := 116) rfl (hb hby at_112) (by decide) (by decide) ?_
    exact retN X17 hx (t := .boolean) Bd.returns (by simp) (hb hby at_116) hr
  · show QlawN Z pI1 pI2 pI3 pR4 pR13 pK15 h0 n0 _ T17.heap _
    rw [e17]
    exact ⟨rfl, N17⟩
theorem pd_8 : parseMethodDescriptor "(I)Ljava/lang/Integer;" = some ⟨[.int], some (.object "java/lang/Integer")⟩ := by decide +kernel
theorem ef_lawL (m : MethodId) (pI1 : Int32) (pI2 : Int32) (pI3 : Int32) : entryFrame m #[(.int pI1), (.int pI2), (.int pI3)] maxLocals = mkF m 0 #[.val (.int pI1), .val (.int pI2), .val (.int pI3), .unset, .unset, .unset, .unset] [] := by first | (simp [entryFrame, mkF, argsToLocals, Value.category, maxLocals]; done) | rfl
def QlawL (Z : State) (pI1 : Int32) (pI2 : Int32) (pI3 : Int32) (pR7 : Addr) (pR17 : Addr) (pK20 : ClassId) (h0 : Heap) (n0 : Nat) (v : Option Value) (h : Heap) (L : List Loc) : Prop := v = some (.int (1 : Int32)) ∧ Fr n0 L
set_option maxRecDepth 65536 in
set_option maxHeartbeats 40000000 in
theorem lawL (l : Launch) (Z : State) (a0 : Array Value) (hw : ∀ d ∈ tables_1, d.before a0 Z = true) (ws : List Jvm.Cond) (pI1 : Int32) (pI2 : Int32) (pI3 : Int32) (pR7 : Addr) (pR17 : Addr) (pK20 : ClassId) (h0 : Heap) (n0 : Nat) (Z0 : n0 ≤ h0.size) (S_ImmutableCollections_EMPTY_LIST : Sta Z h0 "java/util/ImmutableCollections" "EMPTY_LIST" "Ljava/util/ImmutableCollections$ListN;" (.ref pR7)) (F_elements_pR7 : Fld Z h0 pR7 "java/util/ImmutableCollections$ListN" "elements" "[Ljava/lang/Object;" (.ref pR17)) (V_pR17 : Arv Z h0 pR17 pK20 (.object "java/lang/Object") (0 : Int32) [] .null) (E_pR7 : Exa Z h0 pR7 "java/util/ImmutableCollections$ListN") (hc15 : (pI3 &&& (1 : Int32)) = (0 : Int32)) (hc35 : pI2 < (-128 : Int32)) (hc43 : ¬ (((200 : Int32) + ((pI1 &&& (2147483647 : Int32)) % (100 : Int32))) < (200 : Int32))) (hc43' : ¬ ((299 : Int32) < ((200 : Int32) + ((pI1 &&& (2147483647 : Int32)) % (100 : Int32))))) :
    MetFree l x (head1 (Jvm.Cond.code x code maxLocals ret :: ws) room_1) (fun a U => a = #[(.int pI1), (.int pI2), (.int pI3)] ∧ Z.Warmed39 U.vm ∧ U.heap = h0) (fun _ _ _ _ _ => True) (fun _ U o U' => ∃ v L, o = .returned v ∧ QlawL Z pI1 pI2 pI3 pR7 pR17 pK20 h0 n0 v U'.heap L ∧ FrameEnd U o U' L room_1.cells room_1.slots) := by
  refine MetFree.of_bodySF (plainFor_of_name pn_5) hisR ?_
  intro p e s m args below meth c s₁ Bd hml0 hP hK
  obtain ⟨rfl, hZ, hh⟩ := hP
  have hx := Bd.exec
  have hby := Bd.bytes
  have hml : c.maxLocals = 7 := hml0
  have hown : s.vm.findClass "com/example/willenhall/willenhall/api/ResponseEnvelopeSuccessPinLaw" = some m.cls := findClass_of_methodNamed Bd.named
  have hnm := (name_of_methodNamed Bd.named Bd.method).1
  have X0 : Stand p l e room_1 s m #[(.int pI1), (.int pI2), (.int pI3)] below meth c s₁ [] 0 0 := Stand.of_body Bd
  have e0 : s₁.heap = h0 := by rw [← hh, Bd.state]; rfl
  have N0 := Fr.nil n0
  have pre0 : ∀ t, Steps p.tables e below (s₁.setTop (mkF m 0 #[.val (.int pI1), .val (.int pI2), .val (.int pI3), .unset, .unset, .unset, .unset] [])) t → Steps p.tables e below (s₁.setTop (entryFrame m #[(.int pI1), (.int pI2), (.int pI3)] maxLocals)) t := fun t k => castTop (ef_lawL m pI1 pI2 pI3) k
  obtain ⟨_, _, ⟨T4, L4, k4, n4⟩, -, X4, ⟨Lc4, hQ4, l4, y4, z4⟩, st4⟩ := Jvm.LawKit.callS X0 hx (y := yN2) hown (mvT hZ (ow hw 1 rfl)) (mvT hZ (ow hw 2 rfl)) (mvT hZ (ow hw 3 rfl)) (mvT hZ (ow hw 4 rfl)) (by decide) (backOf (W := 0) (voL l Z a0 hw [] pI2 h0 n0 Z0 hc35) hZ (ow hw 4 rfl) (ow hw 3 rfl) (by decide) (by decide)) (g := (mkF m 35 #[.val (.int pI1), .val (.int pI2), .val (.int pI3), .val (.int ((200 : Int32) + ((pI1 &&& (2147483647 : Int32)) % (100 : Int32)))), .val (.int (0 : Int32)), .unset, .unset] [(.int pI2)])) rfl (by rw [hml]; rfl) (argsL := [(.int pI2)]) (rest := []) (lenOf pd_8 rfl) rfl (by show 2 * 0 + _ ≤ _; exact Nat.le_of_eq rfl) (hb hby at_35) (fun _ _ => ⟨rfl, e0, (by decide : 0 + 1 ≤ _), (by decide : 0 + 1 ≤ _)⟩)
  dsimp only [Pt.U, Pt.locs, Pt.cells, Pt.slots] at X4 l4 y4 z4 st4 hQ4
  subst l4 y4 z4
  obtain ⟨bR4_2, rfl, Nq4, Kq4, sz4_2, x4_0, x4_1⟩ := hQ4
  have N4 := Fr.app N0 Nq4
  obtain ⟨Lh4, X4, N4⟩ := own_hide X4 N4
  have Z6 : n0 ≤ T4.heap.size := (Nat.le_trans Z0 Kq4.1)
  have c8 : Sta Z T4.heap "java/util/ImmutableCollections" "EMPTY_LIST" "Ljava/util/ImmutableCollections$ListN;" (.ref pR7) := own_sta_keep S_ImmutableCollections_EMPTY_LIST Kq4 all0
  obtain ⟨_, _, ⟨T9, L9, k9, n9⟩, -, X9, ⟨Lc9, hQ9, l9, y9, z9⟩, st9⟩ := Jvm.LawKit.callS X4 hx (y := yN5) hown (mvT hZ (ow hw 8 rfl)) (mvT hZ (ow hw 9 rfl)) (mvT hZ (ow hw 10 rfl)) (mvT hZ (ow hw 11 rfl)) (by decide) (backOf (W := 0) (suR l Z a0 hw [] ((200 : Int32) + ((pI1 &&& (2147483647 : Int32)) % (100 : Int32))) bR4_2 pR7 T4.heap n0 Z6 c8 hc43 hc43') hZ (ow hw 11 rfl) (ow hw 10 rfl) (by decide) (by decide)) (g := (mkF m 43 #[.val (.int pI1), .val (.int pI2), .val (.int pI3), .val (.int ((200 : Int32) + ((pI1 &&& (2147483647 : Int32)) % (100 : Int32)))), .val (.int (0 : Int32)), .val (.ref bR4_2), .unset] [(.ref bR4_2), (.int ((200 : Int32) + ((pI1 &&& (2147483647 : Int32)) % (100 : Int32))))])) rfl (by rw [hml]; rfl) (argsL := [(.int ((200 : Int32) + ((pI1 &&& (2147483647 : Int32)) % (100 : Int32)))), (.ref bR4_2)]) (rest := []) (lenOf pd_4 rfl) rfl (by show 2 * 0 + _ ≤ _; exact Nat.le_of_eq rfl) (hb hby at_43) (fun _ _ => ⟨rfl, rfl, (by decide : 1 + 1 ≤ _), (by decide : 1 + 4 ≤ _)⟩)
  dsimp only [Pt.U, Pt.locs, Pt.cells, Pt.slots] at X9 l9 y9 z9 st9 hQ9
  subst l9 y9 z9
  obtain ⟨bR9_3, rfl, Nq9, Kq9, sz9_3, x9_0, x9_1, x9_2, x9_3, x9_4⟩ := hQ9
  have N9 := Fr.app N4 Nq9
  obtain ⟨Lh9, X9, N9⟩ := own_hide X9 N9
  have Z11 : n0 ≤ T9.heap.size := (Nat.le_trans Z6 Kq9.1)
  obtain ⟨cq12, kq12, q12a, q12b, q12c⟩ := isOf hZ rfl x9_0
  obtain ⟨_, _, ⟨T12, L12, k12, n12⟩, -, X12, ⟨Lc12, hQ12, l12, y12, z12⟩, st12⟩ := X9.virtualBack hx (y := yN6) (z := yN6) hown (mvT hZ (ow hw 34 rfl)) (mvT hZ (ow hw 35 rfl)) (notFace_of_selects (args := #[]) (mvT hZ (ow hw 37 rfl))) (mvT hZ (ow hw 37 rfl)) (mvT hZ (ow hw 36 rfl)) (by decide) (backOf (W := 0) (grR l Z a0 hw [] bR9_3 bR4_2 T9.heap n0 Z11 x9_1) hZ (ow hw 38 rfl) (ow hw 10 rfl) (by decide) (by decide)) q12a q12c (g := (mkF m 57 #[.val (.int pI1), .val (.int pI2), .val (.int pI3), .val (.int ((200 : Int32) + ((pI1 &&& (2147483647 : Int32)) % (100 : Int32)))), .val (.int (0 : Int32)), .val (.ref bR4_2), .val (.ref bR9_3)] [(.ref bR9_3)])) rfl (by rw [hml]; rfl) (Steps.refl _) (argsL := []) (rest := []) (lenOf pd_5 rfl) rfl (by show 2 * 0 + _ ≤ _; exact Nat.le_of_eq rfl) (hb hby at_57) (fun _ _ => ⟨rfl, rfl, (by decide : 2 + 0 ≤ _), (by decide : 5 + 0 ≤ _)⟩)
  dsimp only [Pt.U, Pt.locs, Pt.cells, Pt.slots] at X12 l12 y12 z12 st12 hQ12
  subst l12 y12 z12
  obtain ⟨rfl, Nq12, e12⟩ := hQ12
  have N12 := Fr.app N9 Nq12
  obtain ⟨cq13, kq13, q13a, q13b, q13c⟩ := isOf hZ e12 x9_0
  obtain ⟨_, _, ⟨T13, L13, k13, n13⟩, -, X13, ⟨Lc13, hQ13, l13, y13, z13⟩, st13⟩ := X12.virtualBack hx (y := yN7) (z := yN7) hown (mvT hZ (ow hw 39 rfl)) (mvT hZ (ow hw 40 rfl)) (notFace_of_selects (args := #[]) (mvT hZ (ow hw 42 rfl))) (mvT hZ (ow hw 42 rfl)) (mvT hZ (ow hw 41 rfl)) (by decide) (backOf (W := 0) (gsc l Z a0 hw [] bR9_3 ((200 : Int32) + ((pI1 &&& (2147483647 : Int32)) % (100 : Int32))) T9.heap n0 Z11 x9_3) hZ (ow hw 43 rfl) (ow hw 10 rfl) (by decide) (by decide)) q13a q13c (g := (mkF m 69 #[.val (.int pI1), .val (.int pI2), .val (.int pI3), .val (.int ((200 : Int32) + ((pI1 &&& (2147483647 : Int32)) % (100 : Int32)))), .val (.int (0 : Int32)), .val (.ref bR4_2), .val (.ref bR9_3)] [(.ref bR9_3)])) rfl (by rw [hml]; rfl) (Steps.refl _) (argsL := []) (rest := []) (lenOf pd_6 rfl) rfl (by show 2 * 0 + _ ≤ _; exact Nat.le_of_eq rfl) (hb hby at_69) (fun _ _ => ⟨rfl, e12, (by decide : 2 + 0 ≤ _), (by decide : 5 + 0 ≤ _)⟩)
  dsimp only [Pt.U, Pt.locs, Pt.cells, Pt.slots] at X13 l13 y13 z13 st13 hQ13
  subst l13 y13 z13
  obtain ⟨rfl, Nq13, e13⟩ := hQ13
  have N13 := Fr.app N12 Nq13
  obtain ⟨cq14, kq14, q14a, q14b, q14c⟩ := isOf hZ e13 x9_0
  obtain ⟨_, _, ⟨T14, L14, k14, n14⟩, -, X14, ⟨Lc14, hQ14, l14, y14, z14⟩, st14⟩ := X13.virtualBack hx (y := yN8) (z := yN8) hown (mvT hZ (ow hw 44 rfl)) (mvT hZ (ow hw 45 rfl)) (notFace_of_selects (args := #[]) (mvT hZ (ow hw 47 rfl))) (mvT hZ (ow hw 47 rfl)) (mvT hZ (ow hw 46 rfl)) (by decide) (backOf (W := 0) (isS l Z a0 hw [] bR9_3 T9.heap n0 Z11 x9_4) hZ (ow hw 48 rfl) (ow hw 10 rfl) (by decide) (by decide)) q14a q14c (g := (mkF m 80 #[.val (.int pI1), .val (.int pI2), .val (.int pI3), .val (.int ((200 : Int32) + ((pI1 &&& (2147483647 : Int32)) % (100 : Int32)))), .val (.int (0 : Int32)), .val (.ref bR4_2), .val (.ref bR9_3)] [(.ref bR9_3)])) rfl (by rw [hml]; rfl) (Steps.refl _) (argsL := []) (rest := []) (lenOf pd_7 rfl) rfl (by show 2 * 0 + _ ≤ _; exact Nat.le_of_eq rfl) (hb hby at_80) (fun _ _ => ⟨rfl, e13, (by decide : 2 + 0 ≤ _), (by decide : 5 + 0 ≤ _)⟩)
  dsimp only [Pt.U, Pt.locs, Pt.cells, Pt.slots] at X14 l14 y14 z14 st14 hQ14
  subst l14 y14 z14
  obtain ⟨rfl, Nq14, e14⟩ := hQ14
  have N14 := Fr.app N13 Nq14
  obtain ⟨cq15, kq15, q15a, q15b, q15c⟩ := isOf hZ e14 x9_0
  obtain ⟨_, _, ⟨T15, L15, k15, n15⟩, -, X15, ⟨Lc15, hQ15, l15, y15, z15⟩, st15⟩ := X14.virtualBack hx (y := yN9) (z := yN9) hown (mvT hZ (ow hw 49 rfl)) (mvT hZ (ow hw 50 rfl)) (notFace_of_selects (args := #[]) (mvT hZ (ow hw 52 rfl))) (mvT hZ (ow hw 52 rfl)) (mvT hZ (ow hw 51 rfl)) (by decide) (backOf (W := 0) (gem l Z a0 hw [] bR9_3 pR7 T9.heap n0 Z11 x9_2) hZ (ow hw 53 rfl) (ow hw 10 rfl) (by decide) (by decide)) q15a q15c (g := (mkF m 90 #[.val (.int pI1), .val (.int pI2), .val (.int pI3), .val (.int ((200 : Int32) + ((pI1 &&& (2147483647 : Int32)) % (100 : Int32)))), .val (.int (0 : Int32)), .val (.ref bR4_2), .val (.ref bR9_3)] [(.ref bR9_3)])) rfl (by rw [hml]; rfl) (Steps.refl _) (argsL := []) (rest := []) (lenOf pd_2 rfl) rfl (by show 2 * 0 + _ ≤ _; exact Nat.le_of_eq rfl) (hb hby at_90) (fun _ _ => ⟨rfl, e14, (by decide : 2 + 0 ≤ _), (by decide : 5 + 0 ≤ _)⟩)
  dsimp only [Pt.U, Pt.locs, Pt.cells, Pt.slots] at X15 l15 y15 z15 st15 hQ15
  subst l15 y15 z15
  obtain ⟨rfl, Nq15, e15⟩ := hQ15
  have N15 := Fr.app N14 Nq15
  obtain ⟨cq16, kq16, q16a, q16b, q16c⟩ := isOf hZ e15 x9_0
  obtain ⟨_, _, ⟨T16, L16, k16, n16⟩, -, X16, ⟨Lc16, hQ16, l16, y16, z16⟩, st16⟩ := X15.virtualBack hx (y := yN9) (z := yN9) hown (mvT hZ (ow hw 49 rfl)) (mvT hZ (ow hw 50 rfl)) (notFace_of_selects (args := #[]) (mvT hZ (ow hw 52 rfl))) (mvT hZ (ow hw 52 rfl)) (mvT hZ (ow hw 51 rfl)) (by decide) (backOf (W := 0) (gem l Z a0 hw [] bR9_3 pR7 T9.heap n0 Z11 x9_2) hZ (ow hw 53 rfl) (ow hw 10 rfl) (by decide) (by decide)) q16a q16c (g := (mkF m 100 #[.val (.int pI1), .val (.int pI2), .val (.int pI3), .val (.int ((200 : Int32) + ((pI1 &&& (2147483647 : Int32)) % (100 : Int32)))), .val (.int (0 : Int32)), .val (.ref bR4_2), .val (.ref bR9_3)] [(.ref bR9_3)])) rfl (by rw [hml]; rfl) (Steps.refl _) (argsL := []) (rest := []) (lenOf pd_2 rfl) rfl (by show 2 * 0 + _ ≤ _; exact Nat.le_of_eq rfl) (hb hby at_100) (fun _ _ => ⟨rfl, e15, (by decide : 2 + 0 ≤ _), (by decide : 5 + 0 ≤ _)⟩)
  dsimp only [Pt.U, Pt.locs, Pt.cells, Pt.slots] at X16 l16 y16 z16 st16 hQ16
  subst l16 y16 z16
  obtain ⟨rfl, Nq16, e16⟩ := hQ16
  have N16 := Fr.app N15 Nq16
  have c18 : Fld Z T4.heap pR7 "java/util/ImmutableCollections$ListN" "elements" "[Ljava/lang/Object;" (.ref pR17) := F_elements_pR7.keep Kq4 nin0
  have c19 : Fld Z T9.heap pR7 "java/util/ImmutableCollections$ListN" "elements" "[Ljava/lang/Object;" (.ref pR17) := c18.keep Kq9 nin0
  have c21 : Arv Z T4.heap pR17 pK20 (.object "java/lang/Object") (0 : Int32) [] .null := V_pR17.keep Kq4 nin0
  have c22 : Arv Z T9.heap pR17 pK20 (.object "java/lang/Object") (0 : Int32) [] .null := c21.keep Kq9 nin0
  have c24 : Exa Z T4.heap pR7 "java/util/ImmutableCollections$ListN" := E_pR7.keep Kq4
  have c25 : Exa Z T9.heap pR7 "java/util/ImmutableCollections$ListN" := c24.keep Kq9
  obtain ⟨cq23, kq23, q23a, q23b, q23c⟩ := isOf hZ e16 c25
  obtain ⟨_, _, ⟨T23, L23, k23, n23⟩, -, X23, ⟨Lc23, hQ23, l23, y23, z23⟩, st23⟩ := X16.interfaceBack hx (xi := yN11) (y := yN10) hown (mvT hZ (ow hw 54 rfl)) (mvT hZ (ow hw 55 rfl)) (mvT hZ (ow hw 56 rfl)) (mvT hZ (ow hw 57 rfl)) (mvT hZ (ow hw 58 rfl)) (mvT hZ (ow hw 59 rfl)) (mvT hZ (ow hw 60 rfl)) (mvT hZ (ow hw 61 rfl)) (by decide) (backOf (W := 0) (lsz l Z a0 hw [] pR7 pR17 pK20 T9.heap n0 Z11 c19 c22) hZ (ow hw 63 rfl) (ow hw 62 rfl) (by decide) (by decide)) q23a q23b q23c (g := (mkF m 103 #[.val (.int pI1), .val (.int pI2), .val (.int pI3), .val (.int ((200 : Int32) + ((pI1 &&& (2147483647 : Int32)) % (100 : Int32)))), .val (.int (0 : Int32)), .val (.ref bR4_2), .val (.ref bR9_3)] [(.ref pR7)])) rfl (by rw [hml]; rfl) (Steps.refl _) (argsL := []) (rest := []) (lenOf pd_6 rfl) rfl (by show 2 * 0 + _ ≤ _; exact Nat.le_of_eq rfl) (hb hby at_103) (fun _ _ => ⟨rfl, e16, (by decide : 2 + 0 ≤ _), (by decide : 5 + 0 ≤ _)⟩)
  dsimp only [Pt.U, Pt.locs, Pt.cells, Pt.slots] at X23 l23 y23 z23 st23 hQ23
  subst l23 y23 z23
  obtain ⟨rfl, Nq23, e23⟩ := hQ23
  have N23 := Fr.app N16 Nq23
  obtain ⟨fs, hr, hrun, hended, hW, hsame⟩ := X23.leave (v := some (.int (1 : Int32))) (fun h => by rw [Bd.returns] at h; cases h)
  refine ⟨_, _, pre0 _ ?_, hrun, hended, _, _, rfl, ?_, ⟨_, rfl⟩, hW, hsame.mono (by decide) (by decide)⟩
  · show oS p e below s₁ m 0 #[.val (.int pI1), .val (.int pI2), .val (.int pI3), .unset, .unset, .unset, .unset] [] _
    refine XS.sipush X0.here hx rfl (hb hby at_0) ?_
    refine XS.iloadN X0.here hx rfl (hb hby at_3) rfl ?_
    refine X0.ldcInt hx hown (mvT hZ (ow hw 0 rfl)) (g := (mkF m 4 #[.val (.int pI1), .val (.int pI2), .val (.int pI3), .unset, .unset, .unset, .unset] [(.int pI1), (.int (200 : Int32))])) rfl (hb hby at_4) _ ?_
    refine XS.iand X0.here hx rfl (hb hby at_6) rfl ?_
    show oS p e below s₁ m 7 #[.val (.int pI1), .val (.int pI2), .val (.int pI3), .unset, .unset, .unset, .unset] [(.int (pI1 &&& (2147483647 : Int32))), (.int (200 : Int32))] _
    refine XS.bipush X0.here hx rfl (hb hby at_7) ?_
    show Steps p.tables e below (s₁.setTop (mkF m 9 #[.val (.int pI1), .val (.int pI2), .val (.int pI3), .unset, .unset, .unset, .unset] [(.int (100 : Int32)), (.int (pI1 &&& (2147483647 : Int32))), (.int (200 : Int32))])) _
    refine iremM (g := (mkF m 9 #[.val (.int pI1), .val (.int pI2), .val (.int pI3), .unset, .unset, .unset, .unset] [(.int (100 : Int32)), (.int (pI1 &&& (2147483647 : Int32))), (.int (200 : Int32))])) X0 hx rfl (hb hby at_9) rfl (by decide) ?_
    refine XS.iadd X0.here hx rfl (hb hby at_10) rfl ?_
    refine XS.istoreN X0.here hx rfl (hb hby at_11) rfl (l' := #[.val (.int pI1), .val (.int pI2), .val (.int pI3), .val (.int ((200 : Int32) + ((pI1 &&& (2147483647 : Int32)) % (100 : Int32)))), .unset, .unset, .unset]) rfl ?_
    show oS p e below s₁ m 12 #[.val (.int pI1), .val (.int pI2), .val (.int pI3), .val (.int ((200 : Int32) + ((pI1 &&& (2147483647 : Int32)) % (100 : Int32)))), .unset, .unset, .unset] [] _
    refine XS.iloadN X0.here hx rfl (hb hby at_12) rfl ?_
    refine XS.iconst X0.here hx rfl (hb hby at_13) ?_
    refine XS.iand X0.here hx rfl (hb hby at_14) rfl ?_
    refine XS.ifYes X0.here hx rfl (pc0 := 15) (pc' := 22) rfl (hb hby at_15) rfl ((if0 _ _).trans (teq hc15).1) (by decide) (by decide) ?_
    show oS p e below s₁ m 22 #[.val (.int pI1), .val (.int pI2), .val (.int pI3), .val (.int ((200 : Int32) + ((pI1 &&& (2147483647 : Int32)) % (100 : Int32)))), .unset, .unset, .unset] [] _
    refine XS.iconst X0.here hx rfl (hb hby at_22) ?_
    refine XS.istore X0.here hx rfl (hb hby at_23) rfl (l' := #[.val (.int pI1), .val (.int pI2), .val (.int pI3), .val (.int ((200 : Int32) + ((pI1 &&& (2147483647 : Int32)) % (100 : Int32)))), .val (.int (0 : Int32)), .unset, .unset]) rfl ?_
    refine XS.iload X0.here hx rfl (hb hby at_25) rfl ?_
    refine XS.ifYes X0.here hx rfl (pc0 := 27) (pc' := 34) rfl (hb hby at_27) rfl ((if0 _ _).trans (teq (by decide : (0 : Int32) = (0 : Int32))).1) (by decide) (by decide) ?_
    show oS p e below s₁ m 34 #[.val (.int pI1), .val (.int pI2), .val (.int pI3), .val (.int ((200 : Int32) + ((pI1 &&& (2147483647 : Int32)) % (100 : Int32)))), .val (.int (0 : Int32)), .unset, .unset] [] _
    refine XS.iloadN X0.here hx rfl (hb hby at_34) rfl ?_
    refine st4 _ ?_
    refine XS.astore X4.here hx rfl (hb hby at_38) rfl rfl (l' := #[.val (.int pI1), .val (.int pI2), .val (.int pI3), .val (.int ((200 : Int32) + ((pI1 &&& (2147483647 : Int32)) % (100 : Int32)))), .val (.int (0 : Int32)), .val (.ref bR4_2), .unset]) rfl ?_
    refine XS.iloadN X4.here hx rfl (hb hby at_40) rfl ?_
    show oS p e below T4 m 41 #[.val (.int pI1), .val (.int pI2), .val (.int pI3), .val (.int ((200 : Int32) + ((pI1 &&& (2147483647 : Int32)) % (100 : Int32)))), .val (.int (0 : Int32)), .val (.ref bR4_2), .unset] [(.int ((200 : Int32) + ((pI1 &&& (2147483647 : Int32)) % (100 : Int32))))] _
    refine XS.aload X4.here hx rfl (hb hby at_41) rfl rfl ?_
    refine st9 _ ?_
    refine XS.astore X9.here hx rfl (hb hby at_46) rfl rfl (l' := #[.val (.int pI1), .val (.int pI2), .val (.int pI3), .val (.int ((200 : Int32) + ((pI1 &&& (2147483647 : Int32)) % (100 : Int32)))), .val (.int (0 : Int32)), .val (.ref bR4_2), .val (.ref bR9_3)]) rfl ?_
    refine XS.aload X9.here hx rfl (hb hby at_48) rfl rfl ?_
    show oS p e below T9 m 50 #[.val (.int pI1), .val (.int pI2), .val (.int pI3), .val (.int ((200 : Int32) + ((pI1 &&& (2147483647 : Int32)) % (100 : Int32)))), .val (.int (0 : Int32)), .val (.ref bR4_2), .val (.ref bR9_3)] [(.ref bR9_3)] _
    refine XS.ifnonnullYes X9.here hx rfl (pc0 := 50) (pc' := 55) rfl (hb hby at_50) rfl (by decide) (by decide) ?_
    refine XS.aload X9.here hx rfl (hb hby at_55) rfl rfl ?_
    refine st12.trans ?_
    refine XS.aload X12.here hx rfl (hb hby at_60) rfl rfl ?_
    show oS p e below T12 m 62 #[.val (.int pI1), .val (.int pI2), .val (.int pI3), .val (.int ((200 : Int32) + ((pI1 &&& (2147483647 : Int32)) % (100 : Int32)))), .val (.int (0 : Int32)), .val (.ref bR4_2), .val (.ref bR9_3)] [(.ref bR4_2), (.ref bR4_2)] _
    refine Jvm.RoadKit.acmp (g := (mkF m 62 #[.val (.int pI1), .val (.int pI2), .val (.int pI3), .val (.int ((200 : Int32) + ((pI1 &&& (2147483647 : Int32)) % (100 : Int32)))), .val (.int (0 : Int32)), .val (.ref bR4_2), .val (.ref bR9_3)] [(.ref bR4_2), (.ref bR4_2)])) X12 hx rfl rfl rfl (pc0 := 62) (pc' := 67) (same := true) rfl (hb hby at_62) rfl (decide_eq_true rfl) (by decide) (by decide) ?_
    refine XS.aload X12.here hx rfl (hb hby at_67) rfl rfl ?_
    refine st13.trans ?_
    refine XS.iloadN X13.here hx rfl (hb hby at_72) rfl ?_
    show oS p e below T13 m 73 #[.val (.int pI1), .val (.int pI2), .val (.int pI3), .val (.int ((200 : Int32) + ((pI1 &&& (2147483647 : Int32)) % (100 : Int32)))), .val (.int (0 : Int32)), .val (.ref bR4_2), .val (.ref bR9_3)] [(.int ((200 : Int32) + ((pI1 &&& (2147483647 : Int32)) % (100 : Int32)))), (.int ((200 : Int32) + ((pI1 &&& (2147483647 : Int32)) % (100 : Int32))))] _
    refine XS.icmpYes X13.here hx rfl (pc0 := 73) (pc' := 78) rfl (hb hby at_73) rfl (teq (rfl : ((200 : Int32) + ((pI1 &&& (2147483647 : Int32)) % (100 : Int32))) = ((200 : Int32) + ((pI1 &&& (2147483647 : Int32)) % (100 : Int32))))).1 (by decide) (by decide) ?_
    refine XS.aload X13.here hx rfl (hb hby at_78) rfl rfl ?_
    refine st14.trans ?_
    refine XS.ifYes X14.here hx rfl (pc0 := 83) (pc' := 88) rfl (hb hby at_83) rfl ((if0 _ _).trans (feq (by decide : ¬ ((1 : Int32) = (0 : Int32)))).2) (by decide) (by decide) ?_
    show oS p e below T14 m 88 #[.val (.int pI1), .val (.int pI2), .val (.int pI3), .val (.int ((200 : Int32) + ((pI1 &&& (2147483647 : Int32)) % (100 : Int32)))), .val (.int (0 : Int32)), .val (.ref bR4_2), .val (.ref bR9_3)] [] _
    refine XS.aload X14.here hx rfl (hb hby at_88) rfl rfl ?_
    refine st15.trans ?_
    refine XS.ifnonnullYes X15.here hx rfl (pc0 := 93) (pc' := 98) rfl (hb hby at_93) rfl (by decide) (by decide) ?_
    refine XS.aload X15.here hx rfl (hb hby at_98) rfl rfl ?_
    show oS p e below T15 m 100 #[.val (.int pI1), .val (.int pI2), .val (.int pI3), .val (.int ((200 : Int32) + ((pI1 &&& (2147483647 : Int32)) % (100 : Int32)))), .val (.int (0 : Int32)), .val (.ref bR4_2), .val (.ref bR9_3)] [(.ref bR9_3)] _
    refine st16.trans ?_
    refine st23.trans ?_
    refine XS.ifNo X23.here hx rfl (hb hby at_108) rfl ((if0 _ _).trans (teq (by decide : (0 : Int32) = (0 : Int32))).2) ?_
    refine XS.iconst X23.here hx rfl (hb hby at_111) ?_
    show oS p e below T23 m 112 #[.val (.int pI1), .val (.int pI2), .val (.int pI3), .val (.int ((200 : Int32) + ((pI1 &&& (2147483647 : Int32)) % (100 : Int32)))), .val (.int (0 : Int32)), .val (.ref bR4_2), .val (.ref bR9_3)] [(.int (1 : Int32))] _
    refine XS.goto X23.here hx rfl (pc0 := 112) (pc' := 116) rfl (hb hby at_112) (by decide) (by decide) ?_
    exact retN X23 hx (t := .boolean) Bd.returns (by simp) (hb hby at_116) hr
  · show QlawL Z pI1 pI2 pI3 pR7 pR17 pK20 h0 n0 _ T23.heap _
    rw [e23]
    exact ⟨rfl, N23⟩
theorem ef_lawH (m : MethodId) (pI1 : Int32) (pI2 : Int32) (pI3 : Int32) : entryFrame m #[(.int pI1), (.int pI2), (.int pI3)] maxLocals = mkF m 0 #[.val (.int pI1), .val (.int pI2), .val (.int pI3), .unset, .unset, .unset, .unset] [] := by first | (simp [entryFrame, mkF, argsToLocals, Value.category, maxLocals]; done) | rfl
def QlawH (Z : State) (pI1 : Int32) (pI2 : Int32) (pI3 : Int32) (pR7 : Addr) (pR17 : Addr) (pK20 : ClassId) (h0 : Heap) (n0 : Nat) (v : Option Value) (h : Heap) (L : List Loc) : Prop := v = some (.int (1 : Int32)) ∧ Fr n0 L
set_option maxRecDepth 65536 in
set_option maxHeartbeats 40000000 in
theorem lawH (l : Launch) (Z : State) (a0 : Array Value) (hw : ∀ d ∈ tables_1, d.before a0 Z = true) (ws : List Jvm.Cond) (pI1 : Int32) (pI2 : Int32) (pI3 : Int32) (pR7 : Addr) (pR17 : Addr) (pK20 : ClassId) (h0 : Heap) (n0 : Nat) (Z0 : n0 ≤ h0.size) (S_Integer_IntegerCache_high : Sta Z h0 "java/lang/Integer$IntegerCache" "high" "I" (.int (127 : Int32))) (S_ImmutableCollections_EMPTY_LIST : Sta Z h0 "java/util/ImmutableCollections" "EMPTY_LIST" "Ljava/util/ImmutableCollections$ListN;" (.ref pR7)) (F_elements_pR7 : Fld Z h0 pR7 "java/util/ImmutableCollections$ListN" "elements" "[Ljava/lang/Object;" (.ref pR17)) (V_pR17 : Arv Z h0 pR17 pK20 (.object "java/lang/Object") (0 : Int32) [] .null) (E_pR7 : Exa Z h0 pR7 "java/util/ImmutableCollections$ListN") (hc15 : (pI3 &&& (1 : Int32)) = (0 : Int32)) (hc35 : ¬ (pI2 < (-128 : Int32))) (hc35' : (127 : Int32) < pI2) (hc43 : ¬ (((200 : Int32) + ((pI1 &&& (2147483647 : Int32)) % (100 : Int32))) < (200 : Int32))) (hc43' : ¬ ((299 : Int32) < ((200 : Int32) + ((pI1 &&& (2147483647 : Int32)) % (100 : Int32))))) :
    MetFree l x (head1 (Jvm.Cond.code x code maxLocals ret :: ws) room_1) (fun a U => a = #[(.int pI1), (.int pI2), (.int pI3)] ∧ Z.Warmed39 U.vm ∧ U.heap = h0) (fun _ _ _ _ _ => True) (fun _ U o U' => ∃ v L, o = .returned v ∧ QlawH Z pI1 pI2 pI3 pR7 pR17 pK20 h0 n0 v U'.heap L ∧ FrameEnd U o U' L room_1.cells room_1.slots) := by
  refine MetFree.of_bodySF (plainFor_of_name pn_5) hisR ?_
  intro p e s m args below meth c s₁ Bd hml0 hP hK
  obtain ⟨rfl, hZ, hh⟩ := hP
  have hx := Bd.exec
  have hby := Bd.bytes
  have hml : c.maxLocals = 7 := hml0
  have hown : s.vm.findClass "com/example/willenhall/willenhall/api/ResponseEnvelopeSuccessPinLaw" = some m.cls := findClass_of_methodNamed Bd.named
  have hnm := (name_of_methodNamed Bd.named Bd.method).1
  have X0 : Stand p l e room_1 s m #[(.int pI1), (.int pI2), (.int pI3)] below meth c s₁ [] 0 0 := Stand.of_body Bd
  have e0 : s₁.heap = h0 := by rw [← hh, Bd.state]; rfl
  have N0 := Fr.nil n0
  have pre0 : ∀ t, Steps p.tables e below (s₁.setTop (mkF m 0 #[.val (.int pI1), .val (.int pI2), .val (.int pI3), .unset, .unset, .unset, .unset] [])) t → Steps p.tables e below (s₁.setTop (entryFrame m #[(.int pI1), (.int pI2), (.int pI3)] maxLocals)) t := fun t k => castTop (ef_lawH m pI1 pI2 pI3) k
  obtain ⟨_, _, ⟨T4, L4, k4, n4⟩, -, X4, ⟨Lc4, hQ4, l4, y4, z4⟩, st4⟩ := Jvm.LawKit.callS X0 hx (y := yN2) hown (mvT hZ (ow hw 1 rfl)) (mvT hZ (ow hw 2 rfl)) (mvT hZ (ow hw 3 rfl)) (mvT hZ (ow hw 4 rfl)) (by decide) (backOf (W := 0) (voH l Z a0 hw [] pI2 h0 n0 Z0 S_Integer_IntegerCache_high hc35 hc35') hZ (ow hw 4 rfl) (ow hw 3 rfl) (by decide) (by decide)) (g := (mkF m 35 #[.val (.int pI1), .val (.int pI2), .val (.int pI3), .val (.int ((200 : Int32) + ((pI1 &&& (2147483647 : Int32)) % (100 : Int32)))), .val (.int (0 : Int32)), .unset, .unset] [(.int pI2)])) rfl (by rw [hml]; rfl) (argsL := [(.int pI2)]) (rest := []) (lenOf pd_8 rfl) rfl (by show 2 * 0 + _ ≤ _; exact Nat.le_of_eq rfl) (hb hby at_35) (fun _ _ => ⟨rfl, e0, (by decide : 0 + 1 ≤ _), (by decide : 0 + 1 ≤ _)⟩)
  dsimp only [Pt.U, Pt.locs, Pt.cells, Pt.slots] at X4 l4 y4 z4 st4 hQ4
  subst l4 y4 z4
  obtain ⟨bR4_3, rfl, Nq4, Kq4, sz4_3, x4_0, x4_1⟩ := hQ4
  have N4 := Fr.app N0 Nq4
  obtain ⟨Lh4, X4, N4⟩ := own_hide X4 N4
  have Z6 : n0 ≤ T4.heap.size := (Nat.le_trans Z0 Kq4.1)
  have c8 : Sta Z T4.heap "java/util/ImmutableCollections" "EMPTY_LIST" "Ljava/util/ImmutableCollections$ListN;" (.ref pR7) := own_sta_keep S_ImmutableCollections_EMPTY_LIST Kq4 all0
  obtain ⟨_, _, ⟨T9, L9, k9, n9⟩, -, X9, ⟨Lc9, hQ9, l9, y9, z9⟩, st9⟩ := Jvm.LawKit.callS X4 hx (y := yN5) hown (mvT hZ (ow hw 8 rfl)) (mvT hZ (ow hw 9 rfl)) (mvT hZ (ow hw 10 rfl)) (mvT hZ (ow hw 11 rfl)) (by decide) (backOf (W := 0) (suR l Z a0 hw [] ((200 : Int32) + ((pI1 &&& (2147483647 : Int32)) % (100 : Int32))) bR4_3 pR7 T4.heap n0 Z6 c8 hc43 hc43') hZ (ow hw 11 rfl) (ow hw 10 rfl) (by decide) (by decide)) (g := (mkF m 43 #[.val (.int pI1), .val (.int pI2), .val (.int pI3), .val (.int ((200 : Int32) + ((pI1 &&& (2147483647 : Int32)) % (100 : Int32)))), .val (.int (0 : Int32)), .val (.ref bR4_3), .unset] [(.ref bR4_3), (.int ((200 : Int32) + ((pI1 &&& (2147483647 : Int32)) % (100 : Int32))))])) rfl (by rw [hml]; rfl) (argsL := [(.int ((200 : Int32) + ((pI1 &&& (2147483647 : Int32)) % (100 : Int32)))), (.ref bR4_3)]) (rest := []) (lenOf pd_4 rfl) rfl (by show 2 * 0 + _ ≤ _; exact Nat.le_of_eq rfl) (hb hby at_43) (fun _ _ => ⟨rfl, rfl, (by decide : 1 + 1 ≤ _), (by decide : 1 + 4 ≤ _)⟩)
  dsimp only [Pt.U, Pt.locs, Pt.cells, Pt.slots] at X9 l9 y9 z9 st9 hQ9
  subst l9 y9 z9
  obtain ⟨bR9_3, rfl, Nq9, Kq9, sz9_3, x9_0, x9_1, x9_2, x9_3, x9_4⟩ := hQ9
  have N9 := Fr.app N4 Nq9
  obtain ⟨Lh9, X9, N9⟩ := own_hide X9 N9
  have Z11 : n0 ≤ T9.heap.size := (Nat.le_trans Z6 Kq9.1)
  obtain ⟨cq12, kq12, q12a, q12b, q12c⟩ := isOf hZ rfl x9_0
  obtain ⟨_, _, ⟨T12, L12, k12, n12⟩, -, X12, ⟨Lc12, hQ12, l12, y12, z12⟩, st12⟩ := X9.virtualBack hx (y := yN6) (z := yN6) hown (mvT hZ (ow hw 34 rfl)) (mvT hZ (ow hw 35 rfl)) (notFace_of_selects (args := #[]) (mvT hZ (ow hw 37 rfl))) (mvT hZ (ow hw 37 rfl)) (mvT hZ (ow hw 36 rfl)) (by decide) (backOf (W := 0) (grR l Z a0 hw [] bR9_3 bR4_3 T9.heap n0 Z11 x9_1) hZ (ow hw 38 rfl) (ow hw 10 rfl) (by decide) (by decide)) q12a q12c (g := (mkF m 57 #[.val (.int pI1), .val (.int pI2), .val (.int pI3), .val (.int ((200 : Int32) + ((pI1 &&& (2147483647 : Int32)) % (100 : Int32)))), .val (.int (0 : Int32)), .val (.ref bR4_3), .val (.ref bR9_3)] [(.ref bR9_3)])) rfl (by rw [hml]; rfl) (Steps.refl _) (argsL := []) (rest := []) (lenOf pd_5 rfl) rfl (by show 2 * 0 + _ ≤ _; exact Nat.le_of_eq rfl) (hb hby at_57) (fun _ _ => ⟨rfl, rfl, (by decide : 2 + 0 ≤ _), (by decide : 5 + 0 ≤ _)⟩)
  dsimp only [Pt.U, Pt.locs, Pt.cells, Pt.slots] at X12 l12 y12 z12 st12 hQ12
  subst l12 y12 z12
  obtain ⟨rfl, Nq12, e12⟩ := hQ12
  have N12 := Fr.app N9 Nq12
  obtain ⟨cq13, kq13, q13a, q13b, q13c⟩ := isOf hZ e12 x9_0
  obtain ⟨_, _, ⟨T13, L13, k13, n13⟩, -, X13, ⟨Lc13, hQ13, l13, y13, z13⟩, st13⟩ := X12.virtualBack hx (y := yN7) (z := yN7) hown (mvT hZ (ow hw 39 rfl)) (mvT hZ (ow hw 40 rfl)) (notFace_of_selects (args := #[]) (mvT hZ (ow hw 42 rfl))) (mvT hZ (ow hw 42 rfl)) (mvT hZ (ow hw 41 rfl)) (by decide) (backOf (W := 0) (gsc l Z a0 hw [] bR9_3 ((200 : Int32) + ((pI1 &&& (2147483647 : Int32)) % (100 : Int32))) T9.heap n0 Z11 x9_3) hZ (ow hw 43 rfl) (ow hw 10 rfl) (by decide) (by decide)) q13a q13c (g := (mkF m 69 #[.val (.int pI1), .val (.int pI2), .val (.int pI3), .val (.int ((200 : Int32) + ((pI1 &&& (2147483647 : Int32)) % (100 : Int32)))), .val (.int (0 : Int32)), .val (.ref bR4_3), .val (.ref bR9_3)] [(.ref bR9_3)])) rfl (by rw [hml]; rfl) (Steps.refl _) (argsL := []) (rest := []) (lenOf pd_6 rfl) rfl (by show 2 * 0 + _ ≤ _; exact Nat.le_of_eq rfl) (hb hby at_69) (fun _ _ => ⟨rfl, e12, (by decide : 2 + 0 ≤ _), (by decide : 5 + 0 ≤ _)⟩)
  dsimp only [Pt.U, Pt.locs, Pt.cells, Pt.slots] at X13 l13 y13 z13 st13 hQ13
  subst l13 y13 z13
  obtain ⟨rfl, Nq13, e13⟩ := hQ13
  have N13 := Fr.app N12 Nq13
  obtain ⟨cq14, kq14, q14a, q14b, q14c⟩ := isOf hZ e13 x9_0
  obtain ⟨_, _, ⟨T14, L14, k14, n14⟩, -, X14, ⟨Lc14, hQ14, l14, y14, z14⟩, st14⟩ := X13.virtualBack hx (y := yN8) (z := yN8) hown (mvT hZ (ow hw 44 rfl)) (mvT hZ (ow hw 45 rfl)) (notFace_of_selects (args := #[]) (mvT hZ (ow hw 47 rfl))) (mvT hZ (ow hw 47 rfl)) (mvT hZ (ow hw 46 rfl)) (by decide) (backOf (W := 0) (isS l Z a0 hw [] bR9_3 T9.heap n0 Z11 x9_4) hZ (ow hw 48 rfl) (ow hw 10 rfl) (by decide) (by decide)) q14a q14c (g := (mkF m 80 #[.val (.int pI1), .val (.int pI2), .val (.int pI3), .val (.int ((200 : Int32) + ((pI1 &&& (2147483647 : Int32)) % (100 : Int32)))), .val (.int (0 : Int32)), .val (.ref bR4_3), .val (.ref bR9_3)] [(.ref bR9_3)])) rfl (by rw [hml]; rfl) (Steps.refl _) (argsL := []) (rest := []) (lenOf pd_7 rfl) rfl (by show 2 * 0 + _ ≤ _; exact Nat.le_of_eq rfl) (hb hby at_80) (fun _ _ => ⟨rfl, e13, (by decide : 2 + 0 ≤ _), (by decide : 5 + 0 ≤ _)⟩)
  dsimp only [Pt.U, Pt.locs, Pt.cells, Pt.slots] at X14 l14 y14 z14 st14 hQ14
  subst l14 y14 z14
  obtain ⟨rfl, Nq14, e14⟩ := hQ14
  have N14 := Fr.app N13 Nq14
  obtain ⟨cq15, kq15, q15a, q15b, q15c⟩ := isOf hZ e14 x9_0
  obtain ⟨_, _, ⟨T15, L15, k15, n15⟩, -, X15, ⟨Lc15, hQ15, l15, y15, z15⟩, st15⟩ := X14.virtualBack hx (y := yN9) (z := yN9) hown (mvT hZ (ow hw 49 rfl)) (mvT hZ (ow hw 50 rfl)) (notFace_of_selects (args := #[]) (mvT hZ (ow hw 52 rfl))) (mvT hZ (ow hw 52 rfl)) (mvT hZ (ow hw 51 rfl)) (by decide) (backOf (W := 0) (gem l Z a0 hw [] bR9_3 pR7 T9.heap n0 Z11 x9_2) hZ (ow hw 53 rfl) (ow hw 10 rfl) (by decide) (by decide)) q15a q15c (g := (mkF m 90 #[.val (.int pI1), .val (.int pI2), .val (.int pI3), .val (.int ((200 : Int32) + ((pI1 &&& (2147483647 : Int32)) % (100 : Int32)))), .val (.int (0 : Int32)), .val (.ref bR4_3), .val (.ref bR9_3)] [(.ref bR9_3)])) rfl (by rw [hml]; rfl) (Steps.refl _) (argsL := []) (rest := []) (lenOf pd_2 rfl) rfl (by show 2 * 0 + _ ≤ _; exact Nat.le_of_eq rfl) (hb hby at_90) (fun _ _ => ⟨rfl, e14, (by decide : 2 + 0 ≤ _), (by decide : 5 + 0 ≤ _)⟩)
  dsimp only [Pt.U, Pt.locs, Pt.cells, Pt.slots] at X15 l15 y15 z15 st15 hQ15
  subst l15 y15 z15
  obtain ⟨rfl, Nq15, e15⟩ := hQ15
  have N15 := Fr.app N14 Nq15
  obtain ⟨cq16, kq16, q16a, q16b, q16c⟩ := isOf hZ e15 x9_0
  obtain ⟨_, _, ⟨T16, L16, k16, n16⟩, -, X16, ⟨Lc16, hQ16, l16, y16, z16⟩, st16⟩ := X15.virtualBack hx (y := yN9) (z := yN9) hown (mvT hZ (ow hw 49 rfl)) (mvT hZ (ow hw 50 rfl)) (notFace_of_selects (args := #[]) (mvT hZ (ow hw 52 rfl))) (mvT hZ (ow hw 52 rfl)) (mvT hZ (ow hw 51 rfl)) (by decide) (backOf (W := 0) (gem l Z a0 hw [] bR9_3 pR7 T9.heap n0 Z11 x9_2) hZ (ow hw 53 rfl) (ow hw 10 rfl) (by decide) (by decide)) q16a q16c (g := (mkF m 100 #[.val (.int pI1), .val (.int pI2), .val (.int pI3), .val (.int ((200 : Int32) + ((pI1 &&& (2147483647 : Int32)) % (100 : Int32)))), .val (.int (0 : Int32)), .val (.ref bR4_3), .val (.ref bR9_3)] [(.ref bR9_3)])) rfl (by rw [hml]; rfl) (Steps.refl _) (argsL := []) (rest := []) (lenOf pd_2 rfl) rfl (by show 2 * 0 + _ ≤ _; exact Nat.le_of_eq rfl) (hb hby at_100) (fun _ _ => ⟨rfl, e15, (by decide : 2 + 0 ≤ _), (by decide : 5 + 0 ≤ _)⟩)
  dsimp only [Pt.U, Pt.locs, Pt.cells, Pt.slots] at X16 l16 y16 z16 st16 hQ16
  subst l16 y16 z16
  obtain ⟨rfl, Nq16, e16⟩ := hQ16
  have N16 := Fr.app N15 Nq16
  have c18 : Fld Z T4.heap pR7 "java/util/ImmutableCollections$ListN" "elements" "[Ljava/lang/Object;" (.ref pR17) := F_elements_pR7.keep Kq4 nin0
  have c19 : Fld Z T9.heap pR7 "java/util/ImmutableCollections$ListN" "elements" "[Ljava/lang/Object;" (.ref pR17) := c18.keep Kq9 nin0
  have c21 : Arv Z T4.heap pR17 pK20 (.object "java/lang/Object") (0 : Int32) [] .null := V_pR17.keep Kq4 nin0
  have c22 : Arv Z T9.heap pR17 pK20 (.object "java/lang/Object") (0 : Int32) [] .null := c21.keep Kq9 nin0
  have c24 : Exa Z T4.heap pR7 "java/util/ImmutableCollections$ListN" := E_pR7.keep Kq4
  have c25 : Exa Z T9.heap pR7 "java/util/ImmutableCollections$ListN" := c24.keep Kq9
  obtain ⟨cq23, kq23, q23a, q23b, q23c⟩ := isOf hZ e16 c25
  obtain ⟨_, _, ⟨T23, L23, k23, n23⟩, -, X23, ⟨Lc23, hQ23, l23, y23, z23⟩, st23⟩ := X16.interfaceBack hx (xi := yN11) (y := yN10) hown (mvT hZ (ow hw 54 rfl)) (mvT hZ (ow hw 55 rfl)) (mvT hZ (ow hw 56 rfl)) (mvT hZ (ow hw 57 rfl)) (mvT hZ (ow hw 58 rfl)) (mvT hZ (ow hw 59 rfl)) (mvT hZ (ow hw 60 rfl)) (mvT hZ (ow hw 61 rfl)) (by decide) (backOf (W := 0) (lsz l Z a0 hw [] pR7 pR17 pK20 T9.heap n0 Z11 c19 c22) hZ (ow hw 63 rfl) (ow hw 62 rfl) (by decide) (by decide)) q23a q23b q23c (g := (mkF m 103 #[.val (.int pI1), .val (.int pI2), .val (.int pI3), .val (.int ((200 : Int32) + ((pI1 &&& (2147483647 : Int32)) % (100 : Int32)))), .val (.int (0 : Int32)), .val (.ref bR4_3), .val (.ref bR9_3)] [(.ref pR7)])) rfl (by rw [hml]; rfl) (Steps.refl _) (argsL := []) (rest := []) (lenOf pd_6 rfl) rfl (by show 2 * 0 + _ ≤ _; exact Nat.le_of_eq rfl) (hb hby at_103) (fun _ _ => ⟨rfl, e16, (by decide : 2 + 0 ≤ _), (by decide : 5 + 0 ≤ _)⟩)
  dsimp only [Pt.U, Pt.locs, Pt.cells, Pt.slots] at X23 l23 y23 z23 st23 hQ23
  subst l23 y23 z23
  obtain ⟨rfl, Nq23, e23⟩ := hQ23
  have N23 := Fr.app N16 Nq23
  obtain ⟨fs, hr, hrun, hended, hW, hsame⟩ := X23.leave (v := some (.int (1 : Int32))) (fun h => by rw [Bd.returns] at h; cases h)
  refine ⟨_, _, pre0 _ ?_, hrun, hended, _, _, rfl, ?_, ⟨_, rfl⟩, hW, hsame.mono (by decide) (by decide)⟩
  · show oS p e below s₁ m 0 #[.val (.int pI1), .val (.int pI2), .val (.int pI3), .unset, .unset, .unset, .unset] [] _
    refine XS.sipush X0.here hx rfl (hb hby at_0) ?_
    refine XS.iloadN X0.here hx rfl (hb hby at_3) rfl ?_
    refine X0.ldcInt hx hown (mvT hZ (ow hw 0 rfl)) (g := (mkF m 4 #[.val (.int pI1), .val (.int pI2), .val (.int pI3), .unset, .unset, .unset, .unset] [(.int pI1), (.int (200 : Int32))])) rfl (hb hby at_4) _ ?_
    refine XS.iand X0.here hx rfl (hb hby at_6) rfl ?_
    show oS p e below s₁ m 7 #[.val (.int pI1), .val (.int pI2), .val (.int pI3), .unset, .unset, .unset, .unset] [(.int (pI1 &&& (2147483647 : Int32))), (.int (200 : Int32))] _
    refine XS.bipush X0.here hx rfl (hb hby at_7) ?_
    show Steps p.tables e below (s₁.setTop (mkF m 9 #[.val (.int pI1), .val (.int pI2), .val (.int pI3), .unset, .unset, .unset, .unset] [(.int (100 : Int32)), (.int (pI1 &&& (2147483647 : Int32))), (.int (200 : Int32))])) _
    refine iremM (g := (mkF m 9 #[.val (.int pI1), .val (.int pI2), .val (.int pI3), .unset, .unset, .unset, .unset] [(.int (100 : Int32)), (.int (pI1 &&& (2147483647 : Int32))), (.int (200 : Int32))])) X0 hx rfl (hb hby at_9) rfl (by decide) ?_
    refine XS.iadd X0.here hx rfl (hb hby at_10) rfl ?_
    refine XS.istoreN X0.here hx rfl (hb hby at_11) rfl (l' := #[.val (.int pI1), .val (.int pI2), .val (.int pI3), .val (.int ((200 : Int32) + ((pI1 &&& (2147483647 : Int32)) % (100 : Int32)))), .unset, .unset, .unset]) rfl ?_
    show oS p e below s₁ m 12 #[.val (.int pI1), .val (.int pI2), .val (.int pI3), .val (.int ((200 : Int32) + ((pI1 &&& (2147483647 : Int32)) % (100 : Int32)))), .unset, .unset, .unset] [] _
    refine XS.iloadN X0.here hx rfl (hb hby at_12) rfl ?_
    refine XS.iconst X0.here hx rfl (hb hby at_13) ?_
    refine XS.iand X0.here hx rfl (hb hby at_14) rfl ?_
    refine XS.ifYes X0.here hx rfl (pc0 := 15) (pc' := 22) rfl (hb hby at_15) rfl ((if0 _ _).trans (teq hc15).1) (by decide) (by decide) ?_
    show oS p e below s₁ m 22 #[.val (.int pI1), .val (.int pI2), .val (.int pI3), .val (.int ((200 : Int32) + ((pI1 &&& (2147483647 : Int32)) % (100 : Int32)))), .unset, .unset, .unset] [] _
    refine XS.iconst X0.here hx rfl (hb hby at_22) ?_
    refine XS.istore X0.here hx rfl (hb hby at_23) rfl (l' := #[.val (.int pI1), .val (.int pI2), .val (.int pI3), .val (.int ((200 : Int32) + ((pI1 &&& (2147483647 : Int32)) % (100 : Int32)))), .val (.int (0 : Int32)), .unset, .unset]) rfl ?_
    refine XS.iload X0.here hx rfl (hb hby at_25) rfl ?_
    refine XS.ifYes X0.here hx rfl (pc0 := 27) (pc' := 34) rfl (hb hby at_27) rfl ((if0 _ _).trans (teq (by decide : (0 : Int32) = (0 : Int32))).1) (by decide) (by decide) ?_
    show oS p e below s₁ m 34 #[.val (.int pI1), .val (.int pI2), .val (.int pI3), .val (.int ((200 : Int32) + ((pI1 &&& (2147483647 : Int32)) % (100 : Int32)))), .val (.int (0 : Int32)), .unset, .unset] [] _
    refine XS.iloadN X0.here hx rfl (hb hby at_34) rfl ?_
    refine st4 _ ?_
    refine XS.astore X4.here hx rfl (hb hby at_38) rfl rfl (l' := #[.val (.int pI1), .val (.int pI2), .val (.int pI3), .val (.int ((200 : Int32) + ((pI1 &&& (2147483647 : Int32)) % (100 : Int32)))), .val (.int (0 : Int32)), .val (.ref bR4_3), .unset]) rfl ?_
    refine XS.iloadN X4.here hx rfl (hb hby at_40) rfl ?_
    show oS p e below T4 m 41 #[.val (.int pI1), .val (.int pI2), .val (.int pI3), .val (.int ((200 : Int32) + ((pI1 &&& (2147483647 : Int32)) % (100 : Int32)))), .val (.int (0 : Int32)), .val (.ref bR4_3), .unset] [(.int ((200 : Int32) + ((pI1 &&& (2147483647 : Int32)) % (100 : Int32))))] _
    refine XS.aload X4.here hx rfl (hb hby at_41) rfl rfl ?_
    refine st9 _ ?_
    refine XS.astore X9.here hx rfl (hb hby at_46) rfl rfl (l' := #[.val (.int pI1), .val (.int pI2), .val (.int pI3), .val (.int ((200 : Int32) + ((pI1 &&& (2147483647 : Int32)) % (100 : Int32)))), .val (.int (0 : Int32)), .val (.ref bR4_3), .val (.ref bR9_3)]) rfl ?_
    refine XS.aload X9.here hx rfl (hb hby at_48) rfl rfl ?_
    show oS p e below T9 m 50 #[.val (.int pI1), .val (.int pI2), .val (.int pI3), .val (.int ((200 : Int32) + ((pI1 &&& (2147483647 : Int32)) % (100 : Int32)))), .val (.int (0 : Int32)), .val (.ref bR4_3), .val (.ref bR9_3)] [(.ref bR9_3)] _
    refine XS.ifnonnullYes X9.here hx rfl (pc0 := 50) (pc' := 55) rfl (hb hby at_50) rfl (by decide) (by decide) ?_
    refine XS.aload X9.here hx rfl (hb hby at_55) rfl rfl ?_
    refine st12.trans ?_
    refine XS.aload X12.here hx rfl (hb hby at_60) rfl rfl ?_
    show oS p e below T12 m 62 #[.val (.int pI1), .val (.int pI2), .val (.int pI3), .val (.int ((200 : Int32) + ((pI1 &&& (2147483647 : Int32)) % (100 : Int32)))), .val (.int (0 : Int32)), .val (.ref bR4_3), .val (.ref bR9_3)] [(.ref bR4_3), (.ref bR4_3)] _
    refine Jvm.RoadKit.acmp (g := (mkF m 62 #[.val (.int pI1), .val (.int pI2), .val (.int pI3), .val (.int ((200 : Int32) + ((pI1 &&& (2147483647 : Int32)) % (100 : Int32)))), .val (.int (0 : Int32)), .val (.ref bR4_3), .val (.ref bR9_3)] [(.ref bR4_3), (.ref bR4_3)])) X12 hx rfl rfl rfl (pc0 := 62) (pc' := 67) (same := true) rfl (hb hby at_62) rfl (decide_eq_true rfl) (by decide) (by decide) ?_
    refine XS.aload X12.here hx rfl (hb hby at_67) rfl rfl ?_
    refine st13.trans ?_
    refine XS.iloadN X13.here hx rfl (hb hby at_72) rfl ?_
    show oS p e below T13 m 73 #[.val (.int pI1), .val (.int pI2), .val (.int pI3), .val (.int ((200 : Int32) + ((pI1 &&& (2147483647 : Int32)) % (100 : Int32)))), .val (.int (0 : Int32)), .val (.ref bR4_3), .val (.ref bR9_3)] [(.int ((200 : Int32) + ((pI1 &&& (2147483647 : Int32)) % (100 : Int32)))), (.int ((200 : Int32) + ((pI1 &&& (2147483647 : Int32)) % (100 : Int32))))] _
    refine XS.icmpYes X13.here hx rfl (pc0 := 73) (pc' := 78) rfl (hb hby at_73) rfl (teq (rfl : ((200 : Int32) + ((pI1 &&& (2147483647 : Int32)) % (100 : Int32))) = ((200 : Int32) + ((pI1 &&& (2147483647 : Int32)) % (100 : Int32))))).1 (by decide) (by decide) ?_
    refine XS.aload X13.here hx rfl (hb hby at_78) rfl rfl ?_
    refine st14.trans ?_
    refine XS.ifYes X14.here hx rfl (pc0 := 83) (pc' := 88) rfl (hb hby at_83) rfl ((if0 _ _).trans (feq (by decide : ¬ ((1 : Int32) = (0 : Int32)))).2) (by decide) (by decide) ?_
    show oS p e below T14 m 88 #[.val (.int pI1), .val (.int pI2), .val (.int pI3), .val (.int ((200 : Int32) + ((pI1 &&& (2147483647 : Int32)) % (100 : Int32)))), .val (.int (0 : Int32)), .val (.ref bR4_3), .val (.ref bR9_3)] [] _
    refine XS.aload X14.here hx rfl (hb hby at_88) rfl rfl ?_
    refine st15.trans ?_
    refine XS.ifnonnullYes X15.here hx rfl (pc0 := 93) (pc' := 98) rfl (hb hby at_93) rfl (by decide) (by decide) ?_
    refine XS.aload X15.here hx rfl (hb hby at_98) rfl rfl ?_
    show oS p e below T15 m 100 #[.val (.int pI1), .val (.int pI2), .val (.int pI3), .val (.int ((200 : Int32) + ((pI1 &&& (2147483647 : Int32)) % (100 : Int32)))), .val (.int (0 : Int32)), .val (.ref bR4_3), .val (.ref bR9_3)] [(.ref bR9_3)] _
    refine st16.trans ?_
    refine st23.trans ?_
    refine XS.ifNo X23.here hx rfl (hb hby at_108) rfl ((if0 _ _).trans (teq (by decide : (0 : Int32) = (0 : Int32))).2) ?_
    refine XS.iconst X23.here hx rfl (hb hby at_111) ?_
    show oS p e below T23 m 112 #[.val (.int pI1), .val (.int pI2), .val (.int pI3), .val (.int ((200 : Int32) + ((pI1 &&& (2147483647 : Int32)) % (100 : Int32)))), .val (.int (0 : Int32)), .val (.ref bR4_3), .val (.ref bR9_3)] [(.int (1 : Int32))] _
    refine XS.goto X23.here hx rfl (pc0 := 112) (pc' := 116) rfl (hb hby at_112) (by decide) (by decide) ?_
    exact retN X23 hx (t := .boolean) Bd.returns (by simp) (hb hby at_116) hr
  · show QlawH Z pI1 pI2 pI3 pR7 pR17 pK20 h0 n0 _ T23.heap _
    rw [e23]
    exact ⟨rfl, N23⟩
theorem ef_lawC (m : MethodId) (pI1 : Int32) (pI2 : Int32) (pI3 : Int32) : entryFrame m #[(.int pI1), (.int pI2), (.int pI3)] maxLocals = mkF m 0 #[.val (.int pI1), .val (.int pI2), .val (.int pI3), .unset, .unset, .unset, .unset] [] := by first | (simp [entryFrame, mkF, argsToLocals, Value.category, maxLocals]; done) | rfl
def QlawC (Z : State) (pI1 : Int32) (pI2 : Int32) (pI3 : Int32) (pR4 : Addr) (pC5 : Cell) (pR6 : Addr) (pR8 : Addr) (pR17 : Addr) (pK19 : ClassId) (h0 : Heap) (n0 : Nat) (v : Option Value) (h : Heap) (L : List Loc) : Prop := v = some (.int (1 : Int32)) ∧ Fr n0 L
set_option maxRecDepth 65536 in
set_option maxHeartbeats 40000000 in
theorem lawC (l : Launch) (Z : State) (a0 : Array Value) (hw : ∀ d ∈ tables_1, d.before a0 Z = true) (ws : List Jvm.Cond) (pI1 : Int32) (pI2 : Int32) (pI3 : Int32) (pR4 : Addr) (pC5 : Cell) (pR6 : Addr) (pR8 : Addr) (pR17 : Addr) (pK19 : ClassId) (h0 : Heap) (n0 : Nat) (Z0 : n0 ≤ h0.size) (S_Integer_IntegerCache_high : Sta Z h0 "java/lang/Integer$IntegerCache" "high" "I" (.int (127 : Int32))) (S_Integer_IntegerCache_cache : Sta Z h0 "java/lang/Integer$IntegerCache" "cache" "[Ljava/lang/Integer;" (.ref pR4)) (Ar_pR4 : Arr Z h0 pR4 pC5 (.object "java/lang/Integer")) (hat_pC5_3 : pC5.slots[((pI2 + (128 : Int32))).toNatClampNeg]? = some (.ref pR6)) (S_ImmutableCollections_EMPTY_LIST : Sta Z h0 "java/util/ImmutableCollections" "EMPTY_LIST" "Ljava/util/ImmutableCollections$ListN;" (.ref pR8)) (F_elements_pR8 : Fld Z h0 pR8 "java/util/ImmutableCollections$ListN" "elements" "[Ljava/lang/Object;" (.ref pR17)) (V_pR17 : Arv Z h0 pR17 pK19 (.object "java/lang/Object") (0 : Int32) [] .null) (E_pR8 : Exa Z h0 pR8 "java/util/ImmutableCollections$ListN") (hc15 : (pI3 &&& (1 : Int32)) = (0 : Int32)) (hc35 : ¬ (pI2 < (-128 : Int32))) (hc35' : ¬ ((127 : Int32) < pI2)) (hc35'' : ¬ ((pI2 + (128 : Int32)) < 0 ∨ pC5.slots.size ≤ ((pI2 + (128 : Int32))).toNatClampNeg)) (hc43 : ¬ (((200 : Int32) + ((pI1 &&& (2147483647 : Int32)) % (100 : Int32))) < (200 : Int32))) (hc43' : ¬ ((299 : Int32) < ((200 : Int32) + ((pI1 &&& (2147483647 : Int32)) % (100 : Int32))))) :
    MetFree l x (head1 (Jvm.Cond.code x code maxLocals ret :: ws) room_1) (fun a U => a = #[(.int pI1), (.int pI2), (.int pI3)] ∧ Z.Warmed39 U.vm ∧ U.heap = h0) (fun _ _ _ _ _ => True) (fun _ U o U' => ∃ v L, o = .returned v ∧ QlawC Z pI1 pI2 pI3 pR4 pC5 pR6 pR8 pR17 pK19 h0 n0 v U'.heap L ∧ FrameEnd U o U' L room_1.cells room_1.slots) := by
  refine MetFree.of_bodySF (plainFor_of_name pn_5) hisR ?_
  intro p e s m args below meth c s₁ Bd hml0 hP hK
  obtain ⟨rfl, hZ, hh⟩ := hP
  have hx := Bd.exec
  have hby := Bd.bytes
  have hml : c.maxLocals = 7 := hml0
  have hown : s.vm.findClass "com/example/willenhall/willenhall/api/ResponseEnvelopeSuccessPinLaw" = some m.cls := findClass_of_methodNamed Bd.named
  have hnm := (name_of_methodNamed Bd.named Bd.method).1
  have X0 : Stand p l e room_1 s m #[(.int pI1), (.int pI2), (.int pI3)] below meth c s₁ [] 0 0 := Stand.of_body Bd
  have e0 : s₁.heap = h0 := by rw [← hh, Bd.state]; rfl
  have N0 := Fr.nil n0
  have pre0 : ∀ t, Steps p.tables e below (s₁.setTop (mkF m 0 #[.val (.int pI1), .val (.int pI2), .val (.int pI3), .unset, .unset, .unset, .unset] [])) t → Steps p.tables e below (s₁.setTop (entryFrame m #[(.int pI1), (.int pI2), (.int pI3)] maxLocals)) t := fun t k => castTop (ef_lawC m pI1 pI2 pI3) k
  obtain ⟨_, _, ⟨T7, L7, k7, n7⟩, -, X7, ⟨Lc7, hQ7, l7, y7, z7⟩, st7⟩ := Jvm.LawKit.callS X0 hx (y := yN2) hown (mvT hZ (ow hw 1 rfl)) (mvT hZ (ow hw 2 rfl)) (mvT hZ (ow hw 3 rfl)) (mvT hZ (ow hw 4 rfl)) (by decide) (backOf (W := 0) (voC l Z a0 hw [] pI2 pR4 pC5 pR6 h0 n0 Z0 S_Integer_IntegerCache_high S_Integer_IntegerCache_cache Ar_pR4 hat_pC5_3 hc35 hc35' hc35'') hZ (ow hw 4 rfl) (ow hw 3 rfl) (by decide) (by decide)) (g := (mkF m 35 #[.val (.int pI1), .val (.int pI2), .val (.int pI3), .val (.int ((200 : Int32) + ((pI1 &&& (2147483647 : Int32)) % (100 : Int32)))), .val (.int (0 : Int32)), .unset, .unset] [(.int pI2)])) rfl (by rw [hml]; rfl) (argsL := [(.int pI2)]) (rest := []) (lenOf pd_8 rfl) rfl (by show 2 * 0 + _ ≤ _; exact Nat.le_of_eq rfl) (hb hby at_35) (fun _ _ => ⟨rfl, e0, (by decide : 0 + 0 ≤ _), (by decide : 0 + 0 ≤ _)⟩)
  dsimp only [Pt.U, Pt.locs, Pt.cells, Pt.slots] at X7 l7 y7 z7 st7 hQ7
  subst l7 y7 z7
  obtain ⟨rfl, Nq7, e7⟩ := hQ7
  have N7 := Fr.app N0 Nq7
  obtain ⟨_, _, ⟨T9, L9, k9, n9⟩, -, X9, ⟨Lc9, hQ9, l9, y9, z9⟩, st9⟩ := Jvm.LawKit.callS X7 hx (y := yN5) hown (mvT hZ (ow hw 8 rfl)) (mvT hZ (ow hw 9 rfl)) (mvT hZ (ow hw 10 rfl)) (mvT hZ (ow hw 11 rfl)) (by decide) (backOf (W := 0) (suR l Z a0 hw [] ((200 : Int32) + ((pI1 &&& (2147483647 : Int32)) % (100 : Int32))) pR6 pR8 h0 n0 Z0 S_ImmutableCollections_EMPTY_LIST hc43 hc43') hZ (ow hw 11 rfl) (ow hw 10 rfl) (by decide) (by decide)) (g := (mkF m 43 #[.val (.int pI1), .val (.int pI2), .val (.int pI3), .val (.int ((200 : Int32) + ((pI1 &&& (2147483647 : Int32)) % (100 : Int32)))), .val (.int (0 : Int32)), .val (.ref pR6), .unset] [(.ref pR6), (.int ((200 : Int32) + ((pI1 &&& (2147483647 : Int32)) % (100 : Int32))))])) rfl (by rw [hml]; rfl) (argsL := [(.int ((200 : Int32) + ((pI1 &&& (2147483647 : Int32)) % (100 : Int32)))), (.ref pR6)]) (rest := []) (lenOf pd_4 rfl) rfl (by show 2 * 0 + _ ≤ _; exact Nat.le_of_eq rfl) (hb hby at_43) (fun _ _ => ⟨rfl, e7, (by decide : 0 + 1 ≤ _), (by decide : 0 + 4 ≤ _)⟩)
  dsimp only [Pt.U, Pt.locs, Pt.cells, Pt.slots] at X9 l9 y9 z9 st9 hQ9
  subst l9 y9 z9
  obtain ⟨bR9_3, rfl, Nq9, Kq9, sz9_3, x9_0, x9_1, x9_2, x9_3, x9_4⟩ := hQ9
  have N9 := Fr.app N7 Nq9
  obtain ⟨Lh9, X9, N9⟩ := own_hide X9 N9
  have Z11 : n0 ≤ T9.heap.size := (Nat.le_trans Z0 Kq9.1)
  obtain ⟨cq12, kq12, q12a, q12b, q12c⟩ := isOf hZ rfl x9_0
  obtain ⟨_, _, ⟨T12, L12, k12, n12⟩, -, X12, ⟨Lc12, hQ12, l12, y12, z12⟩, st12⟩ := X9.virtualBack hx (y := yN6) (z := yN6) hown (mvT hZ (ow hw 34 rfl)) (mvT hZ (ow hw 35 rfl)) (notFace_of_selects (args := #[]) (mvT hZ (ow hw 37 rfl))) (mvT hZ (ow hw 37 rfl)) (mvT hZ (ow hw 36 rfl)) (by decide) (backOf (W := 0) (grR l Z a0 hw [] bR9_3 pR6 T9.heap n0 Z11 x9_1) hZ (ow hw 38 rfl) (ow hw 10 rfl) (by decide) (by decide)) q12a q12c (g := (mkF m 57 #[.val (.int pI1), .val (.int pI2), .val (.int pI3), .val (.int ((200 : Int32) + ((pI1 &&& (2147483647 : Int32)) % (100 : Int32)))), .val (.int (0 : Int32)), .val (.ref pR6), .val (.ref bR9_3)] [(.ref bR9_3)])) rfl (by rw [hml]; rfl) (Steps.refl _) (argsL := []) (rest := []) (lenOf pd_5 rfl) rfl (by show 2 * 0 + _ ≤ _; exact Nat.le_of_eq rfl) (hb hby at_57) (fun _ _ => ⟨rfl, rfl, (by decide : 1 + 0 ≤ _), (by decide : 4 + 0 ≤ _)⟩)
  dsimp only [Pt.U, Pt.locs, Pt.cells, Pt.slots] at X12 l12 y12 z12 st12 hQ12
  subst l12 y12 z12
  obtain ⟨rfl, Nq12, e12⟩ := hQ12
  have N12 := Fr.app N9 Nq12
  obtain ⟨cq13, kq13, q13a, q13b, q13c⟩ := isOf hZ e12 x9_0
  obtain ⟨_, _, ⟨T13, L13, k13, n13⟩, -, X13, ⟨Lc13, hQ13, l13, y13, z13⟩, st13⟩ := X12.virtualBack hx (y := yN7) (z := yN7) hown (mvT hZ (ow hw 39 rfl)) (mvT hZ (ow hw 40 rfl)) (notFace_of_selects (args := #[]) (mvT hZ (ow hw 42 rfl))) (mvT hZ (ow hw 42 rfl)) (mvT hZ (ow hw 41 rfl)) (by decide) (backOf (W := 0) (gsc l Z a0 hw [] bR9_3 ((200 : Int32) + ((pI1 &&& (2147483647 : Int32)) % (100 : Int32))) T9.heap n0 Z11 x9_3) hZ (ow hw 43 rfl) (ow hw 10 rfl) (by decide) (by decide)) q13a q13c (g := (mkF m 69 #[.val (.int pI1), .val (.int pI2), .val (.int pI3), .val (.int ((200 : Int32) + ((pI1 &&& (2147483647 : Int32)) % (100 : Int32)))), .val (.int (0 : Int32)), .val (.ref pR6), .val (.ref bR9_3)] [(.ref bR9_3)])) rfl (by rw [hml]; rfl) (Steps.refl _) (argsL := []) (rest := []) (lenOf pd_6 rfl) rfl (by show 2 * 0 + _ ≤ _; exact Nat.le_of_eq rfl) (hb hby at_69) (fun _ _ => ⟨rfl, e12, (by decide : 1 + 0 ≤ _), (by decide : 4 + 0 ≤ _)⟩)
  dsimp only [Pt.U, Pt.locs, Pt.cells, Pt.slots] at X13 l13 y13 z13 st13 hQ13
  subst l13 y13 z13
  obtain ⟨rfl, Nq13, e13⟩ := hQ13
  have N13 := Fr.app N12 Nq13
  obtain ⟨cq14, kq14, q14a, q14b, q14c⟩ := isOf hZ e13 x9_0
  obtain ⟨_, _, ⟨T14, L14, k14, n14⟩, -, X14, ⟨Lc14, hQ14, l14, y14, z14⟩, st14⟩ := X13.virtualBack hx (y := yN8) (z := yN8) hown (mvT hZ (ow hw 44 rfl)) (mvT hZ (ow hw 45 rfl)) (notFace_of_selects (args := #[]) (mvT hZ (ow hw 47 rfl))) (mvT hZ (ow hw 47 rfl)) (mvT hZ (ow hw 46 rfl)) (by decide) (backOf (W := 0) (isS l Z a0 hw [] bR9_3 T9.heap n0 Z11 x9_4) hZ (ow hw 48 rfl) (ow hw 10 rfl) (by decide) (by decide)) q14a q14c (g := (mkF m 80 #[.val (.int pI1), .val (.int pI2), .val (.int pI3), .val (.int ((200 : Int32) + ((pI1 &&& (2147483647 : Int32)) % (100 : Int32)))), .val (.int (0 : Int32)), .val (.ref pR6), .val (.ref bR9_3)] [(.ref bR9_3)])) rfl (by rw [hml]; rfl) (Steps.refl _) (argsL := []) (rest := []) (lenOf pd_7 rfl) rfl (by show 2 * 0 + _ ≤ _; exact Nat.le_of_eq rfl) (hb hby at_80) (fun _ _ => ⟨rfl, e13, (by decide : 1 + 0 ≤ _), (by decide : 4 + 0 ≤ _)⟩)
  dsimp only [Pt.U, Pt.locs, Pt.cells, Pt.slots] at X14 l14 y14 z14 st14 hQ14
  subst l14 y14 z14
  obtain ⟨rfl, Nq14, e14⟩ := hQ14
  have N14 := Fr.app N13 Nq14
  obtain ⟨cq15, kq15, q15a, q15b, q15c⟩ := isOf hZ e14 x9_0
  obtain ⟨_, _, ⟨T15, L15, k15, n15⟩, -, X15, ⟨Lc15, hQ15, l15, y15, z15⟩, st15⟩ := X14.virtualBack hx (y := yN9) (z := yN9) hown (mvT hZ (ow hw 49 rfl)) (mvT hZ (ow hw 50 rfl)) (notFace_of_selects (args := #[]) (mvT hZ (ow hw 52 rfl))) (mvT hZ (ow hw 52 rfl)) (mvT hZ (ow hw 51 rfl)) (by decide) (backOf (W := 0) (gem l Z a0 hw [] bR9_3 pR8 T9.heap n0 Z11 x9_2) hZ (ow hw 53 rfl) (ow hw 10 rfl) (by decide) (by decide)) q15a q15c (g := (mkF m 90 #[.val (.int pI1), .val (.int pI2), .val (.int pI3), .val (.int ((200 : Int32) + ((pI1 &&& (2147483647 : Int32)) % (100 : Int32)))), .val (.int (0 : Int32)), .val (.ref pR6), .val (.ref bR9_3)] [(.ref bR9_3)])) rfl (by rw [hml]; rfl) (Steps.refl _) (argsL := []) (rest := []) (lenOf pd_2 rfl) rfl (by show 2 * 0 + _ ≤ _; exact Nat.le_of_eq rfl) (hb hby at_90) (fun _ _ => ⟨rfl, e14, (by decide : 1 + 0 ≤ _), (by decide : 4 + 0 ≤ _)⟩)
  dsimp only [Pt.U, Pt.locs, Pt.cells, Pt.slots] at X15 l15 y15 z15 st15 hQ15
  subst l15 y15 z15
  obtain ⟨rfl, Nq15, e15⟩ := hQ15
  have N15 := Fr.app N14 Nq15
  obtain ⟨cq16, kq16, q16a, q16b, q16c⟩ := isOf hZ e15 x9_0
  obtain ⟨_, _, ⟨T16, L16, k16, n16⟩, -, X16, ⟨Lc16, hQ16, l16, y16, z16⟩, st16⟩ := X15.virtualBack hx (y := yN9) (z := yN9) hown (mvT hZ (ow hw 49 rfl)) (mvT hZ (ow hw 50 rfl)) (notFace_of_selects (args := #[]) (mvT hZ (ow hw 52 rfl))) (mvT hZ (ow hw 52 rfl)) (mvT hZ (ow hw 51 rfl)) (by decide) (backOf (W := 0) (gem l Z a0 hw [] bR9_3 pR8 T9.heap n0 Z11 x9_2) hZ (ow hw 53 rfl) (ow hw 10 rfl) (by decide) (by decide)) q16a q16c (g := (mkF m 100 #[.val (.int pI1), .val (.int pI2), .val (.int pI3), .val (.int ((200 : Int32) + ((pI1 &&& (2147483647 : Int32)) % (100 : Int32)))), .val (.int (0 : Int32)), .val (.ref pR6), .val (.ref bR9_3)] [(.ref bR9_3)])) rfl (by rw [hml]; rfl) (Steps.refl _) (argsL := []) (rest := []) (lenOf pd_2 rfl) rfl (by show 2 * 0 + _ ≤ _; exact Nat.le_of_eq rfl) (hb hby at_100) (fun _ _ => ⟨rfl, e15, (by decide : 1 + 0 ≤ _), (by decide : 4 + 0 ≤ _)⟩)
  dsimp only [Pt.U, Pt.locs, Pt.cells, Pt.slots] at X16 l16 y16 z16 st16 hQ16
  subst l16 y16 z16
  obtain ⟨rfl, Nq16, e16⟩ := hQ16
  have N16 := Fr.app N15 Nq16
  have c18 : Fld Z T9.heap pR8 "java/util/ImmutableCollections$ListN" "elements" "[Ljava/lang/Object;" (.ref pR17) := F_elements_pR8.keep Kq9 nin0
  have c20 : Arv Z T9.heap pR17 pK19 (.object "java/lang/Object") (0 : Int32) [] .null := V_pR17.keep Kq9 nin0
  have c22 : Exa Z T9.heap pR8 "java/util/ImmutableCollections$ListN" := E_pR8.keep Kq9
  obtain ⟨cq21, kq21, q21a, q21b, q21c⟩ := isOf hZ e16 c22
  obtain ⟨_, _, ⟨T21, L21, k21, n21⟩, -, X21, ⟨Lc21, hQ21, l21, y21, z21⟩, st21⟩ := X16.interfaceBack hx (xi := yN11) (y := yN10) hown (mvT hZ (ow hw 54 rfl)) (mvT hZ (ow hw 55 rfl)) (mvT hZ (ow hw 56 rfl)) (mvT hZ (ow hw 57 rfl)) (mvT hZ (ow hw 58 rfl)) (mvT hZ (ow hw 59 rfl)) (mvT hZ (ow hw 60 rfl)) (mvT hZ (ow hw 61 rfl)) (by decide) (backOf (W := 0) (lsz l Z a0 hw [] pR8 pR17 pK19 T9.heap n0 Z11 c18 c20) hZ (ow hw 63 rfl) (ow hw 62 rfl) (by decide) (by decide)) q21a q21b q21c (g := (mkF m 103 #[.val (.int pI1), .val (.int pI2), .val (.int pI3), .val (.int ((200 : Int32) + ((pI1 &&& (2147483647 : Int32)) % (100 : Int32)))), .val (.int (0 : Int32)), .val (.ref pR6), .val (.ref bR9_3)] [(.ref pR8)])) rfl (by rw [hml]; rfl) (Steps.refl _) (argsL := []) (rest := []) (lenOf pd_6 rfl) rfl (by show 2 * 0 + _ ≤ _; exact Nat.le_of_eq rfl) (hb hby at_103) (fun _ _ => ⟨rfl, e16, (by decide : 1 + 0 ≤ _), (by decide : 4 + 0 ≤ _)⟩)
  dsimp only [Pt.U, Pt.locs, Pt.cells, Pt.slots] at X21 l21 y21 z21 st21 hQ21
  subst l21 y21 z21
  obtain ⟨rfl, Nq21, e21⟩ := hQ21
  have N21 := Fr.app N16 Nq21
  obtain ⟨fs, hr, hrun, hended, hW, hsame⟩ := X21.leave (v := some (.int (1 : Int32))) (fun h => by rw [Bd.returns] at h; cases h)
  refine ⟨_, _, pre0 _ ?_, hrun, hended, _, _, rfl, ?_, ⟨_, rfl⟩, hW, hsame.mono (by decide) (by decide)⟩
  · show oS p e below s₁ m 0 #[.val (.int pI1), .val (.int pI2), .val (.int pI3), .unset, .unset, .unset, .unset] [] _
    refine XS.sipush X0.here hx rfl (hb hby at_0) ?_
    refine XS.iloadN X0.here hx rfl (hb hby at_3) rfl ?_
    refine X0.ldcInt hx hown (mvT hZ (ow hw 0 rfl)) (g := (mkF m 4 #[.val (.int pI1), .val (.int pI2), .val (.int pI3), .unset, .unset, .unset, .unset] [(.int pI1), (.int (200 : Int32))])) rfl (hb hby at_4) _ ?_
    refine XS.iand X0.here hx rfl (hb hby at_6) rfl ?_
    show oS p e below s₁ m 7 #[.val (.int pI1), .val (.int pI2), .val (.int pI3), .unset, .unset, .unset, .unset] [(.int (pI1 &&& (2147483647 : Int32))), (.int (200 : Int32))] _
    refine XS.bipush X0.here hx rfl (hb hby at_7) ?_
    show Steps p.tables e below (s₁.setTop (mkF m 9 #[.val (.int pI1), .val (.int pI2), .val (.int pI3), .unset, .unset, .unset, .unset] [(.int (100 : Int32)), (.int (pI1 &&& (2147483647 : Int32))), (.int (200 : Int32))])) _
    refine iremM (g := (mkF m 9 #[.val (.int pI1), .val (.int pI2), .val (.int pI3), .unset, .unset, .unset, .unset] [(.int (100 : Int32)), (.int (pI1 &&& (2147483647 : Int32))), (.int (200 : Int32))])) X0 hx rfl (hb hby at_9) rfl (by decide) ?_
    refine XS.iadd X0.here hx rfl (hb hby at_10) rfl ?_
    refine XS.istoreN X0.here hx rfl (hb hby at_11) rfl (l' := #[.val (.int pI1), .val (.int pI2), .val (.int pI3), .val (.int ((200 : Int32) + ((pI1 &&& (2147483647 : Int32)) % (100 : Int32)))), .unset, .unset, .unset]) rfl ?_
    show oS p e below s₁ m 12 #[.val (.int pI1), .val (.int pI2), .val (.int pI3), .val (.int ((200 : Int32) + ((pI1 &&& (2147483647 : Int32)) % (100 : Int32)))), .unset, .unset, .unset] [] _
    refine XS.iloadN X0.here hx rfl (hb hby at_12) rfl ?_
    refine XS.iconst X0.here hx rfl (hb hby at_13) ?_
    refine XS.iand X0.here hx rfl (hb hby at_14) rfl ?_
    refine XS.ifYes X0.here hx rfl (pc0 := 15) (pc' := 22) rfl (hb hby at_15) rfl ((if0 _ _).trans (teq hc15).1) (by decide) (by decide) ?_
    show oS p e below s₁ m 22 #[.val (.int pI1), .val (.int pI2), .val (.int pI3), .val (.int ((200 : Int32) + ((pI1 &&& (2147483647 : Int32)) % (100 : Int32)))), .unset, .unset, .unset] [] _
    refine XS.iconst X0.here hx rfl (hb hby at_22) ?_
    refine XS.istore X0.here hx rfl (hb hby at_23) rfl (l' := #[.val (.int pI1), .val (.int pI2), .val (.int pI3), .val (.int ((200 : Int32) + ((pI1 &&& (2147483647 : Int32)) % (100 : Int32)))), .val (.int (0 : Int32)), .unset, .unset]) rfl ?_
    refine XS.iload X0.here hx rfl (hb hby at_25) rfl ?_
    refine XS.ifYes X0.here hx rfl (pc0 := 27) (pc' := 34) rfl (hb hby at_27) rfl ((if0 _ _).trans (teq (by decide : (0 : Int32) = (0 : Int32))).1) (by decide) (by decide) ?_
    show oS p e below s₁ m 34 #[.val (.int pI1), .val (.int pI2), .val (.int pI3), .val (.int ((200 : Int32) + ((pI1 &&& (2147483647 : Int32)) % (100 : Int32)))), .val (.int (0 : Int32)), .unset, .unset] [] _
    refine XS.iloadN X0.here hx rfl (hb hby at_34) rfl ?_
    refine st7 _ ?_
    refine XS.astore X7.here hx rfl (hb hby at_38) rfl rfl (l' := #[.val (.int pI1), .val (.int pI2), .val (.int pI3), .val (.int ((200 : Int32) + ((pI1 &&& (2147483647 : Int32)) % (100 : Int32)))), .val (.int (0 : Int32)), .val (.ref pR6), .unset]) rfl ?_
    refine XS.iloadN X7.here hx rfl (hb hby at_40) rfl ?_
    show oS p e below T7 m 41 #[.val (.int pI1), .val (.int pI2), .val (.int pI3), .val (.int ((200 : Int32) + ((pI1 &&& (2147483647 : Int32)) % (100 : Int32)))), .val (.int (0 : Int32)), .val (.ref pR6), .unset] [(.int ((200 : Int32) + ((pI1 &&& (2147483647 : Int32)) % (100 : Int32))))] _
    refine XS.aload X7.here hx rfl (hb hby at_41) rfl rfl ?_
    refine st9 _ ?_
    refine XS.astore X9.here hx rfl (hb hby at_46) rfl rfl (l' := #[.val (.int pI1), .val (.int pI2), .val (.int pI3), .val (.int ((200 : Int32) + ((pI1 &&& (2147483647 : Int32)) % (100 : Int32)))), .val (.int (0 : Int32)), .val (.ref pR6), .val (.ref bR9_3)]) rfl ?_
    refine XS.aload X9.here hx rfl (hb hby at_48) rfl rfl ?_
    show oS p e below T9 m 50 #[.val (.int pI1), .val (.int pI2), .val (.int pI3), .val (.int ((200 : Int32) + ((pI1 &&& (2147483647 : Int32)) % (100 : Int32)))), .val (.int (0 : Int32)), .val (.ref pR6), .val (.ref bR9_3)] [(.ref bR9_3)] _
    refine XS.ifnonnullYes X9.here hx rfl (pc0 := 50) (pc' := 55) rfl (hb hby at_50) rfl (by decide) (by decide) ?_
    refine XS.aload X9.here hx rfl (hb hby at_55) rfl rfl ?_
    refine st12.trans ?_
    refine XS.aload X12.here hx rfl (hb hby at_60) rfl rfl ?_
    show oS p e below T12 m 62 #[.val (.int pI1), .val (.int pI2), .val (.int pI3), .val (.int ((200 : Int32) + ((pI1 &&& (2147483647 : Int32)) % (100 : Int32)))), .val (.int (0 : Int32)), .val (.ref pR6), .val (.ref bR9_3)] [(.ref pR6), (.ref pR6)] _
    refine Jvm.RoadKit.acmp (g := (mkF m 62 #[.val (.int pI1), .val (.int pI2), .val (.int pI3), .val (.int ((200 : Int32) + ((pI1 &&& (2147483647 : Int32)) % (100 : Int32)))), .val (.int (0 : Int32)), .val (.ref pR6), .val (.ref bR9_3)] [(.ref pR6), (.ref pR6)])) X12 hx rfl rfl rfl (pc0 := 62) (pc' := 67) (same := true) rfl (hb hby at_62) rfl (decide_eq_true rfl) (by decide) (by decide) ?_
    refine XS.aload X12.here hx rfl (hb hby at_67) rfl rfl ?_
    refine st13.trans ?_
    refine XS.iloadN X13.here hx rfl (hb hby at_72) rfl ?_
    show oS p e below T13 m 73 #[.val (.int pI1), .val (.int pI2), .val (.int pI3), .val (.int ((200 : Int32) + ((pI1 &&& (2147483647 : Int32)) % (100 : Int32)))), .val (.int (0 : Int32)), .val (.ref pR6), .val (.ref bR9_3)] [(.int ((200 : Int32) + ((pI1 &&& (2147483647 : Int32)) % (100 : Int32)))), (.int ((200 : Int32) + ((pI1 &&& (2147483647 : Int32)) % (100 : Int32))))] _
    refine XS.icmpYes X13.here hx rfl (pc0 := 73) (pc' := 78) rfl (hb hby at_73) rfl (teq (rfl : ((200 : Int32) + ((pI1 &&& (2147483647 : Int32)) % (100 : Int32))) = ((200 : Int32) + ((pI1 &&& (2147483647 : Int32)) % (100 : Int32))))).1 (by decide) (by decide) ?_
    refine XS.aload X13.here hx rfl (hb hby at_78) rfl rfl ?_
    refine st14.trans ?_
    refine XS.ifYes X14.here hx rfl (pc0 := 83) (pc' := 88) rfl (hb hby at_83) rfl ((if0 _ _).trans (feq (by decide : ¬ ((1 : Int32) = (0 : Int32)))).2) (by decide) (by decide) ?_
    show oS p e below T14 m 88 #[.val (.int pI1), .val (.int pI2), .val (.int pI3), .val (.int ((200 : Int32) + ((pI1 &&& (2147483647 : Int32)) % (100 : Int32)))), .val (.int (0 : Int32)), .val (.ref pR6), .val (.ref bR9_3)] [] _
    refine XS.aload X14.here hx rfl (hb hby at_88) rfl rfl ?_
    refine st15.trans ?_
    refine XS.ifnonnullYes X15.here hx rfl (pc0 := 93) (pc' := 98) rfl (hb hby at_93) rfl (by decide) (by decide) ?_
    refine XS.aload X15.here hx rfl (hb hby at_98) rfl rfl ?_
    show oS p e below T15 m 100 #[.val (.int pI1), .val (.int pI2), .val (.int pI3), .val (.int ((200 : Int32) + ((pI1 &&& (2147483647 : Int32)) % (100 : Int32)))), .val (.int (0 : Int32)), .val (.ref pR6), .val (.ref bR9_3)] [(.ref bR9_3)] _
    refine st16.trans ?_
    refine st21.trans ?_
    refine XS.ifNo X21.here hx rfl (hb hby at_108) rfl ((if0 _ _).trans (teq (by decide : (0 : Int32) = (0 : Int32))).2) ?_
    refine XS.iconst X21.here hx rfl (hb hby at_111) ?_
    show oS p e below T21 m 112 #[.val (.int pI1), .val (.int pI2), .val (.int pI3), .val (.int ((200 : Int32) + ((pI1 &&& (2147483647 : Int32)) % (100 : Int32)))), .val (.int (0 : Int32)), .val (.ref pR6), .val (.ref bR9_3)] [(.int (1 : Int32))] _
    refine XS.goto X21.here hx rfl (pc0 := 112) (pc' := 116) rfl (hb hby at_112) (by decide) (by decide) ?_
    exact retN X21 hx (t := .boolean) Bd.returns (by simp) (hb hby at_116) hr
  · show QlawC Z pI1 pI2 pI3 pR4 pC5 pR6 pR8 pR17 pK19 h0 n0 _ T21.heap _
    rw [e21]
    exact ⟨rfl, N21⟩
set_option maxRecDepth 65536 in
set_option maxHeartbeats 40000000 in
theorem comes_1 {Post : Tables → Env → Array Value → State → Outcome → State → Prop} (hpost : ∀ tb e args s v u, (limb_1_1.after args s (.returned v) u = true ∧ limb_1_2.after args s (.returned v) u = true ∧ True) → FrameEnd s (.returned v) u (Jvm.fieldLocs frame_1_writes args s ++ Jvm.arrayLocs frame_1_arrays args s ++ Jvm.staticLocs frame_1_statics s) 16 128 → Post tb e args s (.returned v) u) :
    ArmFor flags0 classFile x code maxLocals ret World_1 tables_1 room_1 Calls_1 rest_1 Pre_1 Post := by
  intro l hfl _ _ p e ha hc hk s m args below hf hA hF happ hP
  obtain ⟨hcalls, hrest, hpre⟩ := hP
  obtain ⟨-, -, -, hnamed, -, -, -, hat⟩ := (Spec.applies_iff hf).mp happ
  obtain ⟨hg, hn⟩ := and_e (Cond.before_iff.mp (show (Jvm.Cond.and given_1 narrow_1).before args s = true from hpre))
  obtain ⟨w1, w2⟩ := and_e hg
  obtain ⟨w3, w4⟩ := and_e w2
  obtain ⟨w5, w6⟩ := and_e w4
  obtain ⟨v0, v1, v2, rfl⟩ : ∃ v0 v1 v2 : Value, args = #[v0, v1, v2] := by
    have hs : args.size = 3 := by simpa [Cond.value, given_1] using w1
    obtain ⟨L⟩ := args
    match L, hs with
    | [v0, v1, v2], _ => exact ⟨v0, v1, v2, rfl⟩
  have hw := fun d (hd : d ∈ tables_1) => atoms_spec (ws := Jvm.Cond.code x code maxLocals ret :: tables_1) hat d (List.mem_cons_of_mem _ hd)
  have hfit : Fit s := fun {y c} hc i hi => by
    obtain ⟨ha, rfl⟩ := Array.getElem?_eq_some_iff.mp hc
    have q := List.all_eq_true.mp ((Array.all_eq_true_iff_forall_mem.mp hF) _ (Array.getElem_mem ha)) i (List.mem_range.mpr hi)
    simpa [Array.getElem?_eq_getElem hi] using q
  obtain ⟨hsets, hown0⟩ := atoms_of _ (rest_1_c_eq ▸ (show rest_1_c.before _ s = true from hrest))
  obtain ⟨i0, ei0⟩ := is_v w3
  obtain rfl : v0 = (.int i0) := Option.some.inj ei0
  obtain ⟨i1, ei1⟩ := is_v w5
  obtain rfl : v1 = (.int i1) := Option.some.inj ei1
  obtain ⟨i2, ei2⟩ := is_v w6
  obtain rfl : v2 = (.int i2) := Option.some.inj ei2
  have ev7 := Cond.eq_int (Cond.before_iff.mpr (Cond.before_iff.mp (hsets _ (List.mem_of_getElem? (i := 3) rfl)))) rfl
  have S8 : Sta s s.heap "java/lang/Integer$IntegerCache" "high" "I" (.int (127 : Int32)) := Sta.start ev7 (Or.inr ⟨(ow hw 6 rfl), hsets _ (List.mem_of_getElem? (i := 0) rfl)⟩)
  obtain ⟨bR9, ev10⟩ := exa_v (Cond.before_iff.mp (hsets _ (List.mem_of_getElem? (i := 10) rfl)))
  have S11 : Sta s s.heap "java/util/ImmutableCollections" "EMPTY_LIST" "Ljava/util/ImmutableCollections$ListN;" (.ref bR9) := Sta.start ev10 (Or.inr ⟨(ow hw 19 rfl), hsets _ (List.mem_of_getElem? (i := 8) rfl)⟩)
  have E12 : Exa s s.heap bR9 "java/util/ImmutableCollections$ListN" := Exa.start ev10 (Cond.before_iff.mp (hsets _ (List.mem_of_getElem? (i := 10) rfl)))
  have ev13 := Cond.eq_int (Cond.before_iff.mpr (Cond.before_iff.mp (hsets _ (List.mem_of_getElem? (i := 14) rfl)))) rfl
  have F14 : Fld s s.heap bR9 "java/util/ImmutableCollections$ListN" "allowNulls" "Z" (.int (0 : Int32)) := Fld.start ((fld_at ev10).symm.trans ev13)
  obtain ⟨bR90, ev90⟩ := arr_v (Cond.before_iff.mp (hsets _ (List.mem_of_getElem? (i := 11) rfl)))
  have F15 : Fld s s.heap bR9 "java/util/ImmutableCollections$ListN" "elements" "[Ljava/lang/Object;" (.ref bR90) := Fld.start ((fld_at ev10).symm.trans ev90)
  obtain ⟨k90, V90⟩ := own_empty hfit ev90 (hsets _ (List.mem_of_getElem? (i := 11) rfl)) (hsets _ (List.mem_of_getElem? (i := 13) rfl)) .null
  obtain ⟨bR91, c91, ev91, B91⟩ := own_cache (hsets _ (List.mem_of_getElem? (i := 4) rfl)) (hsets _ (List.mem_of_getElem? (i := 6) rfl)) (hsets _ (List.mem_of_getElem? (i := 7) rfl))
  have S16 : Sta s s.heap "java/lang/Integer$IntegerCache" "cache" "[Ljava/lang/Integer;" (.ref bR91) := Sta.start ev91 (Or.inr ⟨(ow hw 6 rfl), hsets _ (List.mem_of_getElem? (i := 2) rfl)⟩)
  have hst := own_status i0
  by_cases hfl : (i2 &&& (1 : Int32)) = (0 : Int32)
  · by_cases hlo : i1 < (-128 : Int32)
    · obtain ⟨n, o, h1, h2, h3, _, L, rfl, ⟨rfl, N⟩, hq⟩ := lawL l s _ hw tables_1 i0 i1 i2 bR9 bR90 k90 s.heap s.heap.size (Nat.le_refl _) S11 F15 V90 E12 hfl hlo hst.1 hst.2 p e ha hc hk s m _ below hf ((Spec.applies_iff_loose hf).mp happ).1 ⟨rfl, State.Warmed39.refl s, rfl⟩ trivial
      exact ⟨n, _, h1, h2, h3, hpost _ _ _ _ _ _ ⟨Cond.after_iff.mpr rfl, Cond.after_iff.mpr (eq_i res_at (Term.int_eval (1)) rfl), trivial⟩ ⟨hq.1, hq.2.1, (hq.2.2.sift fun y hy => Or.inr (N y hy)).mono (by decide) (by decide)⟩⟩
    · by_cases hhi : (127 : Int32) < i1
      · obtain ⟨n, o, h1, h2, h3, _, L, rfl, ⟨rfl, N⟩, hq⟩ := lawH l s _ hw tables_1 i0 i1 i2 bR9 bR90 k90 s.heap s.heap.size (Nat.le_refl _) S8 S11 F15 V90 E12 hfl hlo hhi hst.1 hst.2 p e ha hc hk s m _ below hf ((Spec.applies_iff_loose hf).mp happ).1 ⟨rfl, State.Warmed39.refl s, rfl⟩ trivial
        exact ⟨n, _, h1, h2, h3, hpost _ _ _ _ _ _ ⟨Cond.after_iff.mpr rfl, Cond.after_iff.mpr (eq_i res_at (Term.int_eval (1)) rfl), trivial⟩ ⟨hq.1, hq.2.1, (hq.2.2.sift fun y hy => Or.inr (N y hy)).mono (by decide) (by decide)⟩⟩
      · have hin := own_cache_at B91.2.1 hlo hhi
        obtain ⟨bR92, hat92, E92, F92⟩ := B91.2.2.2 _ hin
        obtain ⟨n, o, h1, h2, h3, _, L, rfl, ⟨rfl, N⟩, hq⟩ := lawC l s _ hw tables_1 i0 i1 i2 bR91 c91 bR92 bR9 bR90 k90 s.heap s.heap.size (Nat.le_refl _) S8 S16 B91.1 hat92 S11 F15 V90 E12 hfl hlo hhi hin hst.1 hst.2 p e ha hc hk s m _ below hf ((Spec.applies_iff_loose hf).mp happ).1 ⟨rfl, State.Warmed39.refl s, rfl⟩ trivial
        exact ⟨n, _, h1, h2, h3, hpost _ _ _ _ _ _ ⟨Cond.after_iff.mpr rfl, Cond.after_iff.mpr (eq_i res_at (Term.int_eval (1)) rfl), trivial⟩ ⟨hq.1, hq.2.1, (hq.2.2.sift fun y hy => Or.inr (N y hy)).mono (by decide) (by decide)⟩⟩
  · obtain ⟨n, o, h1, h2, h3, _, L, rfl, ⟨rfl, N⟩, hq⟩ := lawN l s _ hw tables_1 i0 i1 i2 bR9 bR90 k90 s.heap s.heap.size (Nat.le_refl _) S11 F15 V90 E12 hfl hst.1 hst.2 p e ha hc hk s m _ below hf ((Spec.applies_iff_loose hf).mp happ).1 ⟨rfl, State.Warmed39.refl s, rfl⟩ trivial
    exact ⟨n, _, h1, h2, h3, hpost _ _ _ _ _ _ ⟨Cond.after_iff.mpr rfl, Cond.after_iff.mpr (eq_i res_at (Term.int_eval (1)) rfl), trivial⟩ ⟨hq.1, hq.2.1, (hq.2.2.sift fun y hy => Or.inr (N y hy)).mono (by decide) (by decide)⟩⟩
theorem main_1_1 : Claimed_1_1 := comes_1 fun _ _ _ _ _ _ h hF => ⟨h.1, hF⟩
theorem main_1_2 : Claimed_1_2 := comes_1 fun _ _ _ _ _ _ h hF => ⟨h.2.1, hF⟩
end Jvm.Pilot.@@N@@
namespace Jvm.Pilot.@@N@@
open Jvm Jvm.ClassFile Sem Op Lib Jvm.Free Jvm.Stand Jvm.Pilot.@@N@@.Jvm.D
/-! MADE BY PROGRAM (witnessworld.py) out of the Statement's table words and the real class files: 27 classes; the members and pool entries that the words name. The judged class is class 1, her method 1. -/
namespace start1
open Jvm.ClassFile
def u (s : String) : CpInfo := .utf8 (stringToUtf16 s)
/-- a pool by its gaps: so many unusable entries, then the entry; so many at the end -/
def gap : Nat → List CpInfo → List CpInfo
  | 0, r => r
  | n + 1, r => .unusable :: gap n r
def poolList (es : List (Nat × CpInfo)) (last : Nat) : List CpInfo := es.foldr (fun e r => gap e.1 (e.2 :: r)) (gap last [])
def pool (es : List (Nat × CpInfo)) (last : Nat) : Array CpInfo := ⟨poolList es last⟩
def fileOf (pool : Array CpInfo) (this : Nat) (attrs : Array Attribute := #[]) (ms : Array MethodInfo := #[]) (fl : Nat := 33) (sup : Nat := 0) (ifs : Array Nat := #[]) (fds : Array FieldInfo := #[]) : ClassFile where
  minorVersion := 0
  majorVersion := 65
  constantPool := pool
  accessFlags := fl
  thisClass := this
  superClass := sup
  interfaces := ifs
  fields := fds
  methods := ms
  attributes := attrs
def plain (name : String) (sup : Option ClassId) : Class where
  name := name
  kind := .ordinary
  loader := none
  accessFlags := 33
  super := sup
  interfaces := #[]
  cf := none
  fields := #[]
  methods := #[]
  instanceTypes := #[]
  staticTypes := #[]
  resolved := #[]
  callSites := []
  init := .initialized
  statics := none
  mirror := none

def pool0 : Array CpInfo := pool [(5, u "<init>"), (0, u "()V"), (1, .class_ 10), (1, u "java/lang/Object")] 113

def k0c0 : Code := { maxStack := 0, maxLocals := 1, code := object_method_1_code, exceptionTable := #[], attributes := #[] }
def k0m0 : Method := { name := "<init>", desc := "()V", sig := { parameters := [], returnType := none }, accessFlags := 1, code := some k0c0 }
/-- java/lang/Object -/
def k0 : Class := { plain "java/lang/Object" none with
  accessFlags := 33
  interfaces := #[]
  cf := some (fileOf pool0 8 #[] #[{ accessFlags := 1, nameIndex := 5, descriptorIndex := 6, attributes := #[] }] 33 0 #[] #[])
  fields := #[]
  methods := #[k0m0]
  instanceTypes := #[]
  staticTypes := #[]
  resolved := Array.replicate 124 none
  statics := none }

def pool1 : Array CpInfo := pool [(2, .class_ 4), (1, u "java/lang/Object"), (0, u "<init>"), (0, u "()V"), (0, .integer 2147483647), (0, .methodref 9 10), (0, .class_ 11), (0, .nameAndType 12 13), (0, u "java/lang/Integer"), (0, u "valueOf"), (0, u "(I)Ljava/lang/Integer;"), (0, .methodref 15 16), (0, .class_ 17), (0, .nameAndType 18 19), (0, u "com/example/willenhall/willenhall/api/ResponseEnvelope"), (0, u "success"), (0, u "(ILjava/lang/Object;)Lcom/example/willenhall/willenhall/api/ResponseEnvelope;"), (0, .methodref 15 21), (0, .nameAndType 22 23), (0, u "getResult"), (0, u "()Ljava/lang/Object;"), (0, .methodref 15 25), (0, .nameAndType 26 27), (0, u "getStatusCode"), (0, u "()I"), (0, .methodref 15 29), (0, .nameAndType 30 31), (0, u "isSuccess"), (0, u "()Z"), (0, .methodref 15 33), (0, .nameAndType 34 35), (0, u "getErrorMessages"), (0, u "()Ljava/util/List;"), (0, .interfaceMethodref 37 38), (0, .class_ 39), (0, .nameAndType 40 27), (0, u "java/util/List"), (0, u "size"), (0, .class_ 42), (0, u "com/example/willenhall/willenhall/api/ResponseEnvelopeSuccessPinLaw"), (2, u "law"), (0, u "(III)Z")] 3

def k1m0 : Method := { name := "<init>", desc := "()V", sig := { parameters := [], returnType := none }, accessFlags := 1, code := none }
def k1c1 : Code := { maxStack := 3, maxLocals := 7, code := code, exceptionTable := #[], attributes := #[] }
def k1m1 : Method := { name := "law", desc := "(III)Z", sig := { parameters := [.int, .int, .int], returnType := some .boolean }, accessFlags := 9, code := some k1c1 }
/-- com/example/willenhall/willenhall/api/ResponseEnvelopeSuccessPinLaw -/
def k1 : Class := { plain "com/example/willenhall/willenhall/api/ResponseEnvelopeSuccessPinLaw" (some 0) with
  accessFlags := 49
  interfaces := #[]
  cf := some (fileOf pool1 41 #[] #[{ accessFlags := 1, nameIndex := 5, descriptorIndex := 6, attributes := #[] }, { accessFlags := 9, nameIndex := 45, descriptorIndex := 46, attributes := #[] }] 49 2 #[] #[])
  fields := #[]
  methods := #[k1m0, k1m1]
  instanceTypes := #[]
  staticTypes := #[]
  resolved := Array.replicate 50 none
  statics := none }

def pool2 : Array CpInfo := pool [(1, .class_ 2), (0, u "java/io/Serializable"), (0, .class_ 4), (0, u "java/lang/Object")] 2

/-- java/io/Serializable -/
def k2 : Class := { plain "java/io/Serializable" (some 0) with
  accessFlags := 1537
  interfaces := #[]
  cf := some (fileOf pool2 1 #[] #[] 1537 3 #[] #[])
  fields := #[]
  methods := #[]
  instanceTypes := #[]
  staticTypes := #[]
  resolved := Array.replicate 7 none
  statics := none }

def pool3 : Array CpInfo := pool [(1, .methodref 2 3), (0, .class_ 4), (0, .nameAndType 5 6), (0, u "java/lang/Object"), (0, u "<init>"), (0, u "()V"), (1, .class_ 10), (1, u "java/lang/Number"), (2, .class_ 14), (0, u "java/io/Serializable"), (0, u "serialVersionUID"), (0, u "J")] 20

def k3c0 : Code := { maxStack := 1, maxLocals := 1, code := jdk_18_method_1_code, exceptionTable := #[], attributes := #[] }
def k3m0 : Method := { name := "<init>", desc := "()V", sig := { parameters := [], returnType := none }, accessFlags := 1, code := some k3c0 }
/-- java/lang/Number -/
def k3 : Class := { plain "java/lang/Number" (some 0) with
  accessFlags := 1057
  interfaces := #[2]
  cf := some (fileOf pool3 8 #[] #[{ accessFlags := 1, nameIndex := 5, descriptorIndex := 6, attributes := #[] }] 1057 2 #[13] #[{ accessFlags := 26, nameIndex := 15, descriptorIndex := 16, attributes := #[] }])
  fields := #[{ name := "serialVersionUID", type := .long, accessFlags := 26, slot := 0, constantValue := 0 }]
  methods := #[k3m0]
  instanceTypes := #[]
  staticTypes := #[.long]
  resolved := Array.replicate 37 none
  statics := none }

def pool4 : Array CpInfo := pool [(1, .class_ 2), (0, u "java/lang/Comparable"), (0, .class_ 4), (0, u "java/lang/Object")] 7

/-- java/lang/Comparable -/
def k4 : Class := { plain "java/lang/Comparable" (some 0) with
  accessFlags := 1537
  interfaces := #[]
  cf := some (fileOf pool4 1 #[] #[] 1537 3 #[] #[])
  fields := #[]
  methods := #[]
  instanceTypes := #[]
  staticTypes := #[]
  resolved := Array.replicate 12 none
  statics := none }

def pool5 : Array CpInfo := pool [(1, .class_ 2), (0, u "java/lang/constant/Constable"), (0, .class_ 4), (0, u "java/lang/Object")] 6

/-- java/lang/constant/Constable -/
def k5 : Class := { plain "java/lang/constant/Constable" (some 0) with
  accessFlags := 1537
  interfaces := #[]
  cf := some (fileOf pool5 1 #[] #[] 1537 3 #[] #[])
  fields := #[]
  methods := #[]
  instanceTypes := #[]
  staticTypes := #[]
  resolved := Array.replicate 11 none
  statics := none }

def pool6 : Array CpInfo := pool [(1, .class_ 2), (0, u "java/lang/constant/ConstantDesc"), (0, .class_ 4), (0, u "java/lang/Object")] 32

/-- java/lang/constant/ConstantDesc -/
def k6 : Class := { plain "java/lang/constant/ConstantDesc" (some 0) with
  accessFlags := 1537
  interfaces := #[]
  cf := some (fileOf pool6 1 #[] #[] 1537 3 #[] #[])
  fields := #[]
  methods := #[]
  instanceTypes := #[]
  staticTypes := #[]
  resolved := Array.replicate 37 none
  statics := none }

def pool7 : Array CpInfo := pool [(1, .class_ 2), (0, u "java/lang/Integer"), (16, u "digits"), (0, u "[C"), (46, u "<init>"), (17, u "DigitOnes"), (0, u "[B"), (2, u "DigitTens"), (10, .nameAndType 67 101), (0, u "()V"), (85, u "valueOf"), (0, u "(I)Ljava/lang/Integer;"), (0, .class_ 190), (0, u "java/lang/Integer$IntegerCache"), (0, .fieldref 189 192), (0, .nameAndType 193 194), (0, u "high"), (0, u "I"), (0, .fieldref 189 196), (0, .nameAndType 197 198), (0, u "cache"), (0, u "[Ljava/lang/Integer;"), (0, .methodref 1 200), (0, .nameAndType 67 201), (0, u "(I)V"), (0, .methodref 203 100), (0, .class_ 204), (0, u "java/lang/Number"), (0, .fieldref 1 206), (0, .nameAndType 207 194), (0, u "value"), (94, u "TYPE"), (0, u "Ljava/lang/Class;"), (0, .class_ 305), (0, u "java/lang/Comparable"), (0, .class_ 307), (0, u "java/lang/constant/Constable"), (0, .class_ 309), (0, u "java/lang/constant/ConstantDesc"), (0, u "MIN_VALUE"), (1, u "MAX_VALUE"), (3, u "SIZE"), (1, u "BYTES"), (1, u "serialVersionUID"), (0, u "J")] 131

def k7c0 : Code := { maxStack := 3, maxLocals := 1, code := jdk_33_method_22_code, exceptionTable := #[], attributes := #[] }
def k7m0 : Method := { name := "valueOf", desc := "(I)Ljava/lang/Integer;", sig := { parameters := [.int], returnType := some (.object "java/lang/Integer") }, accessFlags := 9, code := some k7c0 }
def k7c1 : Code := { maxStack := 2, maxLocals := 2, code := jdk_33_method_23_code, exceptionTable := #[], attributes := #[] }
def k7m1 : Method := { name := "<init>", desc := "(I)V", sig := { parameters := [.int], returnType := none }, accessFlags := 1, code := some k7c1 }
/-- java/lang/Integer -/
def k7 : Class := { plain "java/lang/Integer" (some 3) with
  accessFlags := 49
  interfaces := #[4, 5, 6]
  cf := some (fileOf pool7 1 #[.nestMembers #[189]] #[{ accessFlags := 9, nameIndex := 187, descriptorIndex := 188, attributes := #[] }, { accessFlags := 1, nameIndex := 67, descriptorIndex := 201, attributes := #[] }] 49 203 #[304, 306, 308] #[{ accessFlags := 25, nameIndex := 310, descriptorIndex := 194, attributes := #[] }, { accessFlags := 25, nameIndex := 312, descriptorIndex := 194, attributes := #[] }, { accessFlags := 25, nameIndex := 302, descriptorIndex := 303, attributes := #[] }, { accessFlags := 24, nameIndex := 19, descriptorIndex := 20, attributes := #[] }, { accessFlags := 24, nameIndex := 89, descriptorIndex := 86, attributes := #[] }, { accessFlags := 24, nameIndex := 85, descriptorIndex := 86, attributes := #[] }, { accessFlags := 18, nameIndex := 207, descriptorIndex := 194, attributes := #[] }, { accessFlags := 25, nameIndex := 316, descriptorIndex := 194, attributes := #[] }, { accessFlags := 25, nameIndex := 318, descriptorIndex := 194, attributes := #[] }, { accessFlags := 26, nameIndex := 320, descriptorIndex := 321, attributes := #[] }])
  fields := #[{ name := "MIN_VALUE", type := .int, accessFlags := 25, slot := 0, constantValue := 0 }, { name := "MAX_VALUE", type := .int, accessFlags := 25, slot := 1, constantValue := 0 }, { name := "TYPE", type := (.object "java/lang/Class"), accessFlags := 25, slot := 2, constantValue := 0 }, { name := "digits", type := (.array .char), accessFlags := 24, slot := 3, constantValue := 0 }, { name := "DigitTens", type := (.array .byte), accessFlags := 24, slot := 4, constantValue := 0 }, { name := "DigitOnes", type := (.array .byte), accessFlags := 24, slot := 5, constantValue := 0 }, { name := "value", type := .int, accessFlags := 18, slot := 0, constantValue := 0 }, { name := "SIZE", type := .int, accessFlags := 25, slot := 6, constantValue := 0 }, { name := "BYTES", type := .int, accessFlags := 25, slot := 7, constantValue := 0 }, { name := "serialVersionUID", type := .long, accessFlags := 26, slot := 8, constantValue := 0 }]
  methods := #[k7m0, k7m1]
  instanceTypes := #[.int]
  staticTypes := #[.int, .int, (.object "java/lang/Class"), (.array .char), (.array .byte), (.array .byte), .int, .int, .long]
  resolved := Array.replicate 453 none
  statics := none }

def pool8 : Array CpInfo := pool [(2, .class_ 4), (1, u "java/lang/Object"), (0, u "<init>"), (0, u "()V"), (0, .class_ 8), (0, u "java/lang/Integer"), (7, .class_ 18), (1, u "java/lang/Integer$IntegerCache"), (0, u "$assertionsDisabled"), (0, u "Z"), (26, u "high"), (0, u "I"), (8, u "archivedCache"), (0, u "[Ljava/lang/Integer;"), (12, u "cache"), (0, u "low")] 27

def k8m0 : Method := { name := "<init>", desc := "()V", sig := { parameters := [], returnType := none }, accessFlags := 2, code := none }
/-- java/lang/Integer$IntegerCache -/
def k8 : Class := { plain "java/lang/Integer$IntegerCache" (some 0) with
  accessFlags := 48
  interfaces := #[]
  cf := some (fileOf pool8 16 #[.nestHost 7] #[{ accessFlags := 2, nameIndex := 5, descriptorIndex := 6, attributes := #[] }] 48 2 #[] #[{ accessFlags := 24, nameIndex := 72, descriptorIndex := 48, attributes := #[] }, { accessFlags := 24, nameIndex := 47, descriptorIndex := 48, attributes := #[] }, { accessFlags := 24, nameIndex := 71, descriptorIndex := 58, attributes := #[] }, { accessFlags := 8, nameIndex := 57, descriptorIndex := 58, attributes := #[] }, { accessFlags := 4120, nameIndex := 19, descriptorIndex := 20, attributes := #[] }])
  fields := #[{ name := "low", type := .int, accessFlags := 24, slot := 0, constantValue := 0 }, { name := "high", type := .int, accessFlags := 24, slot := 1, constantValue := 0 }, { name := "cache", type := (.array (.object "java/lang/Integer")), accessFlags := 24, slot := 2, constantValue := 0 }, { name := "archivedCache", type := (.array (.object "java/lang/Integer")), accessFlags := 8, slot := 3, constantValue := 0 }, { name := "$assertionsDisabled", type := .boolean, accessFlags := 4120, slot := 4, constantValue := 0 }]
  methods := #[k8m0]
  instanceTypes := #[]
  staticTypes := #[.int, .int, (.array (.object "java/lang/Integer")), (.array (.object "java/lang/Integer")), .boolean]
  resolved := Array.replicate 100 none
  statics := some 0 }

def pool9 : Array CpInfo := pool [(1, .methodref 2 3), (0, .class_ 4), (0, .nameAndType 5 6), (0, u "java/lang/Object"), (0, u "<init>"), (0, u "()V"), (0, .fieldref 8 9), (0, .class_ 10), (0, .nameAndType 11 12), (0, u "com/example/willenhall/willenhall/api/ResponseEnvelope"), (0, u "result"), (0, u "Ljava/lang/Object;"), (0, .fieldref 8 14), (0, .nameAndType 15 16), (0, u "errorMessages"), (0, u "Ljava/util/List;"), (0, .fieldref 8 18), (0, .nameAndType 19 20), (0, u "statusCode"), (0, u "I"), (0, .fieldref 8 22), (0, .nameAndType 23 24), (0, u "success"), (0, u "Z"), (9, .interfaceMethodref 35 36), (0, .class_ 37), (0, .nameAndType 38 39), (0, u "java/util/List"), (0, u "of"), (0, u "()Ljava/util/List;"), (0, .methodref 8 41), (0, .nameAndType 5 42), (0, u "(Ljava/lang/Object;Ljava/util/List;IZ)V"), (8, u "()Z"), (24, u "(ILjava/lang/Object;)Lcom/example/willenhall/willenhall/api/ResponseEnvelope;"), (5, u "getResult"), (0, u "()Ljava/lang/Object;"), (1, u "getErrorMessages"), (1, u "getStatusCode"), (0, u "()I"), (0, u "isSuccess")] 37

def k9c0 : Code := { maxStack := 2, maxLocals := 5, code := prog_6_method_1_code, exceptionTable := #[], attributes := #[] }
def k9m0 : Method := { name := "<init>", desc := "(Ljava/lang/Object;Ljava/util/List;IZ)V", sig := { parameters := [(.object "java/lang/Object"), (.object "java/util/List"), .int, .boolean], returnType := none }, accessFlags := 2, code := some k9c0 }
def k9c1 : Code := { maxStack := 6, maxLocals := 2, code := prog_6_method_2_code, exceptionTable := #[], attributes := #[] }
def k9m1 : Method := { name := "success", desc := "(ILjava/lang/Object;)Lcom/example/willenhall/willenhall/api/ResponseEnvelope;", sig := { parameters := [.int, (.object "java/lang/Object")], returnType := some (.object "com/example/willenhall/willenhall/api/ResponseEnvelope") }, accessFlags := 9, code := some k9c1 }
def k9c2 : Code := { maxStack := 1, maxLocals := 1, code := prog_6_method_4_code, exceptionTable := #[], attributes := #[] }
def k9m2 : Method := { name := "getResult", desc := "()Ljava/lang/Object;", sig := { parameters := [], returnType := some (.object "java/lang/Object") }, accessFlags := 1, code := some k9c2 }
def k9c3 : Code := { maxStack := 1, maxLocals := 1, code := prog_6_method_5_code, exceptionTable := #[], attributes := #[] }
def k9m3 : Method := { name := "getErrorMessages", desc := "()Ljava/util/List;", sig := { parameters := [], returnType := some (.object "java/util/List") }, accessFlags := 1, code := some k9c3 }
def k9c4 : Code := { maxStack := 1, maxLocals := 1, code := prog_6_method_6_code, exceptionTable := #[], attributes := #[] }
def k9m4 : Method := { name := "getStatusCode", desc := "()I", sig := { parameters := [], returnType := some .int }, accessFlags := 1, code := some k9c4 }
def k9c5 : Code := { maxStack := 1, maxLocals := 1, code := prog_6_method_7_code, exceptionTable := #[], attributes := #[] }
def k9m5 : Method := { name := "isSuccess", desc := "()Z", sig := { parameters := [], returnType := some .boolean }, accessFlags := 1, code := some k9c5 }
/-- com/example/willenhall/willenhall/api/ResponseEnvelope -/
def k9 : Class := { plain "com/example/willenhall/willenhall/api/ResponseEnvelope" (some 0) with
  accessFlags := 49
  interfaces := #[]
  cf := some (fileOf pool9 8 #[] #[{ accessFlags := 2, nameIndex := 5, descriptorIndex := 42, attributes := #[] }, { accessFlags := 9, nameIndex := 23, descriptorIndex := 76, attributes := #[] }, { accessFlags := 1, nameIndex := 82, descriptorIndex := 83, attributes := #[] }, { accessFlags := 1, nameIndex := 85, descriptorIndex := 39, attributes := #[] }, { accessFlags := 1, nameIndex := 87, descriptorIndex := 88, attributes := #[] }, { accessFlags := 1, nameIndex := 89, descriptorIndex := 51, attributes := #[] }] 49 2 #[] #[{ accessFlags := 18, nameIndex := 11, descriptorIndex := 12, attributes := #[] }, { accessFlags := 18, nameIndex := 15, descriptorIndex := 16, attributes := #[] }, { accessFlags := 18, nameIndex := 19, descriptorIndex := 20, attributes := #[] }, { accessFlags := 18, nameIndex := 23, descriptorIndex := 24, attributes := #[] }])
  fields := #[{ name := "result", type := (.object "java/lang/Object"), accessFlags := 18, slot := 0, constantValue := 0 }, { name := "errorMessages", type := (.object "java/util/List"), accessFlags := 18, slot := 1, constantValue := 0 }, { name := "statusCode", type := .int, accessFlags := 18, slot := 2, constantValue := 0 }, { name := "success", type := .boolean, accessFlags := 18, slot := 3, constantValue := 0 }]
  methods := #[k9m0, k9m1, k9m2, k9m3, k9m4, k9m5]
  instanceTypes := #[(.object "java/lang/Object"), (.object "java/util/List"), .int, .boolean]
  staticTypes := #[]
  resolved := Array.replicate 127 none
  statics := none }

def pool10 : Array CpInfo := pool [(8, .class_ 10), (1, u "java/lang/Iterable"), (24, .class_ 36), (0, u "java/lang/Object")] 25

/-- java/lang/Iterable -/
def k10 : Class := { plain "java/lang/Iterable" (some 0) with
  accessFlags := 1537
  interfaces := #[]
  cf := some (fileOf pool10 8 #[] #[] 1537 35 #[] #[])
  fields := #[]
  methods := #[]
  instanceTypes := #[]
  staticTypes := #[]
  resolved := Array.replicate 62 none
  statics := none }

def pool11 : Array CpInfo := pool [(10, .class_ 12), (1, u "java/util/Collection"), (47, .class_ 61), (0, u "java/lang/Object"), (0, .class_ 63), (0, u "java/lang/Iterable")] 51

/-- java/util/Collection -/
def k11 : Class := { plain "java/util/Collection" (some 0) with
  accessFlags := 1537
  interfaces := #[10]
  cf := some (fileOf pool11 10 #[] #[] 1537 60 #[62] #[])
  fields := #[]
  methods := #[]
  instanceTypes := #[]
  staticTypes := #[]
  resolved := Array.replicate 115 none
  statics := none }

def pool12 : Array CpInfo := pool [(8, .class_ 10), (1, u "java/util/SequencedCollection"), (15, .class_ 27), (0, u "java/lang/Object"), (0, .class_ 29), (0, u "java/util/Collection")] 27

/-- java/util/SequencedCollection -/
def k12 : Class := { plain "java/util/SequencedCollection" (some 0) with
  accessFlags := 1537
  interfaces := #[11]
  cf := some (fileOf pool12 8 #[] #[] 1537 26 #[28] #[])
  fields := #[]
  methods := #[]
  instanceTypes := #[]
  staticTypes := #[]
  resolved := Array.replicate 57 none
  statics := none }

def pool13 : Array CpInfo := pool [(8, .class_ 10), (1, u "java/util/List"), (68, u "size"), (0, u "()I"), (7, u "of"), (1, .fieldref 91 92), (0, .class_ 93), (0, .nameAndType 94 95), (0, u "java/util/ImmutableCollections"), (0, u "EMPTY_LIST"), (0, u "Ljava/util/ImmutableCollections$ListN;"), (7, .class_ 104), (0, u "java/lang/Object"), (14, u "()Ljava/util/List;"), (0, .class_ 121), (0, u "java/util/SequencedCollection")] 129

def k13m0 : Method := { name := "size", desc := "()I", sig := { parameters := [], returnType := some .int }, accessFlags := 1025, code := none }
def k13c1 : Code := { maxStack := 1, maxLocals := 0, code := jdk_40_method_36_code, exceptionTable := #[], attributes := #[] }
def k13m1 : Method := { name := "of", desc := "()Ljava/util/List;", sig := { parameters := [], returnType := some (.object "java/util/List") }, accessFlags := 9, code := some k13c1 }
/-- java/util/List -/
def k13 : Class := { plain "java/util/List" (some 0) with
  accessFlags := 1537
  interfaces := #[12]
  cf := some (fileOf pool13 8 #[] #[{ accessFlags := 1025, nameIndex := 79, descriptorIndex := 80, attributes := #[] }, { accessFlags := 9, nameIndex := 88, descriptorIndex := 119, attributes := #[] }] 1537 103 #[120] #[])
  fields := #[]
  methods := #[k13m0, k13m1]
  instanceTypes := #[]
  staticTypes := #[]
  resolved := Array.replicate 251 none
  statics := none }

def pool14 : Array CpInfo := pool [(2, .class_ 4), (1, u "java/lang/Object"), (0, u "<init>"), (0, u "()V"), (3, .class_ 11), (0, u "java/util/ImmutableCollections$List12"), (0, .class_ 13), (0, u "java/util/ImmutableCollections$ListN"), (3, u "Z"), (29, .class_ 49), (1, u "java/util/ImmutableCollections"), (0, u "$assertionsDisabled"), (5, u "[Ljava/lang/Object;"), (5, u "EMPTY_LIST"), (0, u "Ljava/util/ImmutableCollections$ListN;"), (8, u "EMPTY_LIST_NULLS"), (22, u "SALT32L"), (0, u "J"), (2, u "REVERSE"), (6, u "archivedObjects"), (2, u "EMPTY"), (0, u "Ljava/lang/Object;"), (0, .class_ 112), (0, u "java/util/ImmutableCollections$SetN"), (5, u "EMPTY_SET"), (0, u "Ljava/util/ImmutableCollections$SetN;"), (0, .class_ 121), (0, u "java/util/ImmutableCollections$MapN"), (3, u "EMPTY_MAP"), (0, u "Ljava/util/ImmutableCollections$MapN;"), (4, u "EXPAND_FACTOR"), (0, u "I"), (36, .class_ 170), (0, u "java/util/ImmutableCollections$MapN$MapNIterator"), (0, .class_ 172), (0, u "java/util/ImmutableCollections$MapN$1"), (0, .class_ 174), (0, u "java/util/ImmutableCollections$Map1"), (0, .class_ 176), (0, u "java/util/ImmutableCollections$AbstractImmutableMap"), (0, .class_ 178), (0, u "java/util/ImmutableCollections$SetN$SetNIterator"), (0, .class_ 180), (0, u "java/util/ImmutableCollections$Set12"), (0, .class_ 182), (0, u "java/util/ImmutableCollections$Set12$1"), (0, .class_ 184), (0, u "java/util/ImmutableCollections$AbstractImmutableSet"), (0, .class_ 186), (0, u "java/util/ImmutableCollections$SubList"), (0, .class_ 188), (0, u "java/util/ImmutableCollections$ListItr"), (0, .class_ 190), (0, u "java/util/ImmutableCollections$AbstractImmutableList"), (0, .class_ 192), (0, u "java/util/ImmutableCollections$AbstractImmutableCollection"), (0, .class_ 194), (0, u "java/util/ImmutableCollections$Access"), (0, .class_ 196), (0, u "java/util/ImmutableCollections$Access$1")] 16

def k14m0 : Method := { name := "<init>", desc := "()V", sig := { parameters := [], returnType := none }, accessFlags := 2, code := none }
/-- java/util/ImmutableCollections -/
def k14 : Class := { plain "java/util/ImmutableCollections" (some 0) with
  accessFlags := 32
  interfaces := #[]
  cf := some (fileOf pool14 47 #[.nestMembers #[120, 169, 171, 173, 175, 111, 177, 179, 181, 183, 12, 10, 185, 187, 189, 191, 193, 195]] #[{ accessFlags := 2, nameIndex := 5, descriptorIndex := 6, attributes := #[] }] 32 2 #[] #[{ accessFlags := 26, nameIndex := 95, descriptorIndex := 96, attributes := #[] }, { accessFlags := 26, nameIndex := 99, descriptorIndex := 17, attributes := #[] }, { accessFlags := 10, nameIndex := 106, descriptorIndex := 56, attributes := #[] }, { accessFlags := 26, nameIndex := 109, descriptorIndex := 110, attributes := #[] }, { accessFlags := 24, nameIndex := 62, descriptorIndex := 63, attributes := #[] }, { accessFlags := 24, nameIndex := 72, descriptorIndex := 63, attributes := #[] }, { accessFlags := 24, nameIndex := 118, descriptorIndex := 119, attributes := #[] }, { accessFlags := 24, nameIndex := 125, descriptorIndex := 126, attributes := #[] }, { accessFlags := 24, nameIndex := 131, descriptorIndex := 132, attributes := #[] }, { accessFlags := 4120, nameIndex := 50, descriptorIndex := 17, attributes := #[] }])
  fields := #[{ name := "SALT32L", type := .long, accessFlags := 26, slot := 0, constantValue := 0 }, { name := "REVERSE", type := .boolean, accessFlags := 26, slot := 1, constantValue := 0 }, { name := "archivedObjects", type := (.array (.object "java/lang/Object")), accessFlags := 10, slot := 2, constantValue := 0 }, { name := "EMPTY", type := (.object "java/lang/Object"), accessFlags := 26, slot := 3, constantValue := 0 }, { name := "EMPTY_LIST", type := (.object "java/util/ImmutableCollections$ListN"), accessFlags := 24, slot := 4, constantValue := 0 }, { name := "EMPTY_LIST_NULLS", type := (.object "java/util/ImmutableCollections$ListN"), accessFlags := 24, slot := 5, constantValue := 0 }, { name := "EMPTY_SET", type := (.object "java/util/ImmutableCollections$SetN"), accessFlags := 24, slot := 6, constantValue := 0 }, { name := "EMPTY_MAP", type := (.object "java/util/ImmutableCollections$MapN"), accessFlags := 24, slot := 7, constantValue := 0 }, { name := "EXPAND_FACTOR", type := .int, accessFlags := 24, slot := 8, constantValue := 0 }, { name := "$assertionsDisabled", type := .boolean, accessFlags := 4120, slot := 9, constantValue := 0 }]
  methods := #[k14m0]
  instanceTypes := #[]
  staticTypes := #[.long, .boolean, (.array (.object "java/lang/Object")), (.object "java/lang/Object"), (.object "java/util/ImmutableCollections$ListN"), (.object "java/util/ImmutableCollections$ListN"), (.object "java/util/ImmutableCollections$SetN"), (.object "java/util/ImmutableCollections$MapN"), .int, .boolean]
  resolved := Array.replicate 213 none
  statics := some 1 }

def pool15 : Array CpInfo := pool [(2, .class_ 4), (1, u "java/lang/Object"), (0, u "<init>"), (0, u "()V"), (1, .class_ 10), (1, u "java/util/AbstractCollection"), (66, .class_ 78), (0, u "java/util/Collection")] 81

def k15m0 : Method := { name := "<init>", desc := "()V", sig := { parameters := [], returnType := none }, accessFlags := 4, code := none }
/-- java/util/AbstractCollection -/
def k15 : Class := { plain "java/util/AbstractCollection" (some 0) with
  accessFlags := 1057
  interfaces := #[11]
  cf := some (fileOf pool15 8 #[] #[{ accessFlags := 4, nameIndex := 5, descriptorIndex := 6, attributes := #[] }] 1057 2 #[77] #[])
  fields := #[]
  methods := #[k15m0]
  instanceTypes := #[]
  staticTypes := #[]
  resolved := Array.replicate 160 none
  statics := none }

def pool16 : Array CpInfo := pool [(2, .class_ 4), (1, u "java/util/AbstractCollection"), (0, u "<init>"), (0, u "()V"), (1, .class_ 10), (1, u "java/util/ImmutableCollections"), (2, .class_ 14), (0, u "java/util/ImmutableCollections$AbstractImmutableCollection")] 41

def k16m0 : Method := { name := "<init>", desc := "()V", sig := { parameters := [], returnType := none }, accessFlags := 0, code := none }
/-- java/util/ImmutableCollections$AbstractImmutableCollection -/
def k16 : Class := { plain "java/util/ImmutableCollections$AbstractImmutableCollection" (some 15) with
  accessFlags := 1056
  interfaces := #[]
  cf := some (fileOf pool16 13 #[.nestHost 8] #[{ accessFlags := 0, nameIndex := 5, descriptorIndex := 6, attributes := #[] }] 1056 2 #[] #[])
  fields := #[]
  methods := #[k16m0]
  instanceTypes := #[]
  staticTypes := #[]
  resolved := Array.replicate 56 none
  statics := none }

def pool17 : Array CpInfo := pool [(1, .class_ 2), (0, u "java/util/RandomAccess"), (0, .class_ 4), (0, u "java/lang/Object")] 2

/-- java/util/RandomAccess -/
def k17 : Class := { plain "java/util/RandomAccess" (some 0) with
  accessFlags := 1537
  interfaces := #[]
  cf := some (fileOf pool17 1 #[] #[] 1537 3 #[] #[])
  fields := #[]
  methods := #[]
  instanceTypes := #[]
  staticTypes := #[]
  resolved := Array.replicate 7 none
  statics := none }

def pool18 : Array CpInfo := pool [(2, .class_ 4), (1, u "java/util/ImmutableCollections$AbstractImmutableCollection"), (0, u "<init>"), (0, u "()V"), (1, .class_ 10), (1, u "java/util/ImmutableCollections"), (3, .class_ 16), (1, u "java/util/ImmutableCollections$AbstractImmutableList"), (60, .class_ 78), (0, u "java/util/List"), (45, .class_ 125), (0, u "java/util/RandomAccess")] 70

def k18m0 : Method := { name := "<init>", desc := "()V", sig := { parameters := [], returnType := none }, accessFlags := 0, code := none }
/-- java/util/ImmutableCollections$AbstractImmutableList -/
def k18 : Class := { plain "java/util/ImmutableCollections$AbstractImmutableList" (some 16) with
  accessFlags := 1056
  interfaces := #[13, 17]
  cf := some (fileOf pool18 14 #[.nestHost 8] #[{ accessFlags := 0, nameIndex := 5, descriptorIndex := 6, attributes := #[] }] 1056 2 #[77, 124] #[])
  fields := #[]
  methods := #[k18m0]
  instanceTypes := #[]
  staticTypes := #[]
  resolved := Array.replicate 196 none
  statics := none }

def pool19 : Array CpInfo := pool [(2, .class_ 4), (1, u "java/util/ImmutableCollections$AbstractImmutableList"), (2, .fieldref 8 9), (0, .class_ 10), (0, .nameAndType 11 12), (0, u "java/util/ImmutableCollections$ListN"), (0, u "elements"), (0, u "[Ljava/lang/Object;"), (2, u "allowNulls"), (0, u "Z"), (42, .class_ 60), (0, u "java/io/Serializable"), (16, u "size"), (0, u "()I"), (35, .class_ 115), (0, u "java/util/ImmutableCollections")] 3

def k19c0 : Code := { maxStack := 1, maxLocals := 1, code := jdk_45_method_3_code, exceptionTable := #[], attributes := #[] }
def k19m0 : Method := { name := "size", desc := "()I", sig := { parameters := [], returnType := some .int }, accessFlags := 1, code := some k19c0 }
/-- java/util/ImmutableCollections$ListN -/
def k19 : Class := { plain "java/util/ImmutableCollections$ListN" (some 18) with
  accessFlags := 48
  interfaces := #[2]
  cf := some (fileOf pool19 8 #[.nestHost 114] #[{ accessFlags := 1, nameIndex := 77, descriptorIndex := 78, attributes := #[] }] 48 2 #[59] #[{ accessFlags := 18, nameIndex := 11, descriptorIndex := 12, attributes := #[] }, { accessFlags := 18, nameIndex := 15, descriptorIndex := 16, attributes := #[] }])
  fields := #[{ name := "elements", type := (.array (.object "java/lang/Object")), accessFlags := 18, slot := 0, constantValue := 0 }, { name := "allowNulls", type := .boolean, accessFlags := 18, slot := 1, constantValue := 0 }]
  methods := #[k19m0]
  instanceTypes := #[(.array (.object "java/lang/Object")), .boolean]
  staticTypes := #[]
  resolved := Array.replicate 119 none
  statics := none }

def pool20 : Array CpInfo := pool [(1, u "java/lang/Cloneable"), (0, .class_ 1), (0, u "java/lang/Object"), (0, .class_ 3)] 3

/-- java/lang/Cloneable -/
def k20 : Class := { plain "java/lang/Cloneable" (some 0) with
  accessFlags := 1537
  interfaces := #[]
  cf := some (fileOf pool20 2 #[] #[] 1537 4 #[] #[])
  fields := #[]
  methods := #[]
  instanceTypes := #[]
  staticTypes := #[]
  resolved := Array.replicate 8 none
  statics := none }

/-- the primitive byte -/
def k21 : Class := { plain "byte" none with kind := .primitive 'B', accessFlags := 0x411 }
/-- [B -/
def k22 : Class := { plain "[B" (some 0) with kind := .array 21 .byte, interfaces := #[20, 2], accessFlags := 1041 }

/-- the primitive int -/
def k23 : Class := { plain "int" none with kind := .primitive 'I', accessFlags := 0x411 }
/-- [I -/
def k24 : Class := { plain "[I" (some 0) with kind := .array 23 .int, interfaces := #[20, 2], accessFlags := 1041 }

/-- [Ljava/lang/Integer; -/
def k25 : Class := { plain "[Ljava/lang/Integer;" (some 0) with kind := .array 7 (.object "java/lang/Integer"), interfaces := #[20, 2], accessFlags := 1041 }

/-- [Ljava/lang/Object; -/
def k26 : Class := { plain "[Ljava/lang/Object;" (some 0) with kind := .array 0 (.object "java/lang/Object"), interfaces := #[20, 2], accessFlags := 1041 }

def heap : Heap := #[{ cls := 8, slots := #[.int 0, .int 127, .ref 2, .null, .int 0], vm := .statics 8 },
  { cls := 14, slots := #[.long 0, .int 0, .null, .null, .ref 260, .null, .null, .null, .int 0, .int 0], vm := .statics 14 },
  { cls := 25, slots := #[.ref 4, .ref 5, .ref 6, .ref 7, .ref 8, .ref 9, .ref 10, .ref 11, .ref 12, .ref 13, .ref 14, .ref 15, .ref 16, .ref 17, .ref 18, .ref 19, .ref 20, .ref 21, .ref 22, .ref 23, .ref 24, .ref 25, .ref 26, .ref 27, .ref 28, .ref 29, .ref 30, .ref 31, .ref 32, .ref 33, .ref 34, .ref 35, .ref 36, .ref 37, .ref 38, .ref 39, .ref 40, .ref 41, .ref 42, .ref 43, .ref 44, .ref 45, .ref 46, .ref 47, .ref 48, .ref 49, .ref 50, .ref 51, .ref 52, .ref 53, .ref 54, .ref 55, .ref 56, .ref 57, .ref 58, .ref 59, .ref 60, .ref 61, .ref 62, .ref 63, .ref 64, .ref 65, .ref 66, .ref 67, .ref 68, .ref 69, .ref 70, .ref 71, .ref 72, .ref 73, .ref 74, .ref 75, .ref 76, .ref 77, .ref 78, .ref 79, .ref 80, .ref 81, .ref 82, .ref 83, .ref 84, .ref 85, .ref 86, .ref 87, .ref 88, .ref 89, .ref 90, .ref 91, .ref 92, .ref 93, .ref 94, .ref 95, .ref 96, .ref 97, .ref 98, .ref 99, .ref 100, .ref 101, .ref 102, .ref 103, .ref 104, .ref 105, .ref 106, .ref 107, .ref 108, .ref 109, .ref 110, .ref 111, .ref 112, .ref 113, .ref 114, .ref 115, .ref 116, .ref 117, .ref 118, .ref 119, .ref 120, .ref 121, .ref 122, .ref 123, .ref 124, .ref 125, .ref 126, .ref 127, .ref 128, .ref 129, .ref 130, .ref 131, .ref 132, .ref 133, .ref 134, .ref 135, .ref 136, .ref 137, .ref 138, .ref 139, .ref 140, .ref 141, .ref 142, .ref 143, .ref 144, .ref 145, .ref 146, .ref 147, .ref 148, .ref 149, .ref 150, .ref 151, .ref 152, .ref 153, .ref 154, .ref 155, .ref 156, .ref 157, .ref 158, .ref 159, .ref 160, .ref 161, .ref 162, .ref 163, .ref 164, .ref 165, .ref 166, .ref 167, .ref 168, .ref 169, .ref 170, .ref 171, .ref 172, .ref 173, .ref 174, .ref 175, .ref 176, .ref 177, .ref 178, .ref 179, .ref 180, .ref 181, .ref 182, .ref 183, .ref 184, .ref 185, .ref 186, .ref 187, .ref 188, .ref 189, .ref 190, .ref 191, .ref 192, .ref 193, .ref 194, .ref 195, .ref 196, .ref 197, .ref 198, .ref 199, .ref 200, .ref 201, .ref 202, .ref 203, .ref 204, .ref 205, .ref 206, .ref 207, .ref 208, .ref 209, .ref 210, .ref 211, .ref 212, .ref 213, .ref 214, .ref 215, .ref 216, .ref 217, .ref 218, .ref 219, .ref 220, .ref 221, .ref 222, .ref 223, .ref 224, .ref 225, .ref 226, .ref 227, .ref 228, .ref 229, .ref 230, .ref 231, .ref 232, .ref 233, .ref 234, .ref 235, .ref 236, .ref 237, .ref 238, .ref 239, .ref 240, .ref 241, .ref 242, .ref 243, .ref 244, .ref 245, .ref 246, .ref 247, .ref 248, .ref 249, .ref 250, .ref 251, .ref 252, .ref 253, .ref 254, .ref 255, .ref 256, .ref 257, .ref 258, .ref 259], vm := .none },
  { cls := 26, slots := #[], vm := .none },
  { cls := 7, slots := #[.int (-128)], vm := .none },
  { cls := 7, slots := #[.int (-127)], vm := .none },
  { cls := 7, slots := #[.int (-126)], vm := .none },
  { cls := 7, slots := #[.int (-125)], vm := .none },
  { cls := 7, slots := #[.int (-124)], vm := .none },
  { cls := 7, slots := #[.int (-123)], vm := .none },
  { cls := 7, slots := #[.int (-122)], vm := .none },
  { cls := 7, slots := #[.int (-121)], vm := .none },
  { cls := 7, slots := #[.int (-120)], vm := .none },
  { cls := 7, slots := #[.int (-119)], vm := .none },
  { cls := 7, slots := #[.int (-118)], vm := .none },
  { cls := 7, slots := #[.int (-117)], vm := .none },
  { cls := 7, slots := #[.int (-116)], vm := .none },
  { cls := 7, slots := #[.int (-115)], vm := .none },
  { cls := 7, slots := #[.int (-114)], vm := .none },
  { cls := 7, slots := #[.int (-113)], vm := .none },
  { cls := 7, slots := #[.int (-112)], vm := .none },
  { cls := 7, slots := #[.int (-111)], vm := .none },
  { cls := 7, slots := #[.int (-110)], vm := .none },
  { cls := 7, slots := #[.int (-109)], vm := .none },
  { cls := 7, slots := #[.int (-108)], vm := .none },
  { cls := 7, slots := #[.int (-107)], vm := .none },
  { cls := 7, slots := #[.int (-106)], vm := .none },
  { cls := 7, slots := #[.int (-105)], vm := .none },
  { cls := 7, slots := #[.int (-104)], vm := .none },
  { cls := 7, slots := #[.int (-103)], vm := .none },
  { cls := 7, slots := #[.int (-102)], vm := .none },
  { cls := 7, slots := #[.int (-101)], vm := .none },
  { cls := 7, slots := #[.int (-100)], vm := .none },
  { cls := 7, slots := #[.int (-99)], vm := .none },
  { cls := 7, slots := #[.int (-98)], vm := .none },
  { cls := 7, slots := #[.int (-97)], vm := .none },
  { cls := 7, slots := #[.int (-96)], vm := .none },
  { cls := 7, slots := #[.int (-95)], vm := .none },
  { cls := 7, slots := #[.int (-94)], vm := .none },
  { cls := 7, slots := #[.int (-93)], vm := .none },
  { cls := 7, slots := #[.int (-92)], vm := .none },
  { cls := 7, slots := #[.int (-91)], vm := .none },
  { cls := 7, slots := #[.int (-90)], vm := .none },
  { cls := 7, slots := #[.int (-89)], vm := .none },
  { cls := 7, slots := #[.int (-88)], vm := .none },
  { cls := 7, slots := #[.int (-87)], vm := .none },
  { cls := 7, slots := #[.int (-86)], vm := .none },
  { cls := 7, slots := #[.int (-85)], vm := .none },
  { cls := 7, slots := #[.int (-84)], vm := .none },
  { cls := 7, slots := #[.int (-83)], vm := .none },
  { cls := 7, slots := #[.int (-82)], vm := .none },
  { cls := 7, slots := #[.int (-81)], vm := .none },
  { cls := 7, slots := #[.int (-80)], vm := .none },
  { cls := 7, slots := #[.int (-79)], vm := .none },
  { cls := 7, slots := #[.int (-78)], vm := .none },
  { cls := 7, slots := #[.int (-77)], vm := .none },
  { cls := 7, slots := #[.int (-76)], vm := .none },
  { cls := 7, slots := #[.int (-75)], vm := .none },
  { cls := 7, slots := #[.int (-74)], vm := .none },
  { cls := 7, slots := #[.int (-73)], vm := .none },
  { cls := 7, slots := #[.int (-72)], vm := .none },
  { cls := 7, slots := #[.int (-71)], vm := .none },
  { cls := 7, slots := #[.int (-70)], vm := .none },
  { cls := 7, slots := #[.int (-69)], vm := .none },
  { cls := 7, slots := #[.int (-68)], vm := .none },
  { cls := 7, slots := #[.int (-67)], vm := .none },
  { cls := 7, slots := #[.int (-66)], vm := .none },
  { cls := 7, slots := #[.int (-65)], vm := .none },
  { cls := 7, slots := #[.int (-64)], vm := .none },
  { cls := 7, slots := #[.int (-63)], vm := .none },
  { cls := 7, slots := #[.int (-62)], vm := .none },
  { cls := 7, slots := #[.int (-61)], vm := .none },
  { cls := 7, slots := #[.int (-60)], vm := .none },
  { cls := 7, slots := #[.int (-59)], vm := .none },
  { cls := 7, slots := #[.int (-58)], vm := .none },
  { cls := 7, slots := #[.int (-57)], vm := .none },
  { cls := 7, slots := #[.int (-56)], vm := .none },
  { cls := 7, slots := #[.int (-55)], vm := .none },
  { cls := 7, slots := #[.int (-54)], vm := .none },
  { cls := 7, slots := #[.int (-53)], vm := .none },
  { cls := 7, slots := #[.int (-52)], vm := .none },
  { cls := 7, slots := #[.int (-51)], vm := .none },
  { cls := 7, slots := #[.int (-50)], vm := .none },
  { cls := 7, slots := #[.int (-49)], vm := .none },
  { cls := 7, slots := #[.int (-48)], vm := .none },
  { cls := 7, slots := #[.int (-47)], vm := .none },
  { cls := 7, slots := #[.int (-46)], vm := .none },
  { cls := 7, slots := #[.int (-45)], vm := .none },
  { cls := 7, slots := #[.int (-44)], vm := .none },
  { cls := 7, slots := #[.int (-43)], vm := .none },
  { cls := 7, slots := #[.int (-42)], vm := .none },
  { cls := 7, slots := #[.int (-41)], vm := .none },
  { cls := 7, slots := #[.int (-40)], vm := .none },
  { cls := 7, slots := #[.int (-39)], vm := .none },
  { cls := 7, slots := #[.int (-38)], vm := .none },
  { cls := 7, slots := #[.int (-37)], vm := .none },
  { cls := 7, slots := #[.int (-36)], vm := .none },
  { cls := 7, slots := #[.int (-35)], vm := .none },
  { cls := 7, slots := #[.int (-34)], vm := .none },
  { cls := 7, slots := #[.int (-33)], vm := .none },
  { cls := 7, slots := #[.int (-32)], vm := .none },
  { cls := 7, slots := #[.int (-31)], vm := .none },
  { cls := 7, slots := #[.int (-30)], vm := .none },
  { cls := 7, slots := #[.int (-29)], vm := .none },
  { cls := 7, slots := #[.int (-28)], vm := .none },
  { cls := 7, slots := #[.int (-27)], vm := .none },
  { cls := 7, slots := #[.int (-26)], vm := .none },
  { cls := 7, slots := #[.int (-25)], vm := .none },
  { cls := 7, slots := #[.int (-24)], vm := .none },
  { cls := 7, slots := #[.int (-23)], vm := .none },
  { cls := 7, slots := #[.int (-22)], vm := .none },
  { cls := 7, slots := #[.int (-21)], vm := .none },
  { cls := 7, slots := #[.int (-20)], vm := .none },
  { cls := 7, slots := #[.int (-19)], vm := .none },
  { cls := 7, slots := #[.int (-18)], vm := .none },
  { cls := 7, slots := #[.int (-17)], vm := .none },
  { cls := 7, slots := #[.int (-16)], vm := .none },
  { cls := 7, slots := #[.int (-15)], vm := .none },
  { cls := 7, slots := #[.int (-14)], vm := .none },
  { cls := 7, slots := #[.int (-13)], vm := .none },
  { cls := 7, slots := #[.int (-12)], vm := .none },
  { cls := 7, slots := #[.int (-11)], vm := .none },
  { cls := 7, slots := #[.int (-10)], vm := .none },
  { cls := 7, slots := #[.int (-9)], vm := .none },
  { cls := 7, slots := #[.int (-8)], vm := .none },
  { cls := 7, slots := #[.int (-7)], vm := .none },
  { cls := 7, slots := #[.int (-6)], vm := .none },
  { cls := 7, slots := #[.int (-5)], vm := .none },
  { cls := 7, slots := #[.int (-4)], vm := .none },
  { cls := 7, slots := #[.int (-3)], vm := .none },
  { cls := 7, slots := #[.int (-2)], vm := .none },
  { cls := 7, slots := #[.int (-1)], vm := .none },
  { cls := 7, slots := #[.int 0], vm := .none },
  { cls := 7, slots := #[.int 1], vm := .none },
  { cls := 7, slots := #[.int 2], vm := .none },
  { cls := 7, slots := #[.int 3], vm := .none },
  { cls := 7, slots := #[.int 4], vm := .none },
  { cls := 7, slots := #[.int 5], vm := .none },
  { cls := 7, slots := #[.int 6], vm := .none },
  { cls := 7, slots := #[.int 7], vm := .none },
  { cls := 7, slots := #[.int 8], vm := .none },
  { cls := 7, slots := #[.int 9], vm := .none },
  { cls := 7, slots := #[.int 10], vm := .none },
  { cls := 7, slots := #[.int 11], vm := .none },
  { cls := 7, slots := #[.int 12], vm := .none },
  { cls := 7, slots := #[.int 13], vm := .none },
  { cls := 7, slots := #[.int 14], vm := .none },
  { cls := 7, slots := #[.int 15], vm := .none },
  { cls := 7, slots := #[.int 16], vm := .none },
  { cls := 7, slots := #[.int 17], vm := .none },
  { cls := 7, slots := #[.int 18], vm := .none },
  { cls := 7, slots := #[.int 19], vm := .none },
  { cls := 7, slots := #[.int 20], vm := .none },
  { cls := 7, slots := #[.int 21], vm := .none },
  { cls := 7, slots := #[.int 22], vm := .none },
  { cls := 7, slots := #[.int 23], vm := .none },
  { cls := 7, slots := #[.int 24], vm := .none },
  { cls := 7, slots := #[.int 25], vm := .none },
  { cls := 7, slots := #[.int 26], vm := .none },
  { cls := 7, slots := #[.int 27], vm := .none },
  { cls := 7, slots := #[.int 28], vm := .none },
  { cls := 7, slots := #[.int 29], vm := .none },
  { cls := 7, slots := #[.int 30], vm := .none },
  { cls := 7, slots := #[.int 31], vm := .none },
  { cls := 7, slots := #[.int 32], vm := .none },
  { cls := 7, slots := #[.int 33], vm := .none },
  { cls := 7, slots := #[.int 34], vm := .none },
  { cls := 7, slots := #[.int 35], vm := .none },
  { cls := 7, slots := #[.int 36], vm := .none },
  { cls := 7, slots := #[.int 37], vm := .none },
  { cls := 7, slots := #[.int 38], vm := .none },
  { cls := 7, slots := #[.int 39], vm := .none },
  { cls := 7, slots := #[.int 40], vm := .none },
  { cls := 7, slots := #[.int 41], vm := .none },
  { cls := 7, slots := #[.int 42], vm := .none },
  { cls := 7, slots := #[.int 43], vm := .none },
  { cls := 7, slots := #[.int 44], vm := .none },
  { cls := 7, slots := #[.int 45], vm := .none },
  { cls := 7, slots := #[.int 46], vm := .none },
  { cls := 7, slots := #[.int 47], vm := .none },
  { cls := 7, slots := #[.int 48], vm := .none },
  { cls := 7, slots := #[.int 49], vm := .none },
  { cls := 7, slots := #[.int 50], vm := .none },
  { cls := 7, slots := #[.int 51], vm := .none },
  { cls := 7, slots := #[.int 52], vm := .none },
  { cls := 7, slots := #[.int 53], vm := .none },
  { cls := 7, slots := #[.int 54], vm := .none },
  { cls := 7, slots := #[.int 55], vm := .none },
  { cls := 7, slots := #[.int 56], vm := .none },
  { cls := 7, slots := #[.int 57], vm := .none },
  { cls := 7, slots := #[.int 58], vm := .none },
  { cls := 7, slots := #[.int 59], vm := .none },
  { cls := 7, slots := #[.int 60], vm := .none },
  { cls := 7, slots := #[.int 61], vm := .none },
  { cls := 7, slots := #[.int 62], vm := .none },
  { cls := 7, slots := #[.int 63], vm := .none },
  { cls := 7, slots := #[.int 64], vm := .none },
  { cls := 7, slots := #[.int 65], vm := .none },
  { cls := 7, slots := #[.int 66], vm := .none },
  { cls := 7, slots := #[.int 67], vm := .none },
  { cls := 7, slots := #[.int 68], vm := .none },
  { cls := 7, slots := #[.int 69], vm := .none },
  { cls := 7, slots := #[.int 70], vm := .none },
  { cls := 7, slots := #[.int 71], vm := .none },
  { cls := 7, slots := #[.int 72], vm := .none },
  { cls := 7, slots := #[.int 73], vm := .none },
  { cls := 7, slots := #[.int 74], vm := .none },
  { cls := 7, slots := #[.int 75], vm := .none },
  { cls := 7, slots := #[.int 76], vm := .none },
  { cls := 7, slots := #[.int 77], vm := .none },
  { cls := 7, slots := #[.int 78], vm := .none },
  { cls := 7, slots := #[.int 79], vm := .none },
  { cls := 7, slots := #[.int 80], vm := .none },
  { cls := 7, slots := #[.int 81], vm := .none },
  { cls := 7, slots := #[.int 82], vm := .none },
  { cls := 7, slots := #[.int 83], vm := .none },
  { cls := 7, slots := #[.int 84], vm := .none },
  { cls := 7, slots := #[.int 85], vm := .none },
  { cls := 7, slots := #[.int 86], vm := .none },
  { cls := 7, slots := #[.int 87], vm := .none },
  { cls := 7, slots := #[.int 88], vm := .none },
  { cls := 7, slots := #[.int 89], vm := .none },
  { cls := 7, slots := #[.int 90], vm := .none },
  { cls := 7, slots := #[.int 91], vm := .none },
  { cls := 7, slots := #[.int 92], vm := .none },
  { cls := 7, slots := #[.int 93], vm := .none },
  { cls := 7, slots := #[.int 94], vm := .none },
  { cls := 7, slots := #[.int 95], vm := .none },
  { cls := 7, slots := #[.int 96], vm := .none },
  { cls := 7, slots := #[.int 97], vm := .none },
  { cls := 7, slots := #[.int 98], vm := .none },
  { cls := 7, slots := #[.int 99], vm := .none },
  { cls := 7, slots := #[.int 100], vm := .none },
  { cls := 7, slots := #[.int 101], vm := .none },
  { cls := 7, slots := #[.int 102], vm := .none },
  { cls := 7, slots := #[.int 103], vm := .none },
  { cls := 7, slots := #[.int 104], vm := .none },
  { cls := 7, slots := #[.int 105], vm := .none },
  { cls := 7, slots := #[.int 106], vm := .none },
  { cls := 7, slots := #[.int 107], vm := .none },
  { cls := 7, slots := #[.int 108], vm := .none },
  { cls := 7, slots := #[.int 109], vm := .none },
  { cls := 7, slots := #[.int 110], vm := .none },
  { cls := 7, slots := #[.int 111], vm := .none },
  { cls := 7, slots := #[.int 112], vm := .none },
  { cls := 7, slots := #[.int 113], vm := .none },
  { cls := 7, slots := #[.int 114], vm := .none },
  { cls := 7, slots := #[.int 115], vm := .none },
  { cls := 7, slots := #[.int 116], vm := .none },
  { cls := 7, slots := #[.int 117], vm := .none },
  { cls := 7, slots := #[.int 118], vm := .none },
  { cls := 7, slots := #[.int 119], vm := .none },
  { cls := 7, slots := #[.int 120], vm := .none },
  { cls := 7, slots := #[.int 121], vm := .none },
  { cls := 7, slots := #[.int 122], vm := .none },
  { cls := 7, slots := #[.int 123], vm := .none },
  { cls := 7, slots := #[.int 124], vm := .none },
  { cls := 7, slots := #[.int 125], vm := .none },
  { cls := 7, slots := #[.int 126], vm := .none },
  { cls := 7, slots := #[.int 127], vm := .none },
  { cls := 19, slots := #[.ref 3, .int 0], vm := .none }]
def classes : Array Class := #[k0, k1, k2, k3, k4, k5, k6, k7, k8, k9, k10, k11, k12, k13, k14, k15, k16, k17, k18, k19, k20, k21, k22, k23, k24, k25, k26]
def interned : List (Array UInt16 × Addr) := []
def slotsUsed : Nat := 529
def theMethod : MethodId := ⟨1, 1⟩
def args0 : Array Value := #[.int 5, .int 300, .int 1]
def aboutOver (below : List Frame) : State where
  vm := { classes := classes, interned := interned.toArray }
  heap := heap
  slotsUsed := slotsUsed
  threads := #[{ frames := .invoking theMethod args0 :: below }]
def below0 : List Frame := [.native { method := ⟨0, 0⟩, args := #[] }]
def about1 : State := aboutOver below0
def p0 : Program := .bare "" "" ""
def e0 : Env := launch0.env 0 0 0
theorem w_frames : about1.frames = Frame.invoking theMethod args0 :: below0 := rfl
set_option maxRecDepth 65536 in
theorem w_args : argsFit about1.vm theMethod args0 = true := by decide +kernel
set_option maxRecDepth 65536 in
theorem w_heap : heapFits about1 = true := by decide +kernel
set_option maxRecDepth 65536 in
theorem w_runnable : about1.curStatus? = some .runnable := by decide +kernel
set_option maxRecDepth 65536 in
theorem w_alone : about1.alone = true := by decide +kernel
set_option maxRecDepth 65536 in
theorem w_named : about1.methodNamed? x = some theMethod := by decide +kernel
set_option maxRecDepth 65536 in
theorem w_hears : about1.hears theMethod below0 = true := by decide +kernel
set_option maxRecDepth 65536 in
theorem w_ripe : about1.ripe theMethod args0 below0 = true := by decide +kernel
theorem w_running : about1.status = .running := rfl
set_option maxRecDepth 65536 in
theorem w_room : about1.hasRoom e0.platform room_1 = true :=
  launch0.hasRoom_least _ room_1 (by decide +kernel) (by decide +kernel) (by decide +kernel) (by decide +kernel) (by decide +kernel) (by decide +kernel)
theorem allAtoms_all (ts : List Jvm.Cond) (a : Array Jvm.Value) (st : Jvm.State) : (allAtoms ts).before a st = ts.all (fun c => c.before a st) := by
  induction ts with
  | nil => rfl
  | cons c t ih =>
    show (Jvm.Cond.and c (allAtoms t)).before a st = _
    rw [Jvm.Cond.before_and, ih, List.all_cons]
def words1 : List Jvm.Cond := Jvm.Cond.code x code maxLocals ret :: tables_1
/-- a 'code' word, met by the world's own term for the bytes: nothing is compared byte by byte -/
theorem code_word {y : MethodName} {bytes : ByteArray} {mx : Nat} {rt : Option FieldType} {a : Array Value} {s : State} {m : MethodId} {meth : Method} {c : Code} (h1 : s.methodNamed? y = some m) (h2 : s.vm.method? m = some meth) (h3 : meth.code = some c) (h4 : c.code = bytes)
    (h5 : (c.maxLocals == mx && c.exceptionTable.isEmpty && decide (c.maxStack ≤ mostOperands) && decide (meth.sig.returnType = rt) && !meth.locks && decide (parseMethodDescriptor y.desc = some meth.sig)) = true) : (Jvm.Cond.code y bytes mx rt).before a s = true := by
  simp only [Bool.and_eq_true, beq_iff_eq, Bool.not_eq_true', decide_eq_true_eq] at h5
  obtain ⟨⟨⟨⟨⟨g1, g2⟩, g3⟩, g4⟩, g5⟩, g6⟩ := h5
  simp [Cond.before, Cond.holds, Cond.value, h1, h2, h3, h4, g1, g2, g3, g4, g5, g6]
def isCode : Jvm.Cond → Bool
  | .code _ _ _ _ => true
  | _ => false
theorem all_split {L : List Jvm.Cond} {P : Jvm.Cond → Bool} (h1 : L.all (fun c => isCode c || P c) = true) (h2 : ∀ c ∈ L.filter isCode, P c = true) : L.all P = true := by
  refine List.all_eq_true.mpr fun c hc => ?_
  have h := List.all_eq_true.mp h1 c hc
  rcases Bool.eq_false_or_eq_true (isCode c) with hi | hi
  · exact h2 c (List.mem_filter.mpr ⟨hc, hi⟩)
  · simpa [hi] using h
set_option maxRecDepth 65536 in
theorem w_c0 : (Jvm.Cond.code x code maxLocals ret).before args0 about1 = true := code_word (m := ⟨1, 1⟩) (meth := k1m1) (c := k1c1) (by decide +kernel) rfl rfl rfl (by decide +kernel)
set_option maxRecDepth 65536 in
theorem w_c1 : (Jvm.Cond.code ({ cls := "java/lang/Integer", name := "valueOf", desc := "(I)Ljava/lang/Integer;" } : Jvm.MethodName) jdk_33_method_22_code (1 : Nat) (Option.some (Jvm.ClassFile.FieldType.object "java/lang/Integer"))).before args0 about1 = true := code_word (m := ⟨7, 0⟩) (meth := k7m0) (c := k7c0) (by decide +kernel) rfl rfl rfl (by decide +kernel)
set_option maxRecDepth 65536 in
theorem w_c2 : (Jvm.Cond.code ({ cls := "com/example/willenhall/willenhall/api/ResponseEnvelope", name := "success", desc := "(ILjava/lang/Object;)Lcom/example/willenhall/willenhall/api/ResponseEnvelope;" } : Jvm.MethodName) prog_6_method_2_code (2 : Nat) (Option.some (Jvm.ClassFile.FieldType.object "com/example/willenhall/willenhall/api/ResponseEnvelope"))).before args0 about1 = true := code_word (m := ⟨9, 1⟩) (meth := k9m1) (c := k9c1) (by decide +kernel) rfl rfl rfl (by decide +kernel)
set_option maxRecDepth 65536 in
theorem w_c3 : (Jvm.Cond.code ({ cls := "java/util/List", name := "of", desc := "()Ljava/util/List;" } : Jvm.MethodName) jdk_40_method_36_code (0 : Nat) (Option.some (Jvm.ClassFile.FieldType.object "java/util/List"))).before args0 about1 = true := code_word (m := ⟨13, 1⟩) (meth := k13m1) (c := k13c1) (by decide +kernel) rfl rfl rfl (by decide +kernel)
set_option maxRecDepth 65536 in
theorem w_c4 : (Jvm.Cond.code ({ cls := "com/example/willenhall/willenhall/api/ResponseEnvelope", name := "<init>", desc := "(Ljava/lang/Object;Ljava/util/List;IZ)V" } : Jvm.MethodName) prog_6_method_1_code (5 : Nat) (Option.none : Option Jvm.ClassFile.FieldType)).before args0 about1 = true := code_word (m := ⟨9, 0⟩) (meth := k9m0) (c := k9c0) (by decide +kernel) rfl rfl rfl (by decide +kernel)
set_option maxRecDepth 65536 in
theorem w_c5 : (Jvm.Cond.code ({ cls := "java/lang/Object", name := "<init>", desc := "()V" } : Jvm.MethodName) object_method_1_code (1 : Nat) (Option.none : Option Jvm.ClassFile.FieldType)).before args0 about1 = true := code_word (m := ⟨0, 0⟩) (meth := k0m0) (c := k0c0) (by decide +kernel) rfl rfl rfl (by decide +kernel)
set_option maxRecDepth 65536 in
theorem w_c6 : (Jvm.Cond.code ({ cls := "com/example/willenhall/willenhall/api/ResponseEnvelope", name := "getResult", desc := "()Ljava/lang/Object;" } : Jvm.MethodName) prog_6_method_4_code (1 : Nat) (Option.some (Jvm.ClassFile.FieldType.object "java/lang/Object"))).before args0 about1 = true := code_word (m := ⟨9, 2⟩) (meth := k9m2) (c := k9c2) (by decide +kernel) rfl rfl rfl (by decide +kernel)
set_option maxRecDepth 65536 in
theorem w_c7 : (Jvm.Cond.code ({ cls := "com/example/willenhall/willenhall/api/ResponseEnvelope", name := "getStatusCode", desc := "()I" } : Jvm.MethodName) prog_6_method_6_code (1 : Nat) (Option.some Jvm.ClassFile.FieldType.int)).before args0 about1 = true := code_word (m := ⟨9, 4⟩) (meth := k9m4) (c := k9c4) (by decide +kernel) rfl rfl rfl (by decide +kernel)
set_option maxRecDepth 65536 in
theorem w_c8 : (Jvm.Cond.code ({ cls := "com/example/willenhall/willenhall/api/ResponseEnvelope", name := "isSuccess", desc := "()Z" } : Jvm.MethodName) prog_6_method_7_code (1 : Nat) (Option.some Jvm.ClassFile.FieldType.boolean)).before args0 about1 = true := code_word (m := ⟨9, 5⟩) (meth := k9m5) (c := k9c5) (by decide +kernel) rfl rfl rfl (by decide +kernel)
set_option maxRecDepth 65536 in
theorem w_c9 : (Jvm.Cond.code ({ cls := "com/example/willenhall/willenhall/api/ResponseEnvelope", name := "getErrorMessages", desc := "()Ljava/util/List;" } : Jvm.MethodName) prog_6_method_5_code (1 : Nat) (Option.some (Jvm.ClassFile.FieldType.object "java/util/List"))).before args0 about1 = true := code_word (m := ⟨9, 3⟩) (meth := k9m3) (c := k9c3) (by decide +kernel) rfl rfl rfl (by decide +kernel)
set_option maxRecDepth 65536 in
theorem w_c10 : (Jvm.Cond.code ({ cls := "java/util/ImmutableCollections$ListN", name := "size", desc := "()I" } : Jvm.MethodName) jdk_45_method_3_code (1 : Nat) (Option.some Jvm.ClassFile.FieldType.int)).before args0 about1 = true := code_word (m := ⟨19, 0⟩) (meth := k19m0) (c := k19c0) (by decide +kernel) rfl rfl rfl (by decide +kernel)
set_option maxRecDepth 65536 in
theorem w_c11 : (Jvm.Cond.code ({ cls := "java/lang/Integer", name := "<init>", desc := "(I)V" } : Jvm.MethodName) jdk_33_method_23_code (2 : Nat) (Option.none : Option Jvm.ClassFile.FieldType)).before args0 about1 = true := code_word (m := ⟨7, 1⟩) (meth := k7m1) (c := k7c1) (by decide +kernel) rfl rfl rfl (by decide +kernel)
set_option maxRecDepth 65536 in
theorem w_c12 : (Jvm.Cond.code ({ cls := "java/lang/Number", name := "<init>", desc := "()V" } : Jvm.MethodName) jdk_18_method_1_code (1 : Nat) (Option.none : Option Jvm.ClassFile.FieldType)).before args0 about1 = true := code_word (m := ⟨3, 0⟩) (meth := k3m0) (c := k3c0) (by decide +kernel) rfl rfl rfl (by decide +kernel)
def codes1 : List Jvm.Cond := [Jvm.Cond.code x code maxLocals ret, Jvm.Cond.code ({ cls := "java/lang/Integer", name := "valueOf", desc := "(I)Ljava/lang/Integer;" } : Jvm.MethodName) jdk_33_method_22_code (1 : Nat) (Option.some (Jvm.ClassFile.FieldType.object "java/lang/Integer")), Jvm.Cond.code ({ cls := "com/example/willenhall/willenhall/api/ResponseEnvelope", name := "success", desc := "(ILjava/lang/Object;)Lcom/example/willenhall/willenhall/api/ResponseEnvelope;" } : Jvm.MethodName) prog_6_method_2_code (2 : Nat) (Option.some (Jvm.ClassFile.FieldType.object "com/example/willenhall/willenhall/api/ResponseEnvelope")), Jvm.Cond.code ({ cls := "java/util/List", name := "of", desc := "()Ljava/util/List;" } : Jvm.MethodName) jdk_40_method_36_code (0 : Nat) (Option.some (Jvm.ClassFile.FieldType.object "java/util/List")), Jvm.Cond.code ({ cls := "com/example/willenhall/willenhall/api/ResponseEnvelope", name := "<init>", desc := "(Ljava/lang/Object;Ljava/util/List;IZ)V" } : Jvm.MethodName) prog_6_method_1_code (5 : Nat) (Option.none : Option Jvm.ClassFile.FieldType), Jvm.Cond.code ({ cls := "java/lang/Object", name := "<init>", desc := "()V" } : Jvm.MethodName) object_method_1_code (1 : Nat) (Option.none : Option Jvm.ClassFile.FieldType), Jvm.Cond.code ({ cls := "com/example/willenhall/willenhall/api/ResponseEnvelope", name := "getResult", desc := "()Ljava/lang/Object;" } : Jvm.MethodName) prog_6_method_4_code (1 : Nat) (Option.some (Jvm.ClassFile.FieldType.object "java/lang/Object")), Jvm.Cond.code ({ cls := "com/example/willenhall/willenhall/api/ResponseEnvelope", name := "getStatusCode", desc := "()I" } : Jvm.MethodName) prog_6_method_6_code (1 : Nat) (Option.some Jvm.ClassFile.FieldType.int), Jvm.Cond.code ({ cls := "com/example/willenhall/willenhall/api/ResponseEnvelope", name := "isSuccess", desc := "()Z" } : Jvm.MethodName) prog_6_method_7_code (1 : Nat) (Option.some Jvm.ClassFile.FieldType.boolean), Jvm.Cond.code ({ cls := "com/example/willenhall/willenhall/api/ResponseEnvelope", name := "getErrorMessages", desc := "()Ljava/util/List;" } : Jvm.MethodName) prog_6_method_5_code (1 : Nat) (Option.some (Jvm.ClassFile.FieldType.object "java/util/List")), Jvm.Cond.code ({ cls := "java/util/ImmutableCollections$ListN", name := "size", desc := "()I" } : Jvm.MethodName) jdk_45_method_3_code (1 : Nat) (Option.some Jvm.ClassFile.FieldType.int), Jvm.Cond.code ({ cls := "java/lang/Integer", name := "<init>", desc := "(I)V" } : Jvm.MethodName) jdk_33_method_23_code (2 : Nat) (Option.none : Option Jvm.ClassFile.FieldType), Jvm.Cond.code ({ cls := "java/lang/Number", name := "<init>", desc := "()V" } : Jvm.MethodName) jdk_18_method_1_code (1 : Nat) (Option.none : Option Jvm.ClassFile.FieldType)]
set_option maxRecDepth 65536 in
theorem codes_eq : words1.filter isCode = codes1 := rfl
theorem w_codes : ∀ c ∈ words1.filter isCode, c.before args0 about1 = true := by
  rw [codes_eq]
  intro c hc
  simp only [codes1, List.mem_cons, List.not_mem_nil, or_false] at hc
  rcases hc with rfl | rfl | rfl | rfl | rfl | rfl | rfl | rfl | rfl | rfl | rfl | rfl | rfl
  · exact w_c0
  · exact w_c1
  · exact w_c2
  · exact w_c3
  · exact w_c4
  · exact w_c5
  · exact w_c6
  · exact w_c7
  · exact w_c8
  · exact w_c9
  · exact w_c10
  · exact w_c11
  · exact w_c12
set_option maxRecDepth 65536 in
theorem w_t1 : (words1.take 24).all (fun c => isCode c || c.before args0 about1) = true := by decide +kernel
set_option maxRecDepth 65536 in
theorem w_t2 : ((words1.drop 24).take 24).all (fun c => isCode c || c.before args0 about1) = true := by decide +kernel
set_option maxRecDepth 65536 in
theorem w_t3 : (((words1.drop 24).drop 24).take 24).all (fun c => isCode c || c.before args0 about1) = true := by decide +kernel
set_option maxRecDepth 65536 in
theorem w_t4 : (((words1.drop 24).drop 24).drop 24).all (fun c => isCode c || c.before args0 about1) = true := by decide +kernel
theorem w_tables : (allAtoms (Jvm.Cond.code x code maxLocals ret :: tables_1)).before args0 about1 = true := by
  rw [allAtoms_all]
  show words1.all (fun c => c.before args0 about1) = true
  refine all_split ?_ w_codes
  rw [← List.take_append_drop 24 words1, List.all_append, w_t1, ← List.take_append_drop 24 (words1.drop 24), List.all_append, w_t2, ← List.take_append_drop 24 ((words1.drop 24).drop 24), List.all_append, w_t3, w_t4]
  rfl
set_option maxRecDepth 65536 in
theorem w_rest : rest_1_c.before args0 about1 = true := by decide +kernel
set_option maxRecDepth 65536 in
theorem w_case : (Jvm.Cond.and given_1 narrow_1).before args0 about1 = true := by decide +kernel
theorem w_applies : (headSpec (Jvm.Cond.code x code maxLocals ret :: tables_1) room_1).applies x e0.platform about1 = true :=
  (Spec.applies_iff w_frames).mpr ⟨w_running, w_runnable, w_alone, w_named, w_hears, w_ripe, w_room, w_tables⟩
theorem atStart : AtStart classFile x code maxLocals ret World_1 tables_1 room_1 Calls_1 rest_1 Pre_1 launch0 p0 e0 about1 theMethod args0 below0 :=
  ⟨lists_1, trivial, launch0.admits_env _ _ _, launch0.least_env, fairChoices_fair.cas, fairChoices_fair.clock, w_frames, w_args, w_heap, w_applies, trivial, w_rest, w_case⟩
end start1
theorem witness_1 : WitnessClaimed_1 := ⟨start1.p0, start1.e0, start1.about1, start1.theMethod, start1.args0, start1.below0, start1.atStart⟩
end Jvm.Pilot.@@N@@
