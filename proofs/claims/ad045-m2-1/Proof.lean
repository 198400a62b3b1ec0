import JvmDerived
import JvmDerived.Pilot.@@N@@Statement
import JvmDerived.Pilot.@@N@@Code
set_option linter.unusedVariables false
set_option linter.unusedSimpArgs false
namespace Jvm.RoadKit
open Sem ClassFile Op Lib Jvm.Stand Jvm.Free Jvm.LawKit
section New
variable {p : Program} {l : Launch} {e : Env} {R : Room} {s : State} {m : MethodId} {args : Array Value} {below : List Frame} {meth : Method} {c : Code} {T : State} {locs : List Loc} {cells slots : Nat}
theorem retI (X : Stand p l e R s m args below meth c T locs cells slots) (hx : p.tables.exec = Jvm.exec) {pc : Nat} {Ls : Array Slot} {z : Int32} {rest : List Value} (hret : meth.sig.returnType = some .int) (hd : decode c.code pc = .ok (.ireturn, 1)) {fs : List Frame}
    (hl : ∀ (f : JFrame) (acts : List Action), f.method = m → f.locked = none → f.entered = [] → (doReturn e (T.setTop f) acts (some (.int z))).1 = T.setFrames fs) : Steps p.tables e below (T.setTop (mkF m pc Ls (.int z :: rest))) (T.setFrames fs) :=
  retOut X hx hret rfl (Or.inl ⟨rfl, Or.inl rfl, z, rfl⟩) hd hl
end New
end Jvm.RoadKit
namespace Jvm.Pilot.@@N@@
open Jvm Jvm.ClassFile Sem Op Lib Jvm.Free Jvm.Stand Jvm.LawKit Jvm.RoadKit Bundle Jvm.Pilot.@@N@@.Jvm.D
section Own
variable {Z : State} {h h' : Heap} {a : Addr} {C n d : String} {v : Value} {ws : List Addr}
theorem ow {a0 : Array Value} (hw : ∀ d ∈ tables_1, d.before a0 Z = true) {d : Jvm.Cond} (i : Nat) (h : tables_1[i]? = some d) : d.before a0 Z = true := hw _ (List.mem_of_getElem? h)
abbrev oS (p : Program) (e : Env) (below : List Frame) (T : State) (m : MethodId) (pc : Nat) (Ls : Array Slot) (st : List Value) (t : State) : Prop := Steps p.tables e below (T.setTop (mkF m pc Ls st)) t
theorem own_hide {p : Program} {l : Launch} {e : Env} {R : Room} {s : State} {m : MethodId} {args : Array Value} {below : List Frame} {meth : Method} {c : Code} {T : State} {locs : List Loc} {cells slots k : Nat} (X : Stand p l e R s m args below meth c T locs cells slots) (N : Fr k locs) : ∃ L, Stand p l e R s m args below meth c T L cells slots ∧ Fr k L := ⟨_, X, N⟩
def own_Plain (h : Heap) (a : Addr) : Prop := ∀ cell : Cell, h[a]? = some cell → cell.vm.isStatics = false
theorem own_plain_E (F : Exa Z h a C) : own_Plain h a := fun cell hc => by
  obtain ⟨c1, _, h1, -, -, h4, -⟩ := F
  cases hc.symm.trans h1; exact h4
theorem own_plain_F (F : Fld Z h a C n d v) : own_Plain h a := fun cell hc => by
  obtain ⟨c1, _, _, _, _, h1, -, -, -, h4, -⟩ := F
  cases hc.symm.trans h1; exact h4
theorem own_plain_V {k : ClassId} {ty : FieldType} {z : Int32} {vs : List Value} {dv : Value} (F : Arv Z h a k ty z vs dv) : own_Plain h a := fun cell hc => by
  obtain ⟨c1, A, -⟩ := F
  cases hc.symm.trans A.1; exact A.plain
theorem own_sta_keep (F : Sta Z h C n d v) (K : Keep h h' ws) (q : ∀ x ∈ ws, own_Plain h x) : Sta Z h' C n d v := by
  obtain ⟨cf, i, k, f, st, cell, h1, h2, h3, h4, h5, h6, h7⟩ := F
  exact ⟨cf, i, k, f, st, cell, h1, h2, h3, h4, K.2.1 _ _ h5 (fun hm => by rw [q _ hm _ h5] at h6; cases h6), h6, h7⟩
theorem own_ne_EV {a0 : Array Value} {j : Nat} {b : Addr} {k : ClassId} {ty : FieldType} {z : Int32} {vs : List Value} {dv : Value} (F : Exa Z h a C) (wi : (Jvm.Cond.instantiable C j).before a0 Z = true) (G : Arv Z h b k ty z vs dv) : a ≠ b := by
  obtain ⟨c, A, -⟩ := G
  exact ne_arr F wi A
theorem own_mvM {s : State} {a0 args : Array Value} {own host : String} {y : MethodName} {index : Nat} (hZ : Z.Warmed39 s.vm) (w : (Jvm.Cond.methodLinkNest own index y host).before a0 Z = true) : (Jvm.Cond.methodLinkNest own index y host).before args s = true := (Cond.methodLinkNest_wide hZ w :)
theorem own_arr_keep {c : Cell} {ty : FieldType} (F : Arr Z h a c ty) (K : Keep h h' ws) (q : a ∉ ws) : Arr Z h' a c ty := ⟨K.2.1 _ _ F.1 q, F.2⟩
theorem own_ins_keep {b : Bool} (F : Ins Z h a C b) (K : Keep h h' ws) : Ins Z h' a C b := by
  obtain ⟨cell, cT, h1, h2, h3⟩ := F
  obtain ⟨c', e1, e2, e3, -⟩ := K.2.2 _ _ h1
  exact ⟨c', cT, e1, h2, by rw [e2, e3]; exact h3⟩
end Own
abbrev yN0 : MethodName := ⟨"com/example/ratatoskr/ratatoskr/query/Syntax$CastType", "hasLength", "()Z"⟩
theorem own_mod (x y : Int32) (k : Int) (hy : y.toInt = k) (hk : 0 < k) : 0 ≤ ((x &&& (2147483647 : Int32)) % y).toInt ∧ ((x &&& (2147483647 : Int32)) % y).toInt < k := by
  have h1 := c_mask x (2147483647 : Int32) 31 (by decide) (by decide)
  have h2 : 0 ≤ (x &&& (2147483647 : Int32)).toInt := by rw [h1]; omega
  have h3 := (c_irem (x &&& (2147483647 : Int32)) y k hy).1 h2
  rw [h3]
  exact ⟨Int.emod_nonneg _ (by omega), Int.emod_lt_of_pos _ hk⟩
theorem own_mask (x m : Int32) (k : Nat) (hk : k ≤ 31) (hm : m.toBitVec.toNat = 2 ^ k - 1) : 0 ≤ (x &&& m).toInt ∧ (x &&& m).toInt < (2 ^ k : Nat) := by
  rw [c_mask x m k hk hm]
  exact ⟨Int.emod_nonneg _ (by have := Nat.two_pow_pos k; omega), Int.emod_lt_of_pos _ (by have := Nat.two_pow_pos k; omega)⟩
theorem own_in11 {y : Int32} (h0 : 0 ≤ y.toInt) (h1 : y.toInt < 11) : y = (0 : Int32) ∨ y = (1 : Int32) ∨ y = (2 : Int32) ∨ y = (3 : Int32) ∨ y = (4 : Int32) ∨ y = (5 : Int32) ∨ y = (6 : Int32) ∨ y = (7 : Int32) ∨ y = (8 : Int32) ∨ y = (9 : Int32) ∨ y = (10 : Int32) := by
  have h : y.toInt = 0 ∨ y.toInt = 1 ∨ y.toInt = 2 ∨ y.toInt = 3 ∨ y.toInt = 4 ∨ y.toInt = 5 ∨ y.toInt = 6 ∨ y.toInt = 7 ∨ y.toInt = 8 ∨ y.toInt = 9 ∨ y.toInt = 10 := by omega
  rcases h with h | h | h | h | h | h | h | h | h | h | h
  · exact Or.inl (Int32.toInt_inj.mp (h.trans (by decide)))
  · exact Or.inr (Or.inl (Int32.toInt_inj.mp (h.trans (by decide))))
  · exact Or.inr (Or.inr (Or.inl (Int32.toInt_inj.mp (h.trans (by decide)))))
  · exact Or.inr (Or.inr (Or.inr (Or.inl (Int32.toInt_inj.mp (h.trans (by decide))))))
  · exact Or.inr (Or.inr (Or.inr (Or.inr (Or.inl (Int32.toInt_inj.mp (h.trans (by decide)))))))
  · exact Or.inr (Or.inr (Or.inr (Or.inr (Or.inr (Or.inl (Int32.toInt_inj.mp (h.trans (by decide))))))))
  · exact Or.inr (Or.inr (Or.inr (Or.inr (Or.inr (Or.inr (Or.inl (Int32.toInt_inj.mp (h.trans (by decide)))))))))
  · exact Or.inr (Or.inr (Or.inr (Or.inr (Or.inr (Or.inr (Or.inr (Or.inl (Int32.toInt_inj.mp (h.trans (by decide))))))))))
  · exact Or.inr (Or.inr (Or.inr (Or.inr (Or.inr (Or.inr (Or.inr (Or.inr (Or.inl (Int32.toInt_inj.mp (h.trans (by decide)))))))))))
  · exact Or.inr (Or.inr (Or.inr (Or.inr (Or.inr (Or.inr (Or.inr (Or.inr (Or.inr (Or.inl (Int32.toInt_inj.mp (h.trans (by decide))))))))))))
  · exact Or.inr (Or.inr (Or.inr (Or.inr (Or.inr (Or.inr (Or.inr (Or.inr (Or.inr (Or.inr (Int32.toInt_inj.mp (h.trans (by decide))))))))))))
theorem d1_0 : decode prog_78_method_5_code 0 = .ok (.aload_n 0, 1) := by decide +kernel
theorem d1_1 : decode prog_78_method_5_code 1 = .ok (.getstatic 19, 3) := by decide +kernel
theorem d1_4 : decode prog_78_method_5_code 4 = .ok (.if_acmp .eq 10, 3) := by decide +kernel
theorem d1_14 : decode prog_78_method_5_code 14 = .ok (.iconst 1, 1) := by decide +kernel
theorem d1_15 : decode prog_78_method_5_code 15 = .ok (.goto 4, 3) := by decide +kernel
theorem d1_19 : decode prog_78_method_5_code 19 = .ok (.ireturn, 1) := by decide +kernel
theorem pn_0 : plainName "com/example/ratatoskr/ratatoskr/query/Syntax$CastType" = true := by first | (simp [plainName, overriddenIn]; done) | decide +kernel
theorem ef_hlC (m : MethodId) (pR1 : Addr) : entryFrame m #[(.ref pR1)] 1 = mkF m 0 #[.val (.ref pR1)] [] := by first | (simp [entryFrame, mkF, argsToLocals, Value.category]; done) | rfl
def QhlC (Z : State) (pR1 : Addr) (pR2 : Addr) (h0 : Heap) (n0 : Nat) (v : Option Value) (h : Heap) (L : List Loc) : Prop := v = some (.int (1 : Int32)) ∧ Fr n0 L ∧ h = h0
set_option maxRecDepth 65536 in
set_option maxHeartbeats 40000000 in
theorem hlC (l : Launch) (Z : State) (a0 : Array Value) (hw : ∀ d ∈ tables_1, d.before a0 Z = true) (ws : List Jvm.Cond) (pR1 : Addr) (pR2 : Addr) (h0 : Heap) (n0 : Nat) (Z0 : n0 ≤ h0.size) (S_Syntax_CastType_CHAR : Sta Z h0 "com/example/ratatoskr/ratatoskr/query/Syntax$CastType" "CHAR" "Lcom/example/ratatoskr/ratatoskr/query/Syntax$CastType;" (.ref pR2)) (hc4 : pR1 = pR2) :
    MetFree l yN0 (head1 (Jvm.Cond.code yN0 prog_78_method_5_code 1 (some .boolean) :: ws) ({ frames := 0, cells := 0, slots := 0, locals := 0 } : Room)) (fun a U => a = #[(.ref pR1)] ∧ Z.Warmed39 U.vm ∧ U.heap = h0) (fun _ _ _ _ _ => True) (fun _ U o U' => ∃ v L, o = .returned v ∧ QhlC Z pR1 pR2 h0 n0 v U'.heap L ∧ FrameEnd U o U' L ({ frames := 0, cells := 0, slots := 0, locals := 0 } : Room).cells ({ frames := 0, cells := 0, slots := 0, locals := 0 } : Room).slots) := by
  refine MetFree.of_bodySF (plainFor_of_name pn_0) hisR ?_
  intro p e s m args below meth c s₁ Bd hml0 hP hK
  obtain ⟨rfl, hZ, hh⟩ := hP
  have hx := Bd.exec
  have hby := Bd.bytes
  have hml : c.maxLocals = 1 := hml0
  have hown : s.vm.findClass "com/example/ratatoskr/ratatoskr/query/Syntax$CastType" = some m.cls := findClass_of_methodNamed Bd.named
  have hnm := (name_of_methodNamed Bd.named Bd.method).1
  have X0 : Stand p l e ({ frames := 0, cells := 0, slots := 0, locals := 0 } : Room) s m #[(.ref pR1)] below meth c s₁ [] 0 0 := Stand.of_body Bd
  have e0 : s₁.heap = h0 := by rw [← hh, Bd.state]; rfl
  have N0 := Fr.nil n0
  have pre0 : ∀ t, Steps p.tables e below (s₁.setTop (mkF m 0 #[.val (.ref pR1)] [])) t → Steps p.tables e below (s₁.setTop (entryFrame m #[(.ref pR1)] 1)) t := fun t k => castTop (ef_hlC m pR1) k
  obtain ⟨T3, X3, e3, st3⟩ := getS2 X0 hx hZ hown (host := "") (Or.inl (ow hw 33 rfl)) Via.refl e0 S_Syntax_CastType_CHAR (g := (mkF m 1 #[.val (.ref pR1)] [(.ref pR1)])) rfl (hb hby d1_1)
  obtain ⟨fs, hr, hrun, hended, hW, hsame⟩ := X3.leave (v := some (.int (1 : Int32))) (fun h => by rw [Bd.returns] at h; cases h)
  refine ⟨_, _, pre0 _ ?_, hrun, hended, _, _, rfl, ?_, ⟨_, rfl⟩, hW, hsame.mono (by decide) (by decide)⟩
  · show oS p e below s₁ m 0 #[.val (.ref pR1)] [] _
    refine XS.aloadN X0.here hx rfl (hb hby d1_0) rfl rfl ?_
    refine st3 _ ?_
    refine Jvm.RoadKit.acmp (g := (mkF m 4 #[.val (.ref pR1)] [(.ref pR2), (.ref pR1)])) X3 hx rfl rfl rfl (pc0 := 4) (pc' := 14) (same := true) rfl (hb hby d1_4) rfl (decide_eq_true (congrArg Value.ref hc4)) (by decide) (by decide) ?_
    refine XS.iconst X3.here hx rfl (hb hby d1_14) ?_
    show oS p e below T3 m 15 #[.val (.ref pR1)] [(.int (1 : Int32))] _
    refine XS.goto X3.here hx rfl (pc0 := 15) (pc' := 19) rfl (hb hby d1_15) (by decide) (by decide) ?_
    exact retN X3 hx (t := .boolean) Bd.returns (by simp) (hb hby d1_19) hr
  · show QhlC Z pR1 pR2 h0 n0 _ T3.heap _
    rw [e3]
    exact ⟨rfl, N0, rfl⟩
theorem d1_7 : decode prog_78_method_5_code 7 = .ok (.aload_n 0, 1) := by decide +kernel
theorem d1_8 : decode prog_78_method_5_code 8 = .ok (.getstatic 22, 3) := by decide +kernel
theorem d1_11 : decode prog_78_method_5_code 11 = .ok (.if_acmp .ne 7, 3) := by decide +kernel
theorem ef_hlV (m : MethodId) (pR1 : Addr) : entryFrame m #[(.ref pR1)] 1 = mkF m 0 #[.val (.ref pR1)] [] := by first | (simp [entryFrame, mkF, argsToLocals, Value.category]; done) | rfl
def QhlV (Z : State) (pR1 : Addr) (pR2 : Addr) (pR4 : Addr) (h0 : Heap) (n0 : Nat) (v : Option Value) (h : Heap) (L : List Loc) : Prop := v = some (.int (1 : Int32)) ∧ Fr n0 L ∧ h = h0
set_option maxRecDepth 65536 in
set_option maxHeartbeats 40000000 in
theorem hlV (l : Launch) (Z : State) (a0 : Array Value) (hw : ∀ d ∈ tables_1, d.before a0 Z = true) (ws : List Jvm.Cond) (pR1 : Addr) (pR2 : Addr) (pR4 : Addr) (h0 : Heap) (n0 : Nat) (Z0 : n0 ≤ h0.size) (S_Syntax_CastType_CHAR : Sta Z h0 "com/example/ratatoskr/ratatoskr/query/Syntax$CastType" "CHAR" "Lcom/example/ratatoskr/ratatoskr/query/Syntax$CastType;" (.ref pR2)) (S_Syntax_CastType_VARCHAR : Sta Z h0 "com/example/ratatoskr/ratatoskr/query/Syntax$CastType" "VARCHAR" "Lcom/example/ratatoskr/ratatoskr/query/Syntax$CastType;" (.ref pR4)) (hc4 : pR1 ≠ pR2) (hc11 : pR1 = pR4) :
    MetFree l yN0 (head1 (Jvm.Cond.code yN0 prog_78_method_5_code 1 (some .boolean) :: ws) ({ frames := 0, cells := 0, slots := 0, locals := 0 } : Room)) (fun a U => a = #[(.ref pR1)] ∧ Z.Warmed39 U.vm ∧ U.heap = h0) (fun _ _ _ _ _ => True) (fun _ U o U' => ∃ v L, o = .returned v ∧ QhlV Z pR1 pR2 pR4 h0 n0 v U'.heap L ∧ FrameEnd U o U' L ({ frames := 0, cells := 0, slots := 0, locals := 0 } : Room).cells ({ frames := 0, cells := 0, slots := 0, locals := 0 } : Room).slots) := by
  refine MetFree.of_bodySF (plainFor_of_name pn_0) hisR ?_
  intro p e s m args below meth c s₁ Bd hml0 hP hK
  obtain ⟨rfl, hZ, hh⟩ := hP
  have hx := Bd.exec
  have hby := Bd.bytes
  have hml : c.maxLocals = 1 := hml0
  have hown : s.vm.findClass "com/example/ratatoskr/ratatoskr/query/Syntax$CastType" = some m.cls := findClass_of_methodNamed Bd.named
  have hnm := (name_of_methodNamed Bd.named Bd.method).1
  have X0 : Stand p l e ({ frames := 0, cells := 0, slots := 0, locals := 0 } : Room) s m #[(.ref pR1)] below meth c s₁ [] 0 0 := Stand.of_body Bd
  have e0 : s₁.heap = h0 := by rw [← hh, Bd.state]; rfl
  have N0 := Fr.nil n0
  have pre0 : ∀ t, Steps p.tables e below (s₁.setTop (mkF m 0 #[.val (.ref pR1)] [])) t → Steps p.tables e below (s₁.setTop (entryFrame m #[(.ref pR1)] 1)) t := fun t k => castTop (ef_hlV m pR1) k
  obtain ⟨T3, X3, e3, st3⟩ := getS2 X0 hx hZ hown (host := "") (Or.inl (ow hw 33 rfl)) Via.refl e0 S_Syntax_CastType_CHAR (g := (mkF m 1 #[.val (.ref pR1)] [(.ref pR1)])) rfl (hb hby d1_1)
  obtain ⟨T5, X5, e5, st5⟩ := getS2 X3 hx hZ hown (host := "") (Or.inl (ow hw 34 rfl)) Via.refl e3 S_Syntax_CastType_VARCHAR (g := (mkF m 8 #[.val (.ref pR1)] [(.ref pR1)])) rfl (hb hby d1_8)
  obtain ⟨fs, hr, hrun, hended, hW, hsame⟩ := X5.leave (v := some (.int (1 : Int32))) (fun h => by rw [Bd.returns] at h; cases h)
  refine ⟨_, _, pre0 _ ?_, hrun, hended, _, _, rfl, ?_, ⟨_, rfl⟩, hW, hsame.mono (by decide) (by decide)⟩
  · show oS p e below s₁ m 0 #[.val (.ref pR1)] [] _
    refine XS.aloadN X0.here hx rfl (hb hby d1_0) rfl rfl ?_
    refine st3 _ ?_
    refine Jvm.RoadKit.acmp (g := (mkF m 4 #[.val (.ref pR1)] [(.ref pR2), (.ref pR1)])) X3 hx rfl rfl rfl (pc0 := 4) (pc' := 7) (same := false) rfl (hb hby d1_4) rfl (decide_eq_false fun q => hc4 (Value.ref.inj q)) (by decide) (by decide) ?_
    refine XS.aloadN X3.here hx rfl (hb hby d1_7) rfl rfl ?_
    show oS p e below T3 m 8 #[.val (.ref pR1)] [(.ref pR1)] _
    refine st5 _ ?_
    refine Jvm.RoadKit.acmp (g := (mkF m 11 #[.val (.ref pR1)] [(.ref pR4), (.ref pR1)])) X5 hx rfl rfl rfl (pc0 := 11) (pc' := 14) (same := true) rfl (hb hby d1_11) rfl (decide_eq_true (congrArg Value.ref hc11)) (by decide) (by decide) ?_
    refine XS.iconst X5.here hx rfl (hb hby d1_14) ?_
    refine XS.goto X5.here hx rfl (pc0 := 15) (pc' := 19) rfl (hb hby d1_15) (by decide) (by decide) ?_
    show oS p e below T5 m 19 #[.val (.ref pR1)] [(.int (1 : Int32))] _
    exact retN X5 hx (t := .boolean) Bd.returns (by simp) (hb hby d1_19) hr
  · show QhlV Z pR1 pR2 pR4 h0 n0 _ T5.heap _
    rw [e5]
    exact ⟨rfl, N0, rfl⟩
theorem d1_18 : decode prog_78_method_5_code 18 = .ok (.iconst 0, 1) := by decide +kernel
theorem ef_hlN (m : MethodId) (pR1 : Addr) : entryFrame m #[(.ref pR1)] 1 = mkF m 0 #[.val (.ref pR1)] [] := by first | (simp [entryFrame, mkF, argsToLocals, Value.category]; done) | rfl
def QhlN (Z : State) (pR1 : Addr) (pR2 : Addr) (pR4 : Addr) (h0 : Heap) (n0 : Nat) (v : Option Value) (h : Heap) (L : List Loc) : Prop := v = some (.int (0 : Int32)) ∧ Fr n0 L ∧ h = h0
set_option maxRecDepth 65536 in
set_option maxHeartbeats 40000000 in
theorem hlN (l : Launch) (Z : State) (a0 : Array Value) (hw : ∀ d ∈ tables_1, d.before a0 Z = true) (ws : List Jvm.Cond) (pR1 : Addr) (pR2 : Addr) (pR4 : Addr) (h0 : Heap) (n0 : Nat) (Z0 : n0 ≤ h0.size) (S_Syntax_CastType_CHAR : Sta Z h0 "com/example/ratatoskr/ratatoskr/query/Syntax$CastType" "CHAR" "Lcom/example/ratatoskr/ratatoskr/query/Syntax$CastType;" (.ref pR2)) (S_Syntax_CastType_VARCHAR : Sta Z h0 "com/example/ratatoskr/ratatoskr/query/Syntax$CastType" "VARCHAR" "Lcom/example/ratatoskr/ratatoskr/query/Syntax$CastType;" (.ref pR4)) (hc4 : pR1 ≠ pR2) (hc11 : pR1 ≠ pR4) :
    MetFree l yN0 (head1 (Jvm.Cond.code yN0 prog_78_method_5_code 1 (some .boolean) :: ws) ({ frames := 0, cells := 0, slots := 0, locals := 0 } : Room)) (fun a U => a = #[(.ref pR1)] ∧ Z.Warmed39 U.vm ∧ U.heap = h0) (fun _ _ _ _ _ => True) (fun _ U o U' => ∃ v L, o = .returned v ∧ QhlN Z pR1 pR2 pR4 h0 n0 v U'.heap L ∧ FrameEnd U o U' L ({ frames := 0, cells := 0, slots := 0, locals := 0 } : Room).cells ({ frames := 0, cells := 0, slots := 0, locals := 0 } : Room).slots) := by
  refine MetFree.of_bodySF (plainFor_of_name pn_0) hisR ?_
  intro p e s m args below meth c s₁ Bd hml0 hP hK
  obtain ⟨rfl, hZ, hh⟩ := hP
  have hx := Bd.exec
  have hby := Bd.bytes
  have hml : c.maxLocals = 1 := hml0
  have hown : s.vm.findClass "com/example/ratatoskr/ratatoskr/query/Syntax$CastType" = some m.cls := findClass_of_methodNamed Bd.named
  have hnm := (name_of_methodNamed Bd.named Bd.method).1
  have X0 : Stand p l e ({ frames := 0, cells := 0, slots := 0, locals := 0 } : Room) s m #[(.ref pR1)] below meth c s₁ [] 0 0 := Stand.of_body Bd
  have e0 : s₁.heap = h0 := by rw [← hh, Bd.state]; rfl
  have N0 := Fr.nil n0
  have pre0 : ∀ t, Steps p.tables e below (s₁.setTop (mkF m 0 #[.val (.ref pR1)] [])) t → Steps p.tables e below (s₁.setTop (entryFrame m #[(.ref pR1)] 1)) t := fun t k => castTop (ef_hlN m pR1) k
  obtain ⟨T3, X3, e3, st3⟩ := getS2 X0 hx hZ hown (host := "") (Or.inl (ow hw 33 rfl)) Via.refl e0 S_Syntax_CastType_CHAR (g := (mkF m 1 #[.val (.ref pR1)] [(.ref pR1)])) rfl (hb hby d1_1)
  obtain ⟨T5, X5, e5, st5⟩ := getS2 X3 hx hZ hown (host := "") (Or.inl (ow hw 34 rfl)) Via.refl e3 S_Syntax_CastType_VARCHAR (g := (mkF m 8 #[.val (.ref pR1)] [(.ref pR1)])) rfl (hb hby d1_8)
  obtain ⟨fs, hr, hrun, hended, hW, hsame⟩ := X5.leave (v := some (.int (0 : Int32))) (fun h => by rw [Bd.returns] at h; cases h)
  refine ⟨_, _, pre0 _ ?_, hrun, hended, _, _, rfl, ?_, ⟨_, rfl⟩, hW, hsame.mono (by decide) (by decide)⟩
  · show oS p e below s₁ m 0 #[.val (.ref pR1)] [] _
    refine XS.aloadN X0.here hx rfl (hb hby d1_0) rfl rfl ?_
    refine st3 _ ?_
    refine Jvm.RoadKit.acmp (g := (mkF m 4 #[.val (.ref pR1)] [(.ref pR2), (.ref pR1)])) X3 hx rfl rfl rfl (pc0 := 4) (pc' := 7) (same := false) rfl (hb hby d1_4) rfl (decide_eq_false fun q => hc4 (Value.ref.inj q)) (by decide) (by decide) ?_
    refine XS.aloadN X3.here hx rfl (hb hby d1_7) rfl rfl ?_
    show oS p e below T3 m 8 #[.val (.ref pR1)] [(.ref pR1)] _
    refine st5 _ ?_
    refine Jvm.RoadKit.acmp (g := (mkF m 11 #[.val (.ref pR1)] [(.ref pR4), (.ref pR1)])) X5 hx rfl rfl rfl (pc0 := 11) (pc' := 18) (same := false) rfl (hb hby d1_11) rfl (decide_eq_false fun q => hc11 (Value.ref.inj q)) (by decide) (by decide) ?_
    refine XS.iconst X5.here hx rfl (hb hby d1_18) ?_
    exact retN X5 hx (t := .boolean) Bd.returns (by simp) (hb hby d1_19) hr
  · show QhlN Z pR1 pR2 pR4 h0 n0 _ T5.heap _
    rw [e5]
    exact ⟨rfl, N0, rfl⟩
theorem pd_0 : parseMethodDescriptor "()Z" = some ⟨[], some .boolean⟩ := by decide +kernel
theorem pn_1 : plainName "com/example/ratatoskr/ratatoskr/query/CastTypeHasLengthPinLaw" = true := by first | (simp [plainName, overriddenIn]; done) | decide +kernel
theorem ef_lawC (m : MethodId) (pI1 : Int32) : entryFrame m #[(.int pI1)] maxLocals = mkF m 0 #[.val (.int pI1), .unset, .unset, .unset] [] := by first | (simp [entryFrame, mkF, argsToLocals, Value.category, maxLocals]; done) | rfl
def QlawC (Z : State) (pI1 : Int32) (pR5 : Addr) (pR15 : Addr) (pR26 : Addr) (pR39 : Addr) (pR54 : Addr) (pR71 : Addr) (pR90 : Addr) (pR111 : Addr) (pR134 : Addr) (pR159 : Addr) (pR186 : Addr) (pR900 : Addr) (pI901 : Int32) (h0 : Heap) (n0 : Nat) (v : Option Value) (h : Heap) (L : List Loc) : Prop := v = some (.int (1 : Int32)) ∧ Fr n0 L
set_option maxRecDepth 65536 in
set_option maxHeartbeats 40000000 in
theorem lawC (l : Launch) (Z : State) (a0 : Array Value) (hw : ∀ d ∈ tables_1, d.before a0 Z = true) (ws : List Jvm.Cond) (pI1 : Int32) (pR5 : Addr) (pR15 : Addr) (pR26 : Addr) (pR39 : Addr) (pR54 : Addr) (pR71 : Addr) (pR90 : Addr) (pR111 : Addr) (pR134 : Addr) (pR159 : Addr) (pR186 : Addr) (pR900 : Addr) (pI901 : Int32) (h0 : Heap) (n0 : Nat) (Z0 : n0 ≤ h0.size) (S_Syntax_CastType_SMALLINT : Sta Z h0 "com/example/ratatoskr/ratatoskr/query/Syntax$CastType" "SMALLINT" "Lcom/example/ratatoskr/ratatoskr/query/Syntax$CastType;" (.ref pR5)) (E_pR5 : Exa Z h0 pR5 "com/example/ratatoskr/ratatoskr/query/Syntax$CastType") (S_Syntax_CastType_INTEGER : Sta Z h0 "com/example/ratatoskr/ratatoskr/query/Syntax$CastType" "INTEGER" "Lcom/example/ratatoskr/ratatoskr/query/Syntax$CastType;" (.ref pR15)) (E_pR15 : Exa Z h0 pR15 "com/example/ratatoskr/ratatoskr/query/Syntax$CastType") (S_Syntax_CastType_BIGINT : Sta Z h0 "com/example/ratatoskr/ratatoskr/query/Syntax$CastType" "BIGINT" "Lcom/example/ratatoskr/ratatoskr/query/Syntax$CastType;" (.ref pR26)) (E_pR26 : Exa Z h0 pR26 "com/example/ratatoskr/ratatoskr/query/Syntax$CastType") (S_Syntax_CastType_REAL : Sta Z h0 "com/example/ratatoskr/ratatoskr/query/Syntax$CastType" "REAL" "Lcom/example/ratatoskr/ratatoskr/query/Syntax$CastType;" (.ref pR39)) (E_pR39 : Exa Z h0 pR39 "com/example/ratatoskr/ratatoskr/query/Syntax$CastType") (S_Syntax_CastType_DOUBLE : Sta Z h0 "com/example/ratatoskr/ratatoskr/query/Syntax$CastType" "DOUBLE" "Lcom/example/ratatoskr/ratatoskr/query/Syntax$CastType;" (.ref pR54)) (E_pR54 : Exa Z h0 pR54 "com/example/ratatoskr/ratatoskr/query/Syntax$CastType") (S_Syntax_CastType_CHAR : Sta Z h0 "com/example/ratatoskr/ratatoskr/query/Syntax$CastType" "CHAR" "Lcom/example/ratatoskr/ratatoskr/query/Syntax$CastType;" (.ref pR71)) (E_pR71 : Exa Z h0 pR71 "com/example/ratatoskr/ratatoskr/query/Syntax$CastType") (S_Syntax_CastType_VARCHAR : Sta Z h0 "com/example/ratatoskr/ratatoskr/query/Syntax$CastType" "VARCHAR" "Lcom/example/ratatoskr/ratatoskr/query/Syntax$CastType;" (.ref pR90)) (E_pR90 : Exa Z h0 pR90 "com/example/ratatoskr/ratatoskr/query/Syntax$CastType") (S_Syntax_CastType_TIMESTAMP : Sta Z h0 "com/example/ratatoskr/ratatoskr/query/Syntax$CastType" "TIMESTAMP" "Lcom/example/ratatoskr/ratatoskr/query/Syntax$CastType;" (.ref pR111)) (E_pR111 : Exa Z h0 pR111 "com/example/ratatoskr/ratatoskr/query/Syntax$CastType") (S_Syntax_CastType_POINT : Sta Z h0 "com/example/ratatoskr/ratatoskr/query/Syntax$CastType" "POINT" "Lcom/example/ratatoskr/ratatoskr/query/Syntax$CastType;" (.ref pR134)) (E_pR134 : Exa Z h0 pR134 "com/example/ratatoskr/ratatoskr/query/Syntax$CastType") (S_Syntax_CastType_CIRCLE : Sta Z h0 "com/example/ratatoskr/ratatoskr/query/Syntax$CastType" "CIRCLE" "Lcom/example/ratatoskr/ratatoskr/query/Syntax$CastType;" (.ref pR159)) (E_pR159 : Exa Z h0 pR159 "com/example/ratatoskr/ratatoskr/query/Syntax$CastType") (S_Syntax_CastType_POLYGON : Sta Z h0 "com/example/ratatoskr/ratatoskr/query/Syntax$CastType" "POLYGON" "Lcom/example/ratatoskr/ratatoskr/query/Syntax$CastType;" (.ref pR186)) (E_pR186 : Exa Z h0 pR186 "com/example/ratatoskr/ratatoskr/query/Syntax$CastType") (E_pR900 : Exa Z h0 pR900 "com/example/ratatoskr/ratatoskr/query/Syntax$CastType") (hc141 : ¬ (((pI1 &&& (2147483647 : Int32)) % (11 : Int32)) < (0 : Int32))) (hc141' : ((pI1 &&& (2147483647 : Int32)) % (11 : Int32)) < (11 : Int32)) (hc141'' : ([(.ref pR5), (.ref pR15), (.ref pR26), (.ref pR39), (.ref pR54), (.ref pR71), (.ref pR90), (.ref pR111), (.ref pR134), (.ref pR159), (.ref pR186)] : List Value).getD (((pI1 &&& (2147483647 : Int32)) % (11 : Int32))).toNatClampNeg .null = (.ref pR900)) (hc142 : pR900 = pR71) (hc147 : ([(.int (0 : Int32)), (.int (0 : Int32)), (.int (0 : Int32)), (.int (0 : Int32)), (.int (0 : Int32)), (.int (1 : Int32)), (.int (1 : Int32)), (.int (0 : Int32)), (.int (0 : Int32)), (.int (0 : Int32)), (.int (0 : Int32))] : List Value).getD (((pI1 &&& (2147483647 : Int32)) % (11 : Int32))).toNatClampNeg (.int (0 : Int32)) = (.int pI901)) (hc148 : (1 : Int32) = pI901) :
    MetFree l x (head1 (Jvm.Cond.code x code maxLocals ret :: ws) room_1) (fun a U => a = #[(.int pI1)] ∧ Z.Warmed39 U.vm ∧ U.heap = h0) (fun _ _ _ _ _ => True) (fun _ U o U' => ∃ v L, o = .returned v ∧ QlawC Z pI1 pR5 pR15 pR26 pR39 pR54 pR71 pR90 pR111 pR134 pR159 pR186 pR900 pI901 h0 n0 v U'.heap L ∧ FrameEnd U o U' L room_1.cells room_1.slots) := by
  refine MetFree.of_bodySF (plainFor_of_name pn_1) hisR ?_
  intro p e s m args below meth c s₁ Bd hml0 hP hK
  obtain ⟨rfl, hZ, hh⟩ := hP
  have hx := Bd.exec
  have hby := Bd.bytes
  have hml : c.maxLocals = 4 := hml0
  have hown : s.vm.findClass "com/example/ratatoskr/ratatoskr/query/CastTypeHasLengthPinLaw" = some m.cls := findClass_of_methodNamed Bd.named
  have hnm := (name_of_methodNamed Bd.named Bd.method).1
  have X0 : Stand p l e room_1 s m #[(.int pI1)] below meth c s₁ [] 0 0 := Stand.of_body Bd
  have e0 : s₁.heap = h0 := by rw [← hh, Bd.state]; rfl
  have N0 := Fr.nil n0
  have pre0 : ∀ t, Steps p.tables e below (s₁.setTop (mkF m 0 #[.val (.int pI1), .unset, .unset, .unset] [])) t → Steps p.tables e below (s₁.setTop (entryFrame m #[(.int pI1)] maxLocals)) t := fun t k => castTop (ef_lawC m pI1) k
  obtain ⟨T2, h2, k2, X2, e2, E2, A2, O2, st2⟩ := newR X0 hx hZ hown (ow hw 0 rfl) (ow hw 1 rfl) e0 (g := (mkF m 2 #[.val (.int pI1), .unset, .unset, .unset] [(.int (11 : Int32))])) rfl (hb hby at_2) rfl (by decide) (cap := 11) (by decide) (by decide) (by decide) (by decide)
  obtain ⟨bR2, g2⟩ : ∃ z, z = h0.size := ⟨_, rfl⟩
  rw [← g2] at A2 st2
  have Z4 : n0 ≤ h2.size := (Nat.le_trans Z0 E2.1)
  have V2 : Arv Z h2 bR2 k2 (.object "com/example/ratatoskr/ratatoskr/query/Syntax$CastType") (11 : Int32) [.null, .null, .null, .null, .null, .null, .null, .null, .null, .null, .null] .null := (Arv.new A2 (by decide)).pad (pad_rep [] .null 11)
  have c6 : Sta Z h2 "com/example/ratatoskr/ratatoskr/query/Syntax$CastType" "SMALLINT" "Lcom/example/ratatoskr/ratatoskr/query/Syntax$CastType;" (.ref pR5) := S_Syntax_CastType_SMALLINT.ext E2
  obtain ⟨T7, X7, e7, st7⟩ := getS2 X2 hx hZ hown (host := "") (Or.inl (ow hw 2 rfl)) Via.refl e2 c6 (g := (mkF m 7 #[.val (.int pI1), .unset, .unset, .unset] [(.int (0 : Int32)), (.ref bR2), (.ref bR2)])) rfl (hb hby at_7)
  have g8 : n0 ≤ bR2 := Nat.le_trans Z0 (Nat.le_of_eq g2.symm)
  obtain ⟨clq9, Arq9, Akq9, Asq9, Anq9, Ahq9, Agq9⟩ := V2
  have hin10 : ¬ ((0 : Int32) < 0 ∨ clq9.slots.size ≤ ((0 : Int32)).toNatClampNeg) := inb_of Asq9 ⟨by decide, by decide⟩
  have c11 : Exa Z h2 pR5 "com/example/ratatoskr/ratatoskr/query/Syntax$CastType" := E_pR5.ext E2
  obtain ⟨T12, h12, X12, e12, W12, st12⟩ := stR X7 hx hZ e7 Arq9 (j := (0 : Int32)) hin10 rfl (Sto.ofV Arq9 Akq9 O2 (Ins.self c11)) (g := (mkF m 10 #[.val (.int pI1), .unset, .unset, .unset] [(.ref pR5), (.int (0 : Int32)), (.ref bR2), (.ref bR2)])) rfl rfl (hb hby at_10)
  have Z14 : n0 ≤ h12.size := (Nat.le_trans Z4 (Keep.of_wr W12).1)
  have N12 := Fr.snoc X12 N0 g8
  obtain ⟨Lh12, X12, N12⟩ := own_hide X12 N12
  have V12 : Arv Z h12 bR2 k2 (.object "com/example/ratatoskr/ratatoskr/query/Syntax$CastType") (11 : Int32) [(.ref pR5), .null, .null, .null, .null, .null, .null, .null, .null, .null, .null] .null := Arv.set Arq9 Akq9 Asq9 Anq9 Ahq9 Agq9 rfl W12 0 rfl (Nat.le_of_ble_eq_true rfl)
  have c16 : Sta Z h2 "com/example/ratatoskr/ratatoskr/query/Syntax$CastType" "INTEGER" "Lcom/example/ratatoskr/ratatoskr/query/Syntax$CastType;" (.ref pR15) := S_Syntax_CastType_INTEGER.ext E2
  have c17 : Sta Z h12 "com/example/ratatoskr/ratatoskr/query/Syntax$CastType" "INTEGER" "Lcom/example/ratatoskr/ratatoskr/query/Syntax$CastType;" (.ref pR15) := c16.wr W12
  obtain ⟨T18, X18, e18, st18⟩ := getS2 X12 hx hZ hown (host := "") (Or.inl (ow hw 6 rfl)) Via.refl e12 c17 (g := (mkF m 13 #[.val (.int pI1), .unset, .unset, .unset] [(.int (1 : Int32)), (.ref bR2), (.ref bR2)])) rfl (hb hby at_13)
  obtain ⟨clq19, Arq19, Akq19, Asq19, Anq19, Ahq19, Agq19⟩ := V12
  have hin20 : ¬ ((1 : Int32) < 0 ∨ clq19.slots.size ≤ ((1 : Int32)).toNatClampNeg) := inb_of Asq19 ⟨by decide, by decide⟩
  have c21 : Exa Z h2 pR15 "com/example/ratatoskr/ratatoskr/query/Syntax$CastType" := E_pR15.ext E2
  have c22 : Exa Z h12 pR15 "com/example/ratatoskr/ratatoskr/query/Syntax$CastType" := c21.wr W12
  obtain ⟨T23, h23, X23, e23, W23, st23⟩ := stR X18 hx hZ e18 Arq19 (j := (1 : Int32)) hin20 rfl (Sto.ofV Arq19 Akq19 O2 (Ins.self c22)) (g := (mkF m 16 #[.val (.int pI1), .unset, .unset, .unset] [(.ref pR15), (.int (1 : Int32)), (.ref bR2), (.ref bR2)])) rfl rfl (hb hby at_16)
  have Z25 : n0 ≤ h23.size := (Nat.le_trans Z14 (Keep.of_wr W23).1)
  have N23 := Fr.snoc X23 N12 g8
  obtain ⟨Lh23, X23, N23⟩ := own_hide X23 N23
  have V23 : Arv Z h23 bR2 k2 (.object "com/example/ratatoskr/ratatoskr/query/Syntax$CastType") (11 : Int32) [(.ref pR5), (.ref pR15), .null, .null, .null, .null, .null, .null, .null, .null, .null] .null := Arv.set Arq19 Akq19 Asq19 Anq19 Ahq19 Agq19 rfl W23 1 rfl (Nat.le_of_ble_eq_true rfl)
  have c27 : Sta Z h2 "com/example/ratatoskr/ratatoskr/query/Syntax$CastType" "BIGINT" "Lcom/example/ratatoskr/ratatoskr/query/Syntax$CastType;" (.ref pR26) := S_Syntax_CastType_BIGINT.ext E2
  have c28 : Sta Z h12 "com/example/ratatoskr/ratatoskr/query/Syntax$CastType" "BIGINT" "Lcom/example/ratatoskr/ratatoskr/query/Syntax$CastType;" (.ref pR26) := c27.wr W12
  have c29 : Sta Z h23 "com/example/ratatoskr/ratatoskr/query/Syntax$CastType" "BIGINT" "Lcom/example/ratatoskr/ratatoskr/query/Syntax$CastType;" (.ref pR26) := c28.wr W23
  obtain ⟨T30, X30, e30, st30⟩ := getS2 X23 hx hZ hown (host := "") (Or.inl (ow hw 8 rfl)) Via.refl e23 c29 (g := (mkF m 19 #[.val (.int pI1), .unset, .unset, .unset] [(.int (2 : Int32)), (.ref bR2), (.ref bR2)])) rfl (hb hby at_19)
  obtain ⟨clq31, Arq31, Akq31, Asq31, Anq31, Ahq31, Agq31⟩ := V23
  have hin32 : ¬ ((2 : Int32) < 0 ∨ clq31.slots.size ≤ ((2 : Int32)).toNatClampNeg) := inb_of Asq31 ⟨by decide, by decide⟩
  have c33 : Exa Z h2 pR26 "com/example/ratatoskr/ratatoskr/query/Syntax$CastType" := E_pR26.ext E2
  have c34 : Exa Z h12 pR26 "com/example/ratatoskr/ratatoskr/query/Syntax$CastType" := c33.wr W12
  have c35 : Exa Z h23 pR26 "com/example/ratatoskr/ratatoskr/query/Syntax$CastType" := c34.wr W23
  obtain ⟨T36, h36, X36, e36, W36, st36⟩ := stR X30 hx hZ e30 Arq31 (j := (2 : Int32)) hin32 rfl (Sto.ofV Arq31 Akq31 O2 (Ins.self c35)) (g := (mkF m 22 #[.val (.int pI1), .unset, .unset, .unset] [(.ref pR26), (.int (2 : Int32)), (.ref bR2), (.ref bR2)])) rfl rfl (hb hby at_22)
  have Z38 : n0 ≤ h36.size := (Nat.le_trans Z25 (Keep.of_wr W36).1)
  have N36 := Fr.snoc X36 N23 g8
  obtain ⟨Lh36, X36, N36⟩ := own_hide X36 N36
  have V36 : Arv Z h36 bR2 k2 (.object "com/example/ratatoskr/ratatoskr/query/Syntax$CastType") (11 : Int32) [(.ref pR5), (.ref pR15), (.ref pR26), .null, .null, .null, .null, .null, .null, .null, .null] .null := Arv.set Arq31 Akq31 Asq31 Anq31 Ahq31 Agq31 rfl W36 2 rfl (Nat.le_of_ble_eq_true rfl)
  have c40 : Sta Z h2 "com/example/ratatoskr/ratatoskr/query/Syntax$CastType" "REAL" "Lcom/example/ratatoskr/ratatoskr/query/Syntax$CastType;" (.ref pR39) := S_Syntax_CastType_REAL.ext E2
  have c41 : Sta Z h12 "com/example/ratatoskr/ratatoskr/query/Syntax$CastType" "REAL" "Lcom/example/ratatoskr/ratatoskr/query/Syntax$CastType;" (.ref pR39) := c40.wr W12
  have c42 : Sta Z h23 "com/example/ratatoskr/ratatoskr/query/Syntax$CastType" "REAL" "Lcom/example/ratatoskr/ratatoskr/query/Syntax$CastType;" (.ref pR39) := c41.wr W23
  have c43 : Sta Z h36 "com/example/ratatoskr/ratatoskr/query/Syntax$CastType" "REAL" "Lcom/example/ratatoskr/ratatoskr/query/Syntax$CastType;" (.ref pR39) := c42.wr W36
  obtain ⟨T44, X44, e44, st44⟩ := getS2 X36 hx hZ hown (host := "") (Or.inl (ow hw 10 rfl)) Via.refl e36 c43 (g := (mkF m 25 #[.val (.int pI1), .unset, .unset, .unset] [(.int (3 : Int32)), (.ref bR2), (.ref bR2)])) rfl (hb hby at_25)
  obtain ⟨clq45, Arq45, Akq45, Asq45, Anq45, Ahq45, Agq45⟩ := V36
  have hin46 : ¬ ((3 : Int32) < 0 ∨ clq45.slots.size ≤ ((3 : Int32)).toNatClampNeg) := inb_of Asq45 ⟨by decide, by decide⟩
  have c47 : Exa Z h2 pR39 "com/example/ratatoskr/ratatoskr/query/Syntax$CastType" := E_pR39.ext E2
  have c48 : Exa Z h12 pR39 "com/example/ratatoskr/ratatoskr/query/Syntax$CastType" := c47.wr W12
  have c49 : Exa Z h23 pR39 "com/example/ratatoskr/ratatoskr/query/Syntax$CastType" := c48.wr W23
  have c50 : Exa Z h36 pR39 "com/example/ratatoskr/ratatoskr/query/Syntax$CastType" := c49.wr W36
  obtain ⟨T51, h51, X51, e51, W51, st51⟩ := stR X44 hx hZ e44 Arq45 (j := (3 : Int32)) hin46 rfl (Sto.ofV Arq45 Akq45 O2 (Ins.self c50)) (g := (mkF m 28 #[.val (.int pI1), .unset, .unset, .unset] [(.ref pR39), (.int (3 : Int32)), (.ref bR2), (.ref bR2)])) rfl rfl (hb hby at_28)
  have Z53 : n0 ≤ h51.size := (Nat.le_trans Z38 (Keep.of_wr W51).1)
  have N51 := Fr.snoc X51 N36 g8
  obtain ⟨Lh51, X51, N51⟩ := own_hide X51 N51
  have V51 : Arv Z h51 bR2 k2 (.object "com/example/ratatoskr/ratatoskr/query/Syntax$CastType") (11 : Int32) [(.ref pR5), (.ref pR15), (.ref pR26), (.ref pR39), .null, .null, .null, .null, .null, .null, .null] .null := Arv.set Arq45 Akq45 Asq45 Anq45 Ahq45 Agq45 rfl W51 3 rfl (Nat.le_of_ble_eq_true rfl)
  have c55 : Sta Z h2 "com/example/ratatoskr/ratatoskr/query/Syntax$CastType" "DOUBLE" "Lcom/example/ratatoskr/ratatoskr/query/Syntax$CastType;" (.ref pR54) := S_Syntax_CastType_DOUBLE.ext E2
  have c56 : Sta Z h12 "com/example/ratatoskr/ratatoskr/query/Syntax$CastType" "DOUBLE" "Lcom/example/ratatoskr/ratatoskr/query/Syntax$CastType;" (.ref pR54) := c55.wr W12
  have c57 : Sta Z h23 "com/example/ratatoskr/ratatoskr/query/Syntax$CastType" "DOUBLE" "Lcom/example/ratatoskr/ratatoskr/query/Syntax$CastType;" (.ref pR54) := c56.wr W23
  have c58 : Sta Z h36 "com/example/ratatoskr/ratatoskr/query/Syntax$CastType" "DOUBLE" "Lcom/example/ratatoskr/ratatoskr/query/Syntax$CastType;" (.ref pR54) := c57.wr W36
  have c59 : Sta Z h51 "com/example/ratatoskr/ratatoskr/query/Syntax$CastType" "DOUBLE" "Lcom/example/ratatoskr/ratatoskr/query/Syntax$CastType;" (.ref pR54) := c58.wr W51
  obtain ⟨T60, X60, e60, st60⟩ := getS2 X51 hx hZ hown (host := "") (Or.inl (ow hw 12 rfl)) Via.refl e51 c59 (g := (mkF m 31 #[.val (.int pI1), .unset, .unset, .unset] [(.int (4 : Int32)), (.ref bR2), (.ref bR2)])) rfl (hb hby at_31)
  obtain ⟨clq61, Arq61, Akq61, Asq61, Anq61, Ahq61, Agq61⟩ := V51
  have hin62 : ¬ ((4 : Int32) < 0 ∨ clq61.slots.size ≤ ((4 : Int32)).toNatClampNeg) := inb_of Asq61 ⟨by decide, by decide⟩
  have c63 : Exa Z h2 pR54 "com/example/ratatoskr/ratatoskr/query/Syntax$CastType" := E_pR54.ext E2
  have c64 : Exa Z h12 pR54 "com/example/ratatoskr/ratatoskr/query/Syntax$CastType" := c63.wr W12
  have c65 : Exa Z h23 pR54 "com/example/ratatoskr/ratatoskr/query/Syntax$CastType" := c64.wr W23
  have c66 : Exa Z h36 pR54 "com/example/ratatoskr/ratatoskr/query/Syntax$CastType" := c65.wr W36
  have c67 : Exa Z h51 pR54 "com/example/ratatoskr/ratatoskr/query/Syntax$CastType" := c66.wr W51
  obtain ⟨T68, h68, X68, e68, W68, st68⟩ := stR X60 hx hZ e60 Arq61 (j := (4 : Int32)) hin62 rfl (Sto.ofV Arq61 Akq61 O2 (Ins.self c67)) (g := (mkF m 34 #[.val (.int pI1), .unset, .unset, .unset] [(.ref pR54), (.int (4 : Int32)), (.ref bR2), (.ref bR2)])) rfl rfl (hb hby at_34)
  have Z70 : n0 ≤ h68.size := (Nat.le_trans Z53 (Keep.of_wr W68).1)
  have N68 := Fr.snoc X68 N51 g8
  obtain ⟨Lh68, X68, N68⟩ := own_hide X68 N68
  have V68 : Arv Z h68 bR2 k2 (.object "com/example/ratatoskr/ratatoskr/query/Syntax$CastType") (11 : Int32) [(.ref pR5), (.ref pR15), (.ref pR26), (.ref pR39), (.ref pR54), .null, .null, .null, .null, .null, .null] .null := Arv.set Arq61 Akq61 Asq61 Anq61 Ahq61 Agq61 rfl W68 4 rfl (Nat.le_of_ble_eq_true rfl)
  have c72 : Sta Z h2 "com/example/ratatoskr/ratatoskr/query/Syntax$CastType" "CHAR" "Lcom/example/ratatoskr/ratatoskr/query/Syntax$CastType;" (.ref pR71) := S_Syntax_CastType_CHAR.ext E2
  have c73 : Sta Z h12 "com/example/ratatoskr/ratatoskr/query/Syntax$CastType" "CHAR" "Lcom/example/ratatoskr/ratatoskr/query/Syntax$CastType;" (.ref pR71) := c72.wr W12
  have c74 : Sta Z h23 "com/example/ratatoskr/ratatoskr/query/Syntax$CastType" "CHAR" "Lcom/example/ratatoskr/ratatoskr/query/Syntax$CastType;" (.ref pR71) := c73.wr W23
  have c75 : Sta Z h36 "com/example/ratatoskr/ratatoskr/query/Syntax$CastType" "CHAR" "Lcom/example/ratatoskr/ratatoskr/query/Syntax$CastType;" (.ref pR71) := c74.wr W36
  have c76 : Sta Z h51 "com/example/ratatoskr/ratatoskr/query/Syntax$CastType" "CHAR" "Lcom/example/ratatoskr/ratatoskr/query/Syntax$CastType;" (.ref pR71) := c75.wr W51
  have c77 : Sta Z h68 "com/example/ratatoskr/ratatoskr/query/Syntax$CastType" "CHAR" "Lcom/example/ratatoskr/ratatoskr/query/Syntax$CastType;" (.ref pR71) := c76.wr W68
  obtain ⟨T78, X78, e78, st78⟩ := getS2 X68 hx hZ hown (host := "") (Or.inl (ow hw 14 rfl)) Via.refl e68 c77 (g := (mkF m 37 #[.val (.int pI1), .unset, .unset, .unset] [(.int (5 : Int32)), (.ref bR2), (.ref bR2)])) rfl (hb hby at_37)
  obtain ⟨clq79, Arq79, Akq79, Asq79, Anq79, Ahq79, Agq79⟩ := V68
  have hin80 : ¬ ((5 : Int32) < 0 ∨ clq79.slots.size ≤ ((5 : Int32)).toNatClampNeg) := inb_of Asq79 ⟨by decide, by decide⟩
  have c81 : Exa Z h2 pR71 "com/example/ratatoskr/ratatoskr/query/Syntax$CastType" := E_pR71.ext E2
  have c82 : Exa Z h12 pR71 "com/example/ratatoskr/ratatoskr/query/Syntax$CastType" := c81.wr W12
  have c83 : Exa Z h23 pR71 "com/example/ratatoskr/ratatoskr/query/Syntax$CastType" := c82.wr W23
  have c84 : Exa Z h36 pR71 "com/example/ratatoskr/ratatoskr/query/Syntax$CastType" := c83.wr W36
  have c85 : Exa Z h51 pR71 "com/example/ratatoskr/ratatoskr/query/Syntax$CastType" := c84.wr W51
  have c86 : Exa Z h68 pR71 "com/example/ratatoskr/ratatoskr/query/Syntax$CastType" := c85.wr W68
  obtain ⟨T87, h87, X87, e87, W87, st87⟩ := stR X78 hx hZ e78 Arq79 (j := (5 : Int32)) hin80 rfl (Sto.ofV Arq79 Akq79 O2 (Ins.self c86)) (g := (mkF m 40 #[.val (.int pI1), .unset, .unset, .unset] [(.ref pR71), (.int (5 : Int32)), (.ref bR2), (.ref bR2)])) rfl rfl (hb hby at_40)
  have Z89 : n0 ≤ h87.size := (Nat.le_trans Z70 (Keep.of_wr W87).1)
  have N87 := Fr.snoc X87 N68 g8
  obtain ⟨Lh87, X87, N87⟩ := own_hide X87 N87
  have V87 : Arv Z h87 bR2 k2 (.object "com/example/ratatoskr/ratatoskr/query/Syntax$CastType") (11 : Int32) [(.ref pR5), (.ref pR15), (.ref pR26), (.ref pR39), (.ref pR54), (.ref pR71), .null, .null, .null, .null, .null] .null := Arv.set Arq79 Akq79 Asq79 Anq79 Ahq79 Agq79 rfl W87 5 rfl (Nat.le_of_ble_eq_true rfl)
  have c91 : Sta Z h2 "com/example/ratatoskr/ratatoskr/query/Syntax$CastType" "VARCHAR" "Lcom/example/ratatoskr/ratatoskr/query/Syntax$CastType;" (.ref pR90) := S_Syntax_CastType_VARCHAR.ext E2
  have c92 : Sta Z h12 "com/example/ratatoskr/ratatoskr/query/Syntax$CastType" "VARCHAR" "Lcom/example/ratatoskr/ratatoskr/query/Syntax$CastType;" (.ref pR90) := c91.wr W12
  have c93 : Sta Z h23 "com/example/ratatoskr/ratatoskr/query/Syntax$CastType" "VARCHAR" "Lcom/example/ratatoskr/ratatoskr/query/Syntax$CastType;" (.ref pR90) := c92.wr W23
  have c94 : Sta Z h36 "com/example/ratatoskr/ratatoskr/query/Syntax$CastType" "VARCHAR" "Lcom/example/ratatoskr/ratatoskr/query/Syntax$CastType;" (.ref pR90) := c93.wr W36
  have c95 : Sta Z h51 "com/example/ratatoskr/ratatoskr/query/Syntax$CastType" "VARCHAR" "Lcom/example/ratatoskr/ratatoskr/query/Syntax$CastType;" (.ref pR90) := c94.wr W51
  have c96 : Sta Z h68 "com/example/ratatoskr/ratatoskr/query/Syntax$CastType" "VARCHAR" "Lcom/example/ratatoskr/ratatoskr/query/Syntax$CastType;" (.ref pR90) := c95.wr W68
  have c97 : Sta Z h87 "com/example/ratatoskr/ratatoskr/query/Syntax$CastType" "VARCHAR" "Lcom/example/ratatoskr/ratatoskr/query/Syntax$CastType;" (.ref pR90) := c96.wr W87
  obtain ⟨T98, X98, e98, st98⟩ := getS2 X87 hx hZ hown (host := "") (Or.inl (ow hw 16 rfl)) Via.refl e87 c97 (g := (mkF m 44 #[.val (.int pI1), .unset, .unset, .unset] [(.int (6 : Int32)), (.ref bR2), (.ref bR2)])) rfl (hb hby at_44)
  obtain ⟨clq99, Arq99, Akq99, Asq99, Anq99, Ahq99, Agq99⟩ := V87
  have hin100 : ¬ ((6 : Int32) < 0 ∨ clq99.slots.size ≤ ((6 : Int32)).toNatClampNeg) := inb_of Asq99 ⟨by decide, by decide⟩
  have c101 : Exa Z h2 pR90 "com/example/ratatoskr/ratatoskr/query/Syntax$CastType" := E_pR90.ext E2
  have c102 : Exa Z h12 pR90 "com/example/ratatoskr/ratatoskr/query/Syntax$CastType" := c101.wr W12
  have c103 : Exa Z h23 pR90 "com/example/ratatoskr/ratatoskr/query/Syntax$CastType" := c102.wr W23
  have c104 : Exa Z h36 pR90 "com/example/ratatoskr/ratatoskr/query/Syntax$CastType" := c103.wr W36
  have c105 : Exa Z h51 pR90 "com/example/ratatoskr/ratatoskr/query/Syntax$CastType" := c104.wr W51
  have c106 : Exa Z h68 pR90 "com/example/ratatoskr/ratatoskr/query/Syntax$CastType" := c105.wr W68
  have c107 : Exa Z h87 pR90 "com/example/ratatoskr/ratatoskr/query/Syntax$CastType" := c106.wr W87
  obtain ⟨T108, h108, X108, e108, W108, st108⟩ := stR X98 hx hZ e98 Arq99 (j := (6 : Int32)) hin100 rfl (Sto.ofV Arq99 Akq99 O2 (Ins.self c107)) (g := (mkF m 47 #[.val (.int pI1), .unset, .unset, .unset] [(.ref pR90), (.int (6 : Int32)), (.ref bR2), (.ref bR2)])) rfl rfl (hb hby at_47)
  have Z110 : n0 ≤ h108.size := (Nat.le_trans Z89 (Keep.of_wr W108).1)
  have N108 := Fr.snoc X108 N87 g8
  obtain ⟨Lh108, X108, N108⟩ := own_hide X108 N108
  have V108 : Arv Z h108 bR2 k2 (.object "com/example/ratatoskr/ratatoskr/query/Syntax$CastType") (11 : Int32) [(.ref pR5), (.ref pR15), (.ref pR26), (.ref pR39), (.ref pR54), (.ref pR71), (.ref pR90), .null, .null, .null, .null] .null := Arv.set Arq99 Akq99 Asq99 Anq99 Ahq99 Agq99 rfl W108 6 rfl (Nat.le_of_ble_eq_true rfl)
  have c112 : Sta Z h2 "com/example/ratatoskr/ratatoskr/query/Syntax$CastType" "TIMESTAMP" "Lcom/example/ratatoskr/ratatoskr/query/Syntax$CastType;" (.ref pR111) := S_Syntax_CastType_TIMESTAMP.ext E2
  have c113 : Sta Z h12 "com/example/ratatoskr/ratatoskr/query/Syntax$CastType" "TIMESTAMP" "Lcom/example/ratatoskr/ratatoskr/query/Syntax$CastType;" (.ref pR111) := c112.wr W12
  have c114 : Sta Z h23 "com/example/ratatoskr/ratatoskr/query/Syntax$CastType" "TIMESTAMP" "Lcom/example/ratatoskr/ratatoskr/query/Syntax$CastType;" (.ref pR111) := c113.wr W23
  have c115 : Sta Z h36 "com/example/ratatoskr/ratatoskr/query/Syntax$CastType" "TIMESTAMP" "Lcom/example/ratatoskr/ratatoskr/query/Syntax$CastType;" (.ref pR111) := c114.wr W36
  have c116 : Sta Z h51 "com/example/ratatoskr/ratatoskr/query/Syntax$CastType" "TIMESTAMP" "Lcom/example/ratatoskr/ratatoskr/query/Syntax$CastType;" (.ref pR111) := c115.wr W51
  have c117 : Sta Z h68 "com/example/ratatoskr/ratatoskr/query/Syntax$CastType" "TIMESTAMP" "Lcom/example/ratatoskr/ratatoskr/query/Syntax$CastType;" (.ref pR111) := c116.wr W68
  have c118 : Sta Z h87 "com/example/ratatoskr/ratatoskr/query/Syntax$CastType" "TIMESTAMP" "Lcom/example/ratatoskr/ratatoskr/query/Syntax$CastType;" (.ref pR111) := c117.wr W87
  have c119 : Sta Z h108 "com/example/ratatoskr/ratatoskr/query/Syntax$CastType" "TIMESTAMP" "Lcom/example/ratatoskr/ratatoskr/query/Syntax$CastType;" (.ref pR111) := c118.wr W108
  obtain ⟨T120, X120, e120, st120⟩ := getS2 X108 hx hZ hown (host := "") (Or.inl (ow hw 18 rfl)) Via.refl e108 c119 (g := (mkF m 51 #[.val (.int pI1), .unset, .unset, .unset] [(.int (7 : Int32)), (.ref bR2), (.ref bR2)])) rfl (hb hby at_51)
  obtain ⟨clq121, Arq121, Akq121, Asq121, Anq121, Ahq121, Agq121⟩ := V108
  have hin122 : ¬ ((7 : Int32) < 0 ∨ clq121.slots.size ≤ ((7 : Int32)).toNatClampNeg) := inb_of Asq121 ⟨by decide, by decide⟩
  have c123 : Exa Z h2 pR111 "com/example/ratatoskr/ratatoskr/query/Syntax$CastType" := E_pR111.ext E2
  have c124 : Exa Z h12 pR111 "com/example/ratatoskr/ratatoskr/query/Syntax$CastType" := c123.wr W12
  have c125 : Exa Z h23 pR111 "com/example/ratatoskr/ratatoskr/query/Syntax$CastType" := c124.wr W23
  have c126 : Exa Z h36 pR111 "com/example/ratatoskr/ratatoskr/query/Syntax$CastType" := c125.wr W36
  have c127 : Exa Z h51 pR111 "com/example/ratatoskr/ratatoskr/query/Syntax$CastType" := c126.wr W51
  have c128 : Exa Z h68 pR111 "com/example/ratatoskr/ratatoskr/query/Syntax$CastType" := c127.wr W68
  have c129 : Exa Z h87 pR111 "com/example/ratatoskr/ratatoskr/query/Syntax$CastType" := c128.wr W87
  have c130 : Exa Z h108 pR111 "com/example/ratatoskr/ratatoskr/query/Syntax$CastType" := c129.wr W108
  obtain ⟨T131, h131, X131, e131, W131, st131⟩ := stR X120 hx hZ e120 Arq121 (j := (7 : Int32)) hin122 rfl (Sto.ofV Arq121 Akq121 O2 (Ins.self c130)) (g := (mkF m 54 #[.val (.int pI1), .unset, .unset, .unset] [(.ref pR111), (.int (7 : Int32)), (.ref bR2), (.ref bR2)])) rfl rfl (hb hby at_54)
  have Z133 : n0 ≤ h131.size := (Nat.le_trans Z110 (Keep.of_wr W131).1)
  have N131 := Fr.snoc X131 N108 g8
  obtain ⟨Lh131, X131, N131⟩ := own_hide X131 N131
  have V131 : Arv Z h131 bR2 k2 (.object "com/example/ratatoskr/ratatoskr/query/Syntax$CastType") (11 : Int32) [(.ref pR5), (.ref pR15), (.ref pR26), (.ref pR39), (.ref pR54), (.ref pR71), (.ref pR90), (.ref pR111), .null, .null, .null] .null := Arv.set Arq121 Akq121 Asq121 Anq121 Ahq121 Agq121 rfl W131 7 rfl (Nat.le_of_ble_eq_true rfl)
  have c135 : Sta Z h2 "com/example/ratatoskr/ratatoskr/query/Syntax$CastType" "POINT" "Lcom/example/ratatoskr/ratatoskr/query/Syntax$CastType;" (.ref pR134) := S_Syntax_CastType_POINT.ext E2
  have c136 : Sta Z h12 "com/example/ratatoskr/ratatoskr/query/Syntax$CastType" "POINT" "Lcom/example/ratatoskr/ratatoskr/query/Syntax$CastType;" (.ref pR134) := c135.wr W12
  have c137 : Sta Z h23 "com/example/ratatoskr/ratatoskr/query/Syntax$CastType" "POINT" "Lcom/example/ratatoskr/ratatoskr/query/Syntax$CastType;" (.ref pR134) := c136.wr W23
  have c138 : Sta Z h36 "com/example/ratatoskr/ratatoskr/query/Syntax$CastType" "POINT" "Lcom/example/ratatoskr/ratatoskr/query/Syntax$CastType;" (.ref pR134) := c137.wr W36
  have c139 : Sta Z h51 "com/example/ratatoskr/ratatoskr/query/Syntax$CastType" "POINT" "Lcom/example/ratatoskr/ratatoskr/query/Syntax$CastType;" (.ref pR134) := c138.wr W51
  have c140 : Sta Z h68 "com/example/ratatoskr/ratatoskr/query/Syntax$CastType" "POINT" "Lcom/example/ratatoskr/ratatoskr/query/Syntax$CastType;" (.ref pR134) := c139.wr W68
  have c141 : Sta Z h87 "com/example/ratatoskr/ratatoskr/query/Syntax$CastType" "POINT" "Lcom/example/ratatoskr/ratatoskr/query/Syntax$CastType;" (.ref pR134) := c140.wr W87
  have c142 : Sta Z h108 "com/example/ratatoskr/ratatoskr/query/Syntax$CastType" "POINT" "Lcom/example/ratatoskr/ratatoskr/query/Syntax$CastType;" (.ref pR134) := c141.wr W108
  have c143 : Sta Z h131 "com/example/ratatoskr/ratatoskr/query/Syntax$CastType" "POINT" "Lcom/example/ratatoskr/ratatoskr/query/Syntax$CastType;" (.ref pR134) := c142.wr W131
  obtain ⟨T144, X144, e144, st144⟩ := getS2 X131 hx hZ hown (host := "") (Or.inl (ow hw 20 rfl)) Via.refl e131 c143 (g := (mkF m 58 #[.val (.int pI1), .unset, .unset, .unset] [(.int (8 : Int32)), (.ref bR2), (.ref bR2)])) rfl (hb hby at_58)
  obtain ⟨clq145, Arq145, Akq145, Asq145, Anq145, Ahq145, Agq145⟩ := V131
  have hin146 : ¬ ((8 : Int32) < 0 ∨ clq145.slots.size ≤ ((8 : Int32)).toNatClampNeg) := inb_of Asq145 ⟨by decide, by decide⟩
  have c147 : Exa Z h2 pR134 "com/example/ratatoskr/ratatoskr/query/Syntax$CastType" := E_pR134.ext E2
  have c148 : Exa Z h12 pR134 "com/example/ratatoskr/ratatoskr/query/Syntax$CastType" := c147.wr W12
  have c149 : Exa Z h23 pR134 "com/example/ratatoskr/ratatoskr/query/Syntax$CastType" := c148.wr W23
  have c150 : Exa Z h36 pR134 "com/example/ratatoskr/ratatoskr/query/Syntax$CastType" := c149.wr W36
  have c151 : Exa Z h51 pR134 "com/example/ratatoskr/ratatoskr/query/Syntax$CastType" := c150.wr W51
  have c152 : Exa Z h68 pR134 "com/example/ratatoskr/ratatoskr/query/Syntax$CastType" := c151.wr W68
  have c153 : Exa Z h87 pR134 "com/example/ratatoskr/ratatoskr/query/Syntax$CastType" := c152.wr W87
  have c154 : Exa Z h108 pR134 "com/example/ratatoskr/ratatoskr/query/Syntax$CastType" := c153.wr W108
  have c155 : Exa Z h131 pR134 "com/example/ratatoskr/ratatoskr/query/Syntax$CastType" := c154.wr W131
  obtain ⟨T156, h156, X156, e156, W156, st156⟩ := stR X144 hx hZ e144 Arq145 (j := (8 : Int32)) hin146 rfl (Sto.ofV Arq145 Akq145 O2 (Ins.self c155)) (g := (mkF m 61 #[.val (.int pI1), .unset, .unset, .unset] [(.ref pR134), (.int (8 : Int32)), (.ref bR2), (.ref bR2)])) rfl rfl (hb hby at_61)
  have Z158 : n0 ≤ h156.size := (Nat.le_trans Z133 (Keep.of_wr W156).1)
  have N156 := Fr.snoc X156 N131 g8
  obtain ⟨Lh156, X156, N156⟩ := own_hide X156 N156
  have V156 : Arv Z h156 bR2 k2 (.object "com/example/ratatoskr/ratatoskr/query/Syntax$CastType") (11 : Int32) [(.ref pR5), (.ref pR15), (.ref pR26), (.ref pR39), (.ref pR54), (.ref pR71), (.ref pR90), (.ref pR111), (.ref pR134), .null, .null] .null := Arv.set Arq145 Akq145 Asq145 Anq145 Ahq145 Agq145 rfl W156 8 rfl (Nat.le_of_ble_eq_true rfl)
  have c160 : Sta Z h2 "com/example/ratatoskr/ratatoskr/query/Syntax$CastType" "CIRCLE" "Lcom/example/ratatoskr/ratatoskr/query/Syntax$CastType;" (.ref pR159) := S_Syntax_CastType_CIRCLE.ext E2
  have c161 : Sta Z h12 "com/example/ratatoskr/ratatoskr/query/Syntax$CastType" "CIRCLE" "Lcom/example/ratatoskr/ratatoskr/query/Syntax$CastType;" (.ref pR159) := c160.wr W12
  have c162 : Sta Z h23 "com/example/ratatoskr/ratatoskr/query/Syntax$CastType" "CIRCLE" "Lcom/example/ratatoskr/ratatoskr/query/Syntax$CastType;" (.ref pR159) := c161.wr W23
  have c163 : Sta Z h36 "com/example/ratatoskr/ratatoskr/query/Syntax$CastType" "CIRCLE" "Lcom/example/ratatoskr/ratatoskr/query/Syntax$CastType;" (.ref pR159) := c162.wr W36
  have c164 : Sta Z h51 "com/example/ratatoskr/ratatoskr/query/Syntax$CastType" "CIRCLE" "Lcom/example/ratatoskr/ratatoskr/query/Syntax$CastType;" (.ref pR159) := c163.wr W51
  have c165 : Sta Z h68 "com/example/ratatoskr/ratatoskr/query/Syntax$CastType" "CIRCLE" "Lcom/example/ratatoskr/ratatoskr/query/Syntax$CastType;" (.ref pR159) := c164.wr W68
  have c166 : Sta Z h87 "com/example/ratatoskr/ratatoskr/query/Syntax$CastType" "CIRCLE" "Lcom/example/ratatoskr/ratatoskr/query/Syntax$CastType;" (.ref pR159) := c165.wr W87
  have c167 : Sta Z h108 "com/example/ratatoskr/ratatoskr/query/Syntax$CastType" "CIRCLE" "Lcom/example/ratatoskr/ratatoskr/query/Syntax$CastType;" (.ref pR159) := c166.wr W108
  have c168 : Sta Z h131 "com/example/ratatoskr/ratatoskr/query/Syntax$CastType" "CIRCLE" "Lcom/example/ratatoskr/ratatoskr/query/Syntax$CastType;" (.ref pR159) := c167.wr W131
  have c169 : Sta Z h156 "com/example/ratatoskr/ratatoskr/query/Syntax$CastType" "CIRCLE" "Lcom/example/ratatoskr/ratatoskr/query/Syntax$CastType;" (.ref pR159) := c168.wr W156
  obtain ⟨T170, X170, e170, st170⟩ := getS2 X156 hx hZ hown (host := "") (Or.inl (ow hw 22 rfl)) Via.refl e156 c169 (g := (mkF m 65 #[.val (.int pI1), .unset, .unset, .unset] [(.int (9 : Int32)), (.ref bR2), (.ref bR2)])) rfl (hb hby at_65)
  obtain ⟨clq171, Arq171, Akq171, Asq171, Anq171, Ahq171, Agq171⟩ := V156
  have hin172 : ¬ ((9 : Int32) < 0 ∨ clq171.slots.size ≤ ((9 : Int32)).toNatClampNeg) := inb_of Asq171 ⟨by decide, by decide⟩
  have c173 : Exa Z h2 pR159 "com/example/ratatoskr/ratatoskr/query/Syntax$CastType" := E_pR159.ext E2
  have c174 : Exa Z h12 pR159 "com/example/ratatoskr/ratatoskr/query/Syntax$CastType" := c173.wr W12
  have c175 : Exa Z h23 pR159 "com/example/ratatoskr/ratatoskr/query/Syntax$CastType" := c174.wr W23
  have c176 : Exa Z h36 pR159 "com/example/ratatoskr/ratatoskr/query/Syntax$CastType" := c175.wr W36
  have c177 : Exa Z h51 pR159 "com/example/ratatoskr/ratatoskr/query/Syntax$CastType" := c176.wr W51
  have c178 : Exa Z h68 pR159 "com/example/ratatoskr/ratatoskr/query/Syntax$CastType" := c177.wr W68
  have c179 : Exa Z h87 pR159 "com/example/ratatoskr/ratatoskr/query/Syntax$CastType" := c178.wr W87
  have c180 : Exa Z h108 pR159 "com/example/ratatoskr/ratatoskr/query/Syntax$CastType" := c179.wr W108
  have c181 : Exa Z h131 pR159 "com/example/ratatoskr/ratatoskr/query/Syntax$CastType" := c180.wr W131
  have c182 : Exa Z h156 pR159 "com/example/ratatoskr/ratatoskr/query/Syntax$CastType" := c181.wr W156
  obtain ⟨T183, h183, X183, e183, W183, st183⟩ := stR X170 hx hZ e170 Arq171 (j := (9 : Int32)) hin172 rfl (Sto.ofV Arq171 Akq171 O2 (Ins.self c182)) (g := (mkF m 68 #[.val (.int pI1), .unset, .unset, .unset] [(.ref pR159), (.int (9 : Int32)), (.ref bR2), (.ref bR2)])) rfl rfl (hb hby at_68)
  have Z185 : n0 ≤ h183.size := (Nat.le_trans Z158 (Keep.of_wr W183).1)
  have N183 := Fr.snoc X183 N156 g8
  obtain ⟨Lh183, X183, N183⟩ := own_hide X183 N183
  have V183 : Arv Z h183 bR2 k2 (.object "com/example/ratatoskr/ratatoskr/query/Syntax$CastType") (11 : Int32) [(.ref pR5), (.ref pR15), (.ref pR26), (.ref pR39), (.ref pR54), (.ref pR71), (.ref pR90), (.ref pR111), (.ref pR134), (.ref pR159), .null] .null := Arv.set Arq171 Akq171 Asq171 Anq171 Ahq171 Agq171 rfl W183 9 rfl (Nat.le_of_ble_eq_true rfl)
  have c187 : Sta Z h2 "com/example/ratatoskr/ratatoskr/query/Syntax$CastType" "POLYGON" "Lcom/example/ratatoskr/ratatoskr/query/Syntax$CastType;" (.ref pR186) := S_Syntax_CastType_POLYGON.ext E2
  have c188 : Sta Z h12 "com/example/ratatoskr/ratatoskr/query/Syntax$CastType" "POLYGON" "Lcom/example/ratatoskr/ratatoskr/query/Syntax$CastType;" (.ref pR186) := c187.wr W12
  have c189 : Sta Z h23 "com/example/ratatoskr/ratatoskr/query/Syntax$CastType" "POLYGON" "Lcom/example/ratatoskr/ratatoskr/query/Syntax$CastType;" (.ref pR186) := c188.wr W23
  have c190 : Sta Z h36 "com/example/ratatoskr/ratatoskr/query/Syntax$CastType" "POLYGON" "Lcom/example/ratatoskr/ratatoskr/query/Syntax$CastType;" (.ref pR186) := c189.wr W36
  have c191 : Sta Z h51 "com/example/ratatoskr/ratatoskr/query/Syntax$CastType" "POLYGON" "Lcom/example/ratatoskr/ratatoskr/query/Syntax$CastType;" (.ref pR186) := c190.wr W51
  have c192 : Sta Z h68 "com/example/ratatoskr/ratatoskr/query/Syntax$CastType" "POLYGON" "Lcom/example/ratatoskr/ratatoskr/query/Syntax$CastType;" (.ref pR186) := c191.wr W68
  have c193 : Sta Z h87 "com/example/ratatoskr/ratatoskr/query/Syntax$CastType" "POLYGON" "Lcom/example/ratatoskr/ratatoskr/query/Syntax$CastType;" (.ref pR186) := c192.wr W87
  have c194 : Sta Z h108 "com/example/ratatoskr/ratatoskr/query/Syntax$CastType" "POLYGON" "Lcom/example/ratatoskr/ratatoskr/query/Syntax$CastType;" (.ref pR186) := c193.wr W108
  have c195 : Sta Z h131 "com/example/ratatoskr/ratatoskr/query/Syntax$CastType" "POLYGON" "Lcom/example/ratatoskr/ratatoskr/query/Syntax$CastType;" (.ref pR186) := c194.wr W131
  have c196 : Sta Z h156 "com/example/ratatoskr/ratatoskr/query/Syntax$CastType" "POLYGON" "Lcom/example/ratatoskr/ratatoskr/query/Syntax$CastType;" (.ref pR186) := c195.wr W156
  have c197 : Sta Z h183 "com/example/ratatoskr/ratatoskr/query/Syntax$CastType" "POLYGON" "Lcom/example/ratatoskr/ratatoskr/query/Syntax$CastType;" (.ref pR186) := c196.wr W183
  obtain ⟨T198, X198, e198, st198⟩ := getS2 X183 hx hZ hown (host := "") (Or.inl (ow hw 24 rfl)) Via.refl e183 c197 (g := (mkF m 72 #[.val (.int pI1), .unset, .unset, .unset] [(.int (10 : Int32)), (.ref bR2), (.ref bR2)])) rfl (hb hby at_72)
  obtain ⟨clq199, Arq199, Akq199, Asq199, Anq199, Ahq199, Agq199⟩ := V183
  have hin200 : ¬ ((10 : Int32) < 0 ∨ clq199.slots.size ≤ ((10 : Int32)).toNatClampNeg) := inb_of Asq199 ⟨by decide, by decide⟩
  have c201 : Exa Z h2 pR186 "com/example/ratatoskr/ratatoskr/query/Syntax$CastType" := E_pR186.ext E2
  have c202 : Exa Z h12 pR186 "com/example/ratatoskr/ratatoskr/query/Syntax$CastType" := c201.wr W12
  have c203 : Exa Z h23 pR186 "com/example/ratatoskr/ratatoskr/query/Syntax$CastType" := c202.wr W23
  have c204 : Exa Z h36 pR186 "com/example/ratatoskr/ratatoskr/query/Syntax$CastType" := c203.wr W36
  have c205 : Exa Z h51 pR186 "com/example/ratatoskr/ratatoskr/query/Syntax$CastType" := c204.wr W51
  have c206 : Exa Z h68 pR186 "com/example/ratatoskr/ratatoskr/query/Syntax$CastType" := c205.wr W68
  have c207 : Exa Z h87 pR186 "com/example/ratatoskr/ratatoskr/query/Syntax$CastType" := c206.wr W87
  have c208 : Exa Z h108 pR186 "com/example/ratatoskr/ratatoskr/query/Syntax$CastType" := c207.wr W108
  have c209 : Exa Z h131 pR186 "com/example/ratatoskr/ratatoskr/query/Syntax$CastType" := c208.wr W131
  have c210 : Exa Z h156 pR186 "com/example/ratatoskr/ratatoskr/query/Syntax$CastType" := c209.wr W156
  have c211 : Exa Z h183 pR186 "com/example/ratatoskr/ratatoskr/query/Syntax$CastType" := c210.wr W183
  obtain ⟨T212, h212, X212, e212, W212, st212⟩ := stR X198 hx hZ e198 Arq199 (j := (10 : Int32)) hin200 rfl (Sto.ofV Arq199 Akq199 O2 (Ins.self c211)) (g := (mkF m 75 #[.val (.int pI1), .unset, .unset, .unset] [(.ref pR186), (.int (10 : Int32)), (.ref bR2), (.ref bR2)])) rfl rfl (hb hby at_75)
  have Z214 : n0 ≤ h212.size := (Nat.le_trans Z185 (Keep.of_wr W212).1)
  have N212 := Fr.snoc X212 N183 g8
  obtain ⟨Lh212, X212, N212⟩ := own_hide X212 N212
  have V212 : Arv Z h212 bR2 k2 (.object "com/example/ratatoskr/ratatoskr/query/Syntax$CastType") (11 : Int32) [(.ref pR5), (.ref pR15), (.ref pR26), (.ref pR39), (.ref pR54), (.ref pR71), (.ref pR90), (.ref pR111), (.ref pR134), (.ref pR159), (.ref pR186)] .null := Arv.set Arq199 Akq199 Asq199 Anq199 Ahq199 Agq199 rfl W212 10 rfl (Nat.le_of_ble_eq_true rfl)
  obtain ⟨T215, h215, k215, X215, e215, E215, A215, st215⟩ := newP X212 hx hZ (ow hw 26 rfl) e212 (g := (mkF m 79 #[.val (.int pI1), .val (.ref bR2), .unset, .unset] [(.int (11 : Int32))])) rfl (hb hby at_79) rfl (by decide) (cap := 11) (by decide) (by decide) (by decide) (by decide)
  obtain ⟨bR215, g215⟩ : ∃ z, z = h212.size := ⟨_, rfl⟩
  rw [← g215] at A215 st215
  have Z217 : n0 ≤ h215.size := (Nat.le_trans Z214 E215.1)
  have V215 : Arv Z h215 bR215 k215 .boolean (11 : Int32) [(.int (0 : Int32)), (.int (0 : Int32)), (.int (0 : Int32)), (.int (0 : Int32)), (.int (0 : Int32)), (.int (0 : Int32)), (.int (0 : Int32)), (.int (0 : Int32)), (.int (0 : Int32)), (.int (0 : Int32)), (.int (0 : Int32))] (.int (0 : Int32)) := (Arv.new A215 (by decide)).pad (pad_rep [] (.int (0 : Int32)) 11)
  have g218 : n0 ≤ bR215 := Nat.le_trans Z214 (Nat.le_of_eq g215.symm)
  obtain ⟨clq219, Arq219, Akq219, Asq219, Anq219, Ahq219, Agq219⟩ := V215
  have hin220 : ¬ ((0 : Int32) < 0 ∨ clq219.slots.size ≤ ((0 : Int32)).toNatClampNeg) := inb_of Asq219 ⟨by decide, by decide⟩
  obtain ⟨T221, h221, X221, e221, W221, st221⟩ := stZ X215 hx hZ e215 Arq219 (j := (0 : Int32)) hin220 (g := (mkF m 84 #[.val (.int pI1), .val (.ref bR2), .unset, .unset] [(.int (0 : Int32)), (.int (0 : Int32)), (.ref bR215), (.ref bR215)])) rfl rfl (hb hby at_84)
  have Z223 : n0 ≤ h221.size := (Nat.le_trans Z217 (Keep.of_wr W221).1)
  have N221 := Fr.snoc X221 N212 g218
  obtain ⟨Lh221, X221, N221⟩ := own_hide X221 N221
  have V221 : Arv Z h221 bR215 k215 .boolean (11 : Int32) [(.int (0 : Int32)), (.int (0 : Int32)), (.int (0 : Int32)), (.int (0 : Int32)), (.int (0 : Int32)), (.int (0 : Int32)), (.int (0 : Int32)), (.int (0 : Int32)), (.int (0 : Int32)), (.int (0 : Int32)), (.int (0 : Int32))] (.int (0 : Int32)) := Arv.set Arq219 Akq219 Asq219 Anq219 Ahq219 Agq219 (by first | rfl | exact fits_nar_bool _) W221 0 rfl (Nat.le_of_ble_eq_true rfl)
  obtain ⟨clq224, Arq224, Akq224, Asq224, Anq224, Ahq224, Agq224⟩ := V221
  have hin225 : ¬ ((1 : Int32) < 0 ∨ clq224.slots.size ≤ ((1 : Int32)).toNatClampNeg) := inb_of Asq224 ⟨by decide, by decide⟩
  obtain ⟨T226, h226, X226, e226, W226, st226⟩ := stZ X221 hx hZ e221 Arq224 (j := (1 : Int32)) hin225 (g := (mkF m 88 #[.val (.int pI1), .val (.ref bR2), .unset, .unset] [(.int (0 : Int32)), (.int (1 : Int32)), (.ref bR215), (.ref bR215)])) rfl rfl (hb hby at_88)
  have Z228 : n0 ≤ h226.size := (Nat.le_trans Z223 (Keep.of_wr W226).1)
  have N226 := Fr.snoc X226 N221 g218
  obtain ⟨Lh226, X226, N226⟩ := own_hide X226 N226
  have V226 : Arv Z h226 bR215 k215 .boolean (11 : Int32) [(.int (0 : Int32)), (.int (0 : Int32)), (.int (0 : Int32)), (.int (0 : Int32)), (.int (0 : Int32)), (.int (0 : Int32)), (.int (0 : Int32)), (.int (0 : Int32)), (.int (0 : Int32)), (.int (0 : Int32)), (.int (0 : Int32))] (.int (0 : Int32)) := Arv.set Arq224 Akq224 Asq224 Anq224 Ahq224 Agq224 (by first | rfl | exact fits_nar_bool _) W226 1 rfl (Nat.le_of_ble_eq_true rfl)
  obtain ⟨clq229, Arq229, Akq229, Asq229, Anq229, Ahq229, Agq229⟩ := V226
  have hin230 : ¬ ((2 : Int32) < 0 ∨ clq229.slots.size ≤ ((2 : Int32)).toNatClampNeg) := inb_of Asq229 ⟨by decide, by decide⟩
  obtain ⟨T231, h231, X231, e231, W231, st231⟩ := stZ X226 hx hZ e226 Arq229 (j := (2 : Int32)) hin230 (g := (mkF m 92 #[.val (.int pI1), .val (.ref bR2), .unset, .unset] [(.int (0 : Int32)), (.int (2 : Int32)), (.ref bR215), (.ref bR215)])) rfl rfl (hb hby at_92)
  have Z233 : n0 ≤ h231.size := (Nat.le_trans Z228 (Keep.of_wr W231).1)
  have N231 := Fr.snoc X231 N226 g218
  obtain ⟨Lh231, X231, N231⟩ := own_hide X231 N231
  have V231 : Arv Z h231 bR215 k215 .boolean (11 : Int32) [(.int (0 : Int32)), (.int (0 : Int32)), (.int (0 : Int32)), (.int (0 : Int32)), (.int (0 : Int32)), (.int (0 : Int32)), (.int (0 : Int32)), (.int (0 : Int32)), (.int (0 : Int32)), (.int (0 : Int32)), (.int (0 : Int32))] (.int (0 : Int32)) := Arv.set Arq229 Akq229 Asq229 Anq229 Ahq229 Agq229 (by first | rfl | exact fits_nar_bool _) W231 2 rfl (Nat.le_of_ble_eq_true rfl)
  obtain ⟨clq234, Arq234, Akq234, Asq234, Anq234, Ahq234, Agq234⟩ := V231
  have hin235 : ¬ ((3 : Int32) < 0 ∨ clq234.slots.size ≤ ((3 : Int32)).toNatClampNeg) := inb_of Asq234 ⟨by decide, by decide⟩
  obtain ⟨T236, h236, X236, e236, W236, st236⟩ := stZ X231 hx hZ e231 Arq234 (j := (3 : Int32)) hin235 (g := (mkF m 96 #[.val (.int pI1), .val (.ref bR2), .unset, .unset] [(.int (0 : Int32)), (.int (3 : Int32)), (.ref bR215), (.ref bR215)])) rfl rfl (hb hby at_96)
  have Z238 : n0 ≤ h236.size := (Nat.le_trans Z233 (Keep.of_wr W236).1)
  have N236 := Fr.snoc X236 N231 g218
  obtain ⟨Lh236, X236, N236⟩ := own_hide X236 N236
  have V236 : Arv Z h236 bR215 k215 .boolean (11 : Int32) [(.int (0 : Int32)), (.int (0 : Int32)), (.int (0 : Int32)), (.int (0 : Int32)), (.int (0 : Int32)), (.int (0 : Int32)), (.int (0 : Int32)), (.int (0 : Int32)), (.int (0 : Int32)), (.int (0 : Int32)), (.int (0 : Int32))] (.int (0 : Int32)) := Arv.set Arq234 Akq234 Asq234 Anq234 Ahq234 Agq234 (by first | rfl | exact fits_nar_bool _) W236 3 rfl (Nat.le_of_ble_eq_true rfl)
  obtain ⟨clq239, Arq239, Akq239, Asq239, Anq239, Ahq239, Agq239⟩ := V236
  have hin240 : ¬ ((4 : Int32) < 0 ∨ clq239.slots.size ≤ ((4 : Int32)).toNatClampNeg) := inb_of Asq239 ⟨by decide, by decide⟩
  obtain ⟨T241, h241, X241, e241, W241, st241⟩ := stZ X236 hx hZ e236 Arq239 (j := (4 : Int32)) hin240 (g := (mkF m 100 #[.val (.int pI1), .val (.ref bR2), .unset, .unset] [(.int (0 : Int32)), (.int (4 : Int32)), (.ref bR215), (.ref bR215)])) rfl rfl (hb hby at_100)
  have Z243 : n0 ≤ h241.size := (Nat.le_trans Z238 (Keep.of_wr W241).1)
  have N241 := Fr.snoc X241 N236 g218
  obtain ⟨Lh241, X241, N241⟩ := own_hide X241 N241
  have V241 : Arv Z h241 bR215 k215 .boolean (11 : Int32) [(.int (0 : Int32)), (.int (0 : Int32)), (.int (0 : Int32)), (.int (0 : Int32)), (.int (0 : Int32)), (.int (0 : Int32)), (.int (0 : Int32)), (.int (0 : Int32)), (.int (0 : Int32)), (.int (0 : Int32)), (.int (0 : Int32))] (.int (0 : Int32)) := Arv.set Arq239 Akq239 Asq239 Anq239 Ahq239 Agq239 (by first | rfl | exact fits_nar_bool _) W241 4 rfl (Nat.le_of_ble_eq_true rfl)
  obtain ⟨clq244, Arq244, Akq244, Asq244, Anq244, Ahq244, Agq244⟩ := V241
  have hin245 : ¬ ((5 : Int32) < 0 ∨ clq244.slots.size ≤ ((5 : Int32)).toNatClampNeg) := inb_of Asq244 ⟨by decide, by decide⟩
  obtain ⟨T246, h246, X246, e246, W246, st246⟩ := stZ X241 hx hZ e241 Arq244 (j := (5 : Int32)) hin245 (g := (mkF m 104 #[.val (.int pI1), .val (.ref bR2), .unset, .unset] [(.int (1 : Int32)), (.int (5 : Int32)), (.ref bR215), (.ref bR215)])) rfl rfl (hb hby at_104)
  have Z248 : n0 ≤ h246.size := (Nat.le_trans Z243 (Keep.of_wr W246).1)
  have N246 := Fr.snoc X246 N241 g218
  obtain ⟨Lh246, X246, N246⟩ := own_hide X246 N246
  have V246 : Arv Z h246 bR215 k215 .boolean (11 : Int32) [(.int (0 : Int32)), (.int (0 : Int32)), (.int (0 : Int32)), (.int (0 : Int32)), (.int (0 : Int32)), (.int (1 : Int32)), (.int (0 : Int32)), (.int (0 : Int32)), (.int (0 : Int32)), (.int (0 : Int32)), (.int (0 : Int32))] (.int (0 : Int32)) := Arv.set Arq244 Akq244 Asq244 Anq244 Ahq244 Agq244 (by first | rfl | exact fits_nar_bool _) W246 5 rfl (Nat.le_of_ble_eq_true rfl)
  obtain ⟨clq249, Arq249, Akq249, Asq249, Anq249, Ahq249, Agq249⟩ := V246
  have hin250 : ¬ ((6 : Int32) < 0 ∨ clq249.slots.size ≤ ((6 : Int32)).toNatClampNeg) := inb_of Asq249 ⟨by decide, by decide⟩
  obtain ⟨T251, h251, X251, e251, W251, st251⟩ := stZ X246 hx hZ e246 Arq249 (j := (6 : Int32)) hin250 (g := (mkF m 109 #[.val (.int pI1), .val (.ref bR2), .unset, .unset] [(.int (1 : Int32)), (.int (6 : Int32)), (.ref bR215), (.ref bR215)])) rfl rfl (hb hby at_109)
  have Z253 : n0 ≤ h251.size := (Nat.le_trans Z248 (Keep.of_wr W251).1)
  have N251 := Fr.snoc X251 N246 g218
  obtain ⟨Lh251, X251, N251⟩ := own_hide X251 N251
  have V251 : Arv Z h251 bR215 k215 .boolean (11 : Int32) [(.int (0 : Int32)), (.int (0 : Int32)), (.int (0 : Int32)), (.int (0 : Int32)), (.int (0 : Int32)), (.int (1 : Int32)), (.int (1 : Int32)), (.int (0 : Int32)), (.int (0 : Int32)), (.int (0 : Int32)), (.int (0 : Int32))] (.int (0 : Int32)) := Arv.set Arq249 Akq249 Asq249 Anq249 Ahq249 Agq249 (by first | rfl | exact fits_nar_bool _) W251 6 rfl (Nat.le_of_ble_eq_true rfl)
  obtain ⟨clq254, Arq254, Akq254, Asq254, Anq254, Ahq254, Agq254⟩ := V251
  have hin255 : ¬ ((7 : Int32) < 0 ∨ clq254.slots.size ≤ ((7 : Int32)).toNatClampNeg) := inb_of Asq254 ⟨by decide, by decide⟩
  obtain ⟨T256, h256, X256, e256, W256, st256⟩ := stZ X251 hx hZ e251 Arq254 (j := (7 : Int32)) hin255 (g := (mkF m 114 #[.val (.int pI1), .val (.ref bR2), .unset, .unset] [(.int (0 : Int32)), (.int (7 : Int32)), (.ref bR215), (.ref bR215)])) rfl rfl (hb hby at_114)
  have Z258 : n0 ≤ h256.size := (Nat.le_trans Z253 (Keep.of_wr W256).1)
  have N256 := Fr.snoc X256 N251 g218
  obtain ⟨Lh256, X256, N256⟩ := own_hide X256 N256
  have V256 : Arv Z h256 bR215 k215 .boolean (11 : Int32) [(.int (0 : Int32)), (.int (0 : Int32)), (.int (0 : Int32)), (.int (0 : Int32)), (.int (0 : Int32)), (.int (1 : Int32)), (.int (1 : Int32)), (.int (0 : Int32)), (.int (0 : Int32)), (.int (0 : Int32)), (.int (0 : Int32))] (.int (0 : Int32)) := Arv.set Arq254 Akq254 Asq254 Anq254 Ahq254 Agq254 (by first | rfl | exact fits_nar_bool _) W256 7 rfl (Nat.le_of_ble_eq_true rfl)
  obtain ⟨clq259, Arq259, Akq259, Asq259, Anq259, Ahq259, Agq259⟩ := V256
  have hin260 : ¬ ((8 : Int32) < 0 ∨ clq259.slots.size ≤ ((8 : Int32)).toNatClampNeg) := inb_of Asq259 ⟨by decide, by decide⟩
  obtain ⟨T261, h261, X261, e261, W261, st261⟩ := stZ X256 hx hZ e256 Arq259 (j := (8 : Int32)) hin260 (g := (mkF m 119 #[.val (.int pI1), .val (.ref bR2), .unset, .unset] [(.int (0 : Int32)), (.int (8 : Int32)), (.ref bR215), (.ref bR215)])) rfl rfl (hb hby at_119)
  have Z263 : n0 ≤ h261.size := (Nat.le_trans Z258 (Keep.of_wr W261).1)
  have N261 := Fr.snoc X261 N256 g218
  obtain ⟨Lh261, X261, N261⟩ := own_hide X261 N261
  have V261 : Arv Z h261 bR215 k215 .boolean (11 : Int32) [(.int (0 : Int32)), (.int (0 : Int32)), (.int (0 : Int32)), (.int (0 : Int32)), (.int (0 : Int32)), (.int (1 : Int32)), (.int (1 : Int32)), (.int (0 : Int32)), (.int (0 : Int32)), (.int (0 : Int32)), (.int (0 : Int32))] (.int (0 : Int32)) := Arv.set Arq259 Akq259 Asq259 Anq259 Ahq259 Agq259 (by first | rfl | exact fits_nar_bool _) W261 8 rfl (Nat.le_of_ble_eq_true rfl)
  obtain ⟨clq264, Arq264, Akq264, Asq264, Anq264, Ahq264, Agq264⟩ := V261
  have hin265 : ¬ ((9 : Int32) < 0 ∨ clq264.slots.size ≤ ((9 : Int32)).toNatClampNeg) := inb_of Asq264 ⟨by decide, by decide⟩
  obtain ⟨T266, h266, X266, e266, W266, st266⟩ := stZ X261 hx hZ e261 Arq264 (j := (9 : Int32)) hin265 (g := (mkF m 124 #[.val (.int pI1), .val (.ref bR2), .unset, .unset] [(.int (0 : Int32)), (.int (9 : Int32)), (.ref bR215), (.ref bR215)])) rfl rfl (hb hby at_124)
  have Z268 : n0 ≤ h266.size := (Nat.le_trans Z263 (Keep.of_wr W266).1)
  have N266 := Fr.snoc X266 N261 g218
  obtain ⟨Lh266, X266, N266⟩ := own_hide X266 N266
  have V266 : Arv Z h266 bR215 k215 .boolean (11 : Int32) [(.int (0 : Int32)), (.int (0 : Int32)), (.int (0 : Int32)), (.int (0 : Int32)), (.int (0 : Int32)), (.int (1 : Int32)), (.int (1 : Int32)), (.int (0 : Int32)), (.int (0 : Int32)), (.int (0 : Int32)), (.int (0 : Int32))] (.int (0 : Int32)) := Arv.set Arq264 Akq264 Asq264 Anq264 Ahq264 Agq264 (by first | rfl | exact fits_nar_bool _) W266 9 rfl (Nat.le_of_ble_eq_true rfl)
  obtain ⟨clq269, Arq269, Akq269, Asq269, Anq269, Ahq269, Agq269⟩ := V266
  have hin270 : ¬ ((10 : Int32) < 0 ∨ clq269.slots.size ≤ ((10 : Int32)).toNatClampNeg) := inb_of Asq269 ⟨by decide, by decide⟩
  obtain ⟨T271, h271, X271, e271, W271, st271⟩ := stZ X266 hx hZ e266 Arq269 (j := (10 : Int32)) hin270 (g := (mkF m 129 #[.val (.int pI1), .val (.ref bR2), .unset, .unset] [(.int (0 : Int32)), (.int (10 : Int32)), (.ref bR215), (.ref bR215)])) rfl rfl (hb hby at_129)
  have Z273 : n0 ≤ h271.size := (Nat.le_trans Z268 (Keep.of_wr W271).1)
  have N271 := Fr.snoc X271 N266 g218
  obtain ⟨Lh271, X271, N271⟩ := own_hide X271 N271
  have V271 : Arv Z h271 bR215 k215 .boolean (11 : Int32) [(.int (0 : Int32)), (.int (0 : Int32)), (.int (0 : Int32)), (.int (0 : Int32)), (.int (0 : Int32)), (.int (1 : Int32)), (.int (1 : Int32)), (.int (0 : Int32)), (.int (0 : Int32)), (.int (0 : Int32)), (.int (0 : Int32))] (.int (0 : Int32)) := Arv.set Arq269 Akq269 Asq269 Anq269 Ahq269 Agq269 (by first | rfl | exact fits_nar_bool _) W271 10 rfl (Nat.le_of_ble_eq_true rfl)
  have c275 : Arv Z h215 bR2 k2 (.object "com/example/ratatoskr/ratatoskr/query/Syntax$CastType") (11 : Int32) [(.ref pR5), (.ref pR15), (.ref pR26), (.ref pR39), (.ref pR54), (.ref pR71), (.ref pR90), (.ref pR111), (.ref pR134), (.ref pR159), (.ref pR186)] .null := V212.ext E215
  have c276 : Arv Z h221 bR2 k2 (.object "com/example/ratatoskr/ratatoskr/query/Syntax$CastType") (11 : Int32) [(.ref pR5), (.ref pR15), (.ref pR26), (.ref pR39), (.ref pR54), (.ref pR71), (.ref pR90), (.ref pR111), (.ref pR134), (.ref pR159), (.ref pR186)] .null := c275.other W221 (Nat.ne_of_lt (Nat.lt_of_lt_of_le V212.lt (Nat.le_of_eq g215.symm)))
  have c277 : Arv Z h226 bR2 k2 (.object "com/example/ratatoskr/ratatoskr/query/Syntax$CastType") (11 : Int32) [(.ref pR5), (.ref pR15), (.ref pR26), (.ref pR39), (.ref pR54), (.ref pR71), (.ref pR90), (.ref pR111), (.ref pR134), (.ref pR159), (.ref pR186)] .null := c276.other W226 (Nat.ne_of_lt (Nat.lt_of_lt_of_le V212.lt (Nat.le_of_eq g215.symm)))
  have c278 : Arv Z h231 bR2 k2 (.object "com/example/ratatoskr/ratatoskr/query/Syntax$CastType") (11 : Int32) [(.ref pR5), (.ref pR15), (.ref pR26), (.ref pR39), (.ref pR54), (.ref pR71), (.ref pR90), (.ref pR111), (.ref pR134), (.ref pR159), (.ref pR186)] .null := c277.other W231 (Nat.ne_of_lt (Nat.lt_of_lt_of_le V212.lt (Nat.le_of_eq g215.symm)))
  have c279 : Arv Z h236 bR2 k2 (.object "com/example/ratatoskr/ratatoskr/query/Syntax$CastType") (11 : Int32) [(.ref pR5), (.ref pR15), (.ref pR26), (.ref pR39), (.ref pR54), (.ref pR71), (.ref pR90), (.ref pR111), (.ref pR134), (.ref pR159), (.ref pR186)] .null := c278.other W236 (Nat.ne_of_lt (Nat.lt_of_lt_of_le V212.lt (Nat.le_of_eq g215.symm)))
  have c280 : Arv Z h241 bR2 k2 (.object "com/example/ratatoskr/ratatoskr/query/Syntax$CastType") (11 : Int32) [(.ref pR5), (.ref pR15), (.ref pR26), (.ref pR39), (.ref pR54), (.ref pR71), (.ref pR90), (.ref pR111), (.ref pR134), (.ref pR159), (.ref pR186)] .null := c279.other W241 (Nat.ne_of_lt (Nat.lt_of_lt_of_le V212.lt (Nat.le_of_eq g215.symm)))
  have c281 : Arv Z h246 bR2 k2 (.object "com/example/ratatoskr/ratatoskr/query/Syntax$CastType") (11 : Int32) [(.ref pR5), (.ref pR15), (.ref pR26), (.ref pR39), (.ref pR54), (.ref pR71), (.ref pR90), (.ref pR111), (.ref pR134), (.ref pR159), (.ref pR186)] .null := c280.other W246 (Nat.ne_of_lt (Nat.lt_of_lt_of_le V212.lt (Nat.le_of_eq g215.symm)))
  have c282 : Arv Z h251 bR2 k2 (.object "com/example/ratatoskr/ratatoskr/query/Syntax$CastType") (11 : Int32) [(.ref pR5), (.ref pR15), (.ref pR26), (.ref pR39), (.ref pR54), (.ref pR71), (.ref pR90), (.ref pR111), (.ref pR134), (.ref pR159), (.ref pR186)] .null := c281.other W251 (Nat.ne_of_lt (Nat.lt_of_lt_of_le V212.lt (Nat.le_of_eq g215.symm)))
  have c283 : Arv Z h256 bR2 k2 (.object "com/example/ratatoskr/ratatoskr/query/Syntax$CastType") (11 : Int32) [(.ref pR5), (.ref pR15), (.ref pR26), (.ref pR39), (.ref pR54), (.ref pR71), (.ref pR90), (.ref pR111), (.ref pR134), (.ref pR159), (.ref pR186)] .null := c282.other W256 (Nat.ne_of_lt (Nat.lt_of_lt_of_le V212.lt (Nat.le_of_eq g215.symm)))
  have c284 : Arv Z h261 bR2 k2 (.object "com/example/ratatoskr/ratatoskr/query/Syntax$CastType") (11 : Int32) [(.ref pR5), (.ref pR15), (.ref pR26), (.ref pR39), (.ref pR54), (.ref pR71), (.ref pR90), (.ref pR111), (.ref pR134), (.ref pR159), (.ref pR186)] .null := c283.other W261 (Nat.ne_of_lt (Nat.lt_of_lt_of_le V212.lt (Nat.le_of_eq g215.symm)))
  have c285 : Arv Z h266 bR2 k2 (.object "com/example/ratatoskr/ratatoskr/query/Syntax$CastType") (11 : Int32) [(.ref pR5), (.ref pR15), (.ref pR26), (.ref pR39), (.ref pR54), (.ref pR71), (.ref pR90), (.ref pR111), (.ref pR134), (.ref pR159), (.ref pR186)] .null := c284.other W266 (Nat.ne_of_lt (Nat.lt_of_lt_of_le V212.lt (Nat.le_of_eq g215.symm)))
  have c286 : Arv Z h271 bR2 k2 (.object "com/example/ratatoskr/ratatoskr/query/Syntax$CastType") (11 : Int32) [(.ref pR5), (.ref pR15), (.ref pR26), (.ref pR39), (.ref pR54), (.ref pR71), (.ref pR90), (.ref pR111), (.ref pR134), (.ref pR159), (.ref pR186)] .null := c285.other W271 (Nat.ne_of_lt (Nat.lt_of_lt_of_le V212.lt (Nat.le_of_eq g215.symm)))
  obtain ⟨clq274, Arq274, Akq274, Asq274, Anq274, Ahq274, Agq274⟩ := c286
  have hin287 : ¬ (((pI1 &&& (2147483647 : Int32)) % (11 : Int32)) < 0 ∨ clq274.slots.size ≤ (((pI1 &&& (2147483647 : Int32)) % (11 : Int32))).toNatClampNeg) := inb_of Asq274 ⟨hc141, hc141'⟩
  have c288 : Sta Z h87 "com/example/ratatoskr/ratatoskr/query/Syntax$CastType" "CHAR" "Lcom/example/ratatoskr/ratatoskr/query/Syntax$CastType;" (.ref pR71) := c77.wr W87
  have c289 : Sta Z h108 "com/example/ratatoskr/ratatoskr/query/Syntax$CastType" "CHAR" "Lcom/example/ratatoskr/ratatoskr/query/Syntax$CastType;" (.ref pR71) := c288.wr W108
  have c290 : Sta Z h131 "com/example/ratatoskr/ratatoskr/query/Syntax$CastType" "CHAR" "Lcom/example/ratatoskr/ratatoskr/query/Syntax$CastType;" (.ref pR71) := c289.wr W131
  have c291 : Sta Z h156 "com/example/ratatoskr/ratatoskr/query/Syntax$CastType" "CHAR" "Lcom/example/ratatoskr/ratatoskr/query/Syntax$CastType;" (.ref pR71) := c290.wr W156
  have c292 : Sta Z h183 "com/example/ratatoskr/ratatoskr/query/Syntax$CastType" "CHAR" "Lcom/example/ratatoskr/ratatoskr/query/Syntax$CastType;" (.ref pR71) := c291.wr W183
  have c293 : Sta Z h212 "com/example/ratatoskr/ratatoskr/query/Syntax$CastType" "CHAR" "Lcom/example/ratatoskr/ratatoskr/query/Syntax$CastType;" (.ref pR71) := c292.wr W212
  have c294 : Sta Z h215 "com/example/ratatoskr/ratatoskr/query/Syntax$CastType" "CHAR" "Lcom/example/ratatoskr/ratatoskr/query/Syntax$CastType;" (.ref pR71) := c293.ext E215
  have c295 : Sta Z h221 "com/example/ratatoskr/ratatoskr/query/Syntax$CastType" "CHAR" "Lcom/example/ratatoskr/ratatoskr/query/Syntax$CastType;" (.ref pR71) := c294.wr W221
  have c296 : Sta Z h226 "com/example/ratatoskr/ratatoskr/query/Syntax$CastType" "CHAR" "Lcom/example/ratatoskr/ratatoskr/query/Syntax$CastType;" (.ref pR71) := c295.wr W226
  have c297 : Sta Z h231 "com/example/ratatoskr/ratatoskr/query/Syntax$CastType" "CHAR" "Lcom/example/ratatoskr/ratatoskr/query/Syntax$CastType;" (.ref pR71) := c296.wr W231
  have c298 : Sta Z h236 "com/example/ratatoskr/ratatoskr/query/Syntax$CastType" "CHAR" "Lcom/example/ratatoskr/ratatoskr/query/Syntax$CastType;" (.ref pR71) := c297.wr W236
  have c299 : Sta Z h241 "com/example/ratatoskr/ratatoskr/query/Syntax$CastType" "CHAR" "Lcom/example/ratatoskr/ratatoskr/query/Syntax$CastType;" (.ref pR71) := c298.wr W241
  have c300 : Sta Z h246 "com/example/ratatoskr/ratatoskr/query/Syntax$CastType" "CHAR" "Lcom/example/ratatoskr/ratatoskr/query/Syntax$CastType;" (.ref pR71) := c299.wr W246
  have c301 : Sta Z h251 "com/example/ratatoskr/ratatoskr/query/Syntax$CastType" "CHAR" "Lcom/example/ratatoskr/ratatoskr/query/Syntax$CastType;" (.ref pR71) := c300.wr W251
  have c302 : Sta Z h256 "com/example/ratatoskr/ratatoskr/query/Syntax$CastType" "CHAR" "Lcom/example/ratatoskr/ratatoskr/query/Syntax$CastType;" (.ref pR71) := c301.wr W256
  have c303 : Sta Z h261 "com/example/ratatoskr/ratatoskr/query/Syntax$CastType" "CHAR" "Lcom/example/ratatoskr/ratatoskr/query/Syntax$CastType;" (.ref pR71) := c302.wr W261
  have c304 : Sta Z h266 "com/example/ratatoskr/ratatoskr/query/Syntax$CastType" "CHAR" "Lcom/example/ratatoskr/ratatoskr/query/Syntax$CastType;" (.ref pR71) := c303.wr W266
  have c305 : Sta Z h271 "com/example/ratatoskr/ratatoskr/query/Syntax$CastType" "CHAR" "Lcom/example/ratatoskr/ratatoskr/query/Syntax$CastType;" (.ref pR71) := c304.wr W271
  have c307 : Exa Z h2 pR900 "com/example/ratatoskr/ratatoskr/query/Syntax$CastType" := E_pR900.ext E2
  have c308 : Exa Z h12 pR900 "com/example/ratatoskr/ratatoskr/query/Syntax$CastType" := c307.wr W12
  have c309 : Exa Z h23 pR900 "com/example/ratatoskr/ratatoskr/query/Syntax$CastType" := c308.wr W23
  have c310 : Exa Z h36 pR900 "com/example/ratatoskr/ratatoskr/query/Syntax$CastType" := c309.wr W36
  have c311 : Exa Z h51 pR900 "com/example/ratatoskr/ratatoskr/query/Syntax$CastType" := c310.wr W51
  have c312 : Exa Z h68 pR900 "com/example/ratatoskr/ratatoskr/query/Syntax$CastType" := c311.wr W68
  have c313 : Exa Z h87 pR900 "com/example/ratatoskr/ratatoskr/query/Syntax$CastType" := c312.wr W87
  have c314 : Exa Z h108 pR900 "com/example/ratatoskr/ratatoskr/query/Syntax$CastType" := c313.wr W108
  have c315 : Exa Z h131 pR900 "com/example/ratatoskr/ratatoskr/query/Syntax$CastType" := c314.wr W131
  have c316 : Exa Z h156 pR900 "com/example/ratatoskr/ratatoskr/query/Syntax$CastType" := c315.wr W156
  have c317 : Exa Z h183 pR900 "com/example/ratatoskr/ratatoskr/query/Syntax$CastType" := c316.wr W183
  have c318 : Exa Z h212 pR900 "com/example/ratatoskr/ratatoskr/query/Syntax$CastType" := c317.wr W212
  have c319 : Exa Z h215 pR900 "com/example/ratatoskr/ratatoskr/query/Syntax$CastType" := c318.ext E215
  have c320 : Exa Z h221 pR900 "com/example/ratatoskr/ratatoskr/query/Syntax$CastType" := c319.wr W221
  have c321 : Exa Z h226 pR900 "com/example/ratatoskr/ratatoskr/query/Syntax$CastType" := c320.wr W226
  have c322 : Exa Z h231 pR900 "com/example/ratatoskr/ratatoskr/query/Syntax$CastType" := c321.wr W231
  have c323 : Exa Z h236 pR900 "com/example/ratatoskr/ratatoskr/query/Syntax$CastType" := c322.wr W236
  have c324 : Exa Z h241 pR900 "com/example/ratatoskr/ratatoskr/query/Syntax$CastType" := c323.wr W241
  have c325 : Exa Z h246 pR900 "com/example/ratatoskr/ratatoskr/query/Syntax$CastType" := c324.wr W246
  have c326 : Exa Z h251 pR900 "com/example/ratatoskr/ratatoskr/query/Syntax$CastType" := c325.wr W251
  have c327 : Exa Z h256 pR900 "com/example/ratatoskr/ratatoskr/query/Syntax$CastType" := c326.wr W256
  have c328 : Exa Z h261 pR900 "com/example/ratatoskr/ratatoskr/query/Syntax$CastType" := c327.wr W261
  have c329 : Exa Z h266 pR900 "com/example/ratatoskr/ratatoskr/query/Syntax$CastType" := c328.wr W266
  have c330 : Exa Z h271 pR900 "com/example/ratatoskr/ratatoskr/query/Syntax$CastType" := c329.wr W271
  obtain ⟨cq306, kq306, q306a, q306b, q306c⟩ := isOf hZ e271 c330
  obtain ⟨_, _, ⟨T306, L306, k306, n306⟩, -, X306, ⟨Lc306, hQ306, l306, y306, z306⟩, st306⟩ := X271.virtualBack hx (y := yN0) (z := yN0) hown (mvT hZ (ow hw 28 rfl)) (mvT hZ (ow hw 29 rfl)) (notFace_of_selects (args := #[]) (mvT hZ (ow hw 31 rfl))) (mvT hZ (ow hw 31 rfl)) (mvT hZ (ow hw 30 rfl)) (by decide) (backOf (W := 0) (hlC l Z a0 hw [] pR900 pR71 h271 n0 Z273 c305 hc142) hZ (ow hw 32 rfl) (ow hw 3 rfl) (by decide) (by decide)) q306a q306c (g := (mkF m 142 #[.val (.int pI1), .val (.ref bR2), .val (.ref bR215), .val (.int ((pI1 &&& (2147483647 : Int32)) % (11 : Int32)))] [(.ref pR900)])) rfl (by rw [hml]; rfl) (Steps.refl _) (argsL := []) (rest := []) (lenOf pd_0 rfl) rfl (by show 2 * 0 + _ ≤ _; exact Nat.le_of_eq rfl) (hb hby at_142) (fun _ _ => ⟨rfl, e271, (by decide : 2 + 0 ≤ _), (by decide : 22 + 0 ≤ _)⟩)
  dsimp only [Pt.U, Pt.locs, Pt.cells, Pt.slots] at X306 l306 y306 z306 st306 hQ306
  subst l306 y306 z306
  obtain ⟨rfl, Nq306, e306⟩ := hQ306
  have N306 := Fr.app N271 Nq306
  obtain ⟨clq331, Arq331, Akq331, Asq331, Anq331, Ahq331, Agq331⟩ := V271
  have hin332 : ¬ (((pI1 &&& (2147483647 : Int32)) % (11 : Int32)) < 0 ∨ clq331.slots.size ≤ (((pI1 &&& (2147483647 : Int32)) % (11 : Int32))).toNatClampNeg) := inb_of Asq331 ⟨hc141, hc141'⟩
  obtain ⟨fs, hr, hrun, hended, hW, hsame⟩ := X306.leave (v := some (.int (1 : Int32))) (fun h => by rw [Bd.returns] at h; cases h)
  refine ⟨_, _, pre0 _ ?_, hrun, hended, _, _, rfl, ?_, ⟨_, rfl⟩, hW, hsame.mono (by decide) (by decide)⟩
  · show oS p e below s₁ m 0 #[.val (.int pI1), .unset, .unset, .unset] [] _
    refine XS.bipush X0.here hx rfl (hb hby at_0) ?_
    refine st2 _ ?_
    refine XS.dup X2.here hx rfl (hb hby at_5) rfl rfl ?_
    refine XS.iconst X2.here hx rfl (hb hby at_6) ?_
    show oS p e below T2 m 7 #[.val (.int pI1), .unset, .unset, .unset] [(.int (0 : Int32)), (.ref bR2), (.ref bR2)] _
    refine st7 _ ?_
    refine st12 _ ?_
    refine XS.dup X12.here hx rfl (hb hby at_11) rfl rfl ?_
    refine XS.iconst X12.here hx rfl (hb hby at_12) ?_
    show oS p e below T12 m 13 #[.val (.int pI1), .unset, .unset, .unset] [(.int (1 : Int32)), (.ref bR2), (.ref bR2)] _
    refine st18 _ ?_
    refine st23 _ ?_
    refine XS.dup X23.here hx rfl (hb hby at_17) rfl rfl ?_
    refine XS.iconst X23.here hx rfl (hb hby at_18) ?_
    show oS p e below T23 m 19 #[.val (.int pI1), .unset, .unset, .unset] [(.int (2 : Int32)), (.ref bR2), (.ref bR2)] _
    refine st30 _ ?_
    refine st36 _ ?_
    refine XS.dup X36.here hx rfl (hb hby at_23) rfl rfl ?_
    refine XS.iconst X36.here hx rfl (hb hby at_24) ?_
    show oS p e below T36 m 25 #[.val (.int pI1), .unset, .unset, .unset] [(.int (3 : Int32)), (.ref bR2), (.ref bR2)] _
    refine st44 _ ?_
    refine st51 _ ?_
    refine XS.dup X51.here hx rfl (hb hby at_29) rfl rfl ?_
    refine XS.iconst X51.here hx rfl (hb hby at_30) ?_
    show oS p e below T51 m 31 #[.val (.int pI1), .unset, .unset, .unset] [(.int (4 : Int32)), (.ref bR2), (.ref bR2)] _
    refine st60 _ ?_
    refine st68 _ ?_
    refine XS.dup X68.here hx rfl (hb hby at_35) rfl rfl ?_
    refine XS.iconst X68.here hx rfl (hb hby at_36) ?_
    show oS p e below T68 m 37 #[.val (.int pI1), .unset, .unset, .unset] [(.int (5 : Int32)), (.ref bR2), (.ref bR2)] _
    refine st78 _ ?_
    refine st87 _ ?_
    refine XS.dup X87.here hx rfl (hb hby at_41) rfl rfl ?_
    refine XS.bipush X87.here hx rfl (hb hby at_42) ?_
    show oS p e below T87 m 44 #[.val (.int pI1), .unset, .unset, .unset] [(.int (6 : Int32)), (.ref bR2), (.ref bR2)] _
    refine st98 _ ?_
    refine st108 _ ?_
    refine XS.dup X108.here hx rfl (hb hby at_48) rfl rfl ?_
    refine XS.bipush X108.here hx rfl (hb hby at_49) ?_
    show oS p e below T108 m 51 #[.val (.int pI1), .unset, .unset, .unset] [(.int (7 : Int32)), (.ref bR2), (.ref bR2)] _
    refine st120 _ ?_
    refine st131 _ ?_
    refine XS.dup X131.here hx rfl (hb hby at_55) rfl rfl ?_
    refine XS.bipush X131.here hx rfl (hb hby at_56) ?_
    show oS p e below T131 m 58 #[.val (.int pI1), .unset, .unset, .unset] [(.int (8 : Int32)), (.ref bR2), (.ref bR2)] _
    refine st144 _ ?_
    refine st156 _ ?_
    refine XS.dup X156.here hx rfl (hb hby at_62) rfl rfl ?_
    refine XS.bipush X156.here hx rfl (hb hby at_63) ?_
    show oS p e below T156 m 65 #[.val (.int pI1), .unset, .unset, .unset] [(.int (9 : Int32)), (.ref bR2), (.ref bR2)] _
    refine st170 _ ?_
    refine st183 _ ?_
    refine XS.dup X183.here hx rfl (hb hby at_69) rfl rfl ?_
    refine XS.bipush X183.here hx rfl (hb hby at_70) ?_
    show oS p e below T183 m 72 #[.val (.int pI1), .unset, .unset, .unset] [(.int (10 : Int32)), (.ref bR2), (.ref bR2)] _
    refine st198 _ ?_
    refine st212 _ ?_
    refine XS.astoreN X212.here hx rfl (hb hby at_76) rfl rfl (l' := #[.val (.int pI1), .val (.ref bR2), .unset, .unset]) rfl ?_
    refine XS.bipush X212.here hx rfl (hb hby at_77) ?_
    show oS p e below T212 m 79 #[.val (.int pI1), .val (.ref bR2), .unset, .unset] [(.int (11 : Int32))] _
    refine st215 _ ?_
    refine XS.dup X215.here hx rfl (hb hby at_81) rfl rfl ?_
    refine XS.iconst X215.here hx rfl (hb hby at_82) ?_
    refine XS.iconst X215.here hx rfl (hb hby at_83) ?_
    show oS p e below T215 m 84 #[.val (.int pI1), .val (.ref bR2), .unset, .unset] [(.int (0 : Int32)), (.int (0 : Int32)), (.ref bR215), (.ref bR215)] _
    refine st221 _ ?_
    refine XS.dup X221.here hx rfl (hb hby at_85) rfl rfl ?_
    refine XS.iconst X221.here hx rfl (hb hby at_86) ?_
    refine XS.iconst X221.here hx rfl (hb hby at_87) ?_
    show oS p e below T221 m 88 #[.val (.int pI1), .val (.ref bR2), .unset, .unset] [(.int (0 : Int32)), (.int (1 : Int32)), (.ref bR215), (.ref bR215)] _
    refine st226 _ ?_
    refine XS.dup X226.here hx rfl (hb hby at_89) rfl rfl ?_
    refine XS.iconst X226.here hx rfl (hb hby at_90) ?_
    refine XS.iconst X226.here hx rfl (hb hby at_91) ?_
    show oS p e below T226 m 92 #[.val (.int pI1), .val (.ref bR2), .unset, .unset] [(.int (0 : Int32)), (.int (2 : Int32)), (.ref bR215), (.ref bR215)] _
    refine st231 _ ?_
    refine XS.dup X231.here hx rfl (hb hby at_93) rfl rfl ?_
    refine XS.iconst X231.here hx rfl (hb hby at_94) ?_
    refine XS.iconst X231.here hx rfl (hb hby at_95) ?_
    show oS p e below T231 m 96 #[.val (.int pI1), .val (.ref bR2), .unset, .unset] [(.int (0 : Int32)), (.int (3 : Int32)), (.ref bR215), (.ref bR215)] _
    refine st236 _ ?_
    refine XS.dup X236.here hx rfl (hb hby at_97) rfl rfl ?_
    refine XS.iconst X236.here hx rfl (hb hby at_98) ?_
    refine XS.iconst X236.here hx rfl (hb hby at_99) ?_
    show oS p e below T236 m 100 #[.val (.int pI1), .val (.ref bR2), .unset, .unset] [(.int (0 : Int32)), (.int (4 : Int32)), (.ref bR215), (.ref bR215)] _
    refine st241 _ ?_
    refine XS.dup X241.here hx rfl (hb hby at_101) rfl rfl ?_
    refine XS.iconst X241.here hx rfl (hb hby at_102) ?_
    refine XS.iconst X241.here hx rfl (hb hby at_103) ?_
    show oS p e below T241 m 104 #[.val (.int pI1), .val (.ref bR2), .unset, .unset] [(.int (1 : Int32)), (.int (5 : Int32)), (.ref bR215), (.ref bR215)] _
    refine st246 _ ?_
    refine XS.dup X246.here hx rfl (hb hby at_105) rfl rfl ?_
    refine XS.bipush X246.here hx rfl (hb hby at_106) ?_
    refine XS.iconst X246.here hx rfl (hb hby at_108) ?_
    show oS p e below T246 m 109 #[.val (.int pI1), .val (.ref bR2), .unset, .unset] [(.int (1 : Int32)), (.int (6 : Int32)), (.ref bR215), (.ref bR215)] _
    refine st251 _ ?_
    refine XS.dup X251.here hx rfl (hb hby at_110) rfl rfl ?_
    refine XS.bipush X251.here hx rfl (hb hby at_111) ?_
    refine XS.iconst X251.here hx rfl (hb hby at_113) ?_
    show oS p e below T251 m 114 #[.val (.int pI1), .val (.ref bR2), .unset, .unset] [(.int (0 : Int32)), (.int (7 : Int32)), (.ref bR215), (.ref bR215)] _
    refine st256 _ ?_
    refine XS.dup X256.here hx rfl (hb hby at_115) rfl rfl ?_
    refine XS.bipush X256.here hx rfl (hb hby at_116) ?_
    refine XS.iconst X256.here hx rfl (hb hby at_118) ?_
    show oS p e below T256 m 119 #[.val (.int pI1), .val (.ref bR2), .unset, .unset] [(.int (0 : Int32)), (.int (8 : Int32)), (.ref bR215), (.ref bR215)] _
    refine st261 _ ?_
    refine XS.dup X261.here hx rfl (hb hby at_120) rfl rfl ?_
    refine XS.bipush X261.here hx rfl (hb hby at_121) ?_
    refine XS.iconst X261.here hx rfl (hb hby at_123) ?_
    show oS p e below T261 m 124 #[.val (.int pI1), .val (.ref bR2), .unset, .unset] [(.int (0 : Int32)), (.int (9 : Int32)), (.ref bR215), (.ref bR215)] _
    refine st266 _ ?_
    refine XS.dup X266.here hx rfl (hb hby at_125) rfl rfl ?_
    refine XS.bipush X266.here hx rfl (hb hby at_126) ?_
    refine XS.iconst X266.here hx rfl (hb hby at_128) ?_
    show oS p e below T266 m 129 #[.val (.int pI1), .val (.ref bR2), .unset, .unset] [(.int (0 : Int32)), (.int (10 : Int32)), (.ref bR215), (.ref bR215)] _
    refine st271 _ ?_
    refine XS.astoreN X271.here hx rfl (hb hby at_130) rfl rfl (l' := #[.val (.int pI1), .val (.ref bR2), .val (.ref bR215), .unset]) rfl ?_
    refine XS.iloadN X271.here hx rfl (hb hby at_131) rfl ?_
    refine X271.ldcInt hx hown (mvT hZ (ow hw 27 rfl)) (g := (mkF m 132 #[.val (.int pI1), .val (.ref bR2), .val (.ref bR215), .unset] [(.int pI1)])) rfl (hb hby at_132) _ ?_
    show oS p e below T271 m 134 #[.val (.int pI1), .val (.ref bR2), .val (.ref bR215), .unset] [(.int (2147483647 : Int32)), (.int pI1)] _
    refine XS.iand X271.here hx rfl (hb hby at_134) rfl ?_
    refine XS.bipush X271.here hx rfl (hb hby at_135) ?_
    show Steps p.tables e below (T271.setTop (mkF m 137 #[.val (.int pI1), .val (.ref bR2), .val (.ref bR215), .unset] [(.int (11 : Int32)), (.int (pI1 &&& (2147483647 : Int32)))])) _
    refine iremM (g := (mkF m 137 #[.val (.int pI1), .val (.ref bR2), .val (.ref bR215), .unset] [(.int (11 : Int32)), (.int (pI1 &&& (2147483647 : Int32)))])) X271 hx rfl (hb hby at_137) rfl (by decide) ?_
    refine XS.istoreN X271.here hx rfl (hb hby at_138) rfl (l' := #[.val (.int pI1), .val (.ref bR2), .val (.ref bR215), .val (.int ((pI1 &&& (2147483647 : Int32)) % (11 : Int32)))]) rfl ?_
    show oS p e below T271 m 139 #[.val (.int pI1), .val (.ref bR2), .val (.ref bR215), .val (.int ((pI1 &&& (2147483647 : Int32)) % (11 : Int32)))] [] _
    refine XS.aloadN X271.here hx rfl (hb hby at_139) rfl rfl ?_
    refine XS.iloadN X271.here hx rfl (hb hby at_140) rfl ?_
    refine X271.aaload hx (j := ((pI1 &&& (2147483647 : Int32)) % (11 : Int32))) (v := (.ref pR900)) (by rw [e271]; exact Arq274.1) (State.isArrayOf_alike hZ.alike Arq274.2.1) rfl Arq274.2.2 hin287 (Has.at Ahq274 hin287 hc141'') (g := (mkF m 141 #[.val (.int pI1), .val (.ref bR2), .val (.ref bR215), .val (.int ((pI1 &&& (2147483647 : Int32)) % (11 : Int32)))] [(.int ((pI1 &&& (2147483647 : Int32)) % (11 : Int32))), (.ref bR2)])) rfl rfl (hb hby at_141) _ ?_
    refine st306.trans ?_
    show oS p e below T306 m 145 #[.val (.int pI1), .val (.ref bR2), .val (.ref bR215), .val (.int ((pI1 &&& (2147483647 : Int32)) % (11 : Int32)))] [(.int (1 : Int32))] _
    refine XS.aloadN X306.here hx rfl (hb hby at_145) rfl rfl ?_
    refine XS.iloadN X306.here hx rfl (hb hby at_146) rfl ?_
    refine X306.baloadBooleans hx (j := ((pI1 &&& (2147483647 : Int32)) % (11 : Int32))) (v := (.int pI901)) (by rw [e306]; exact Arq331.1) (State.isArrayOf_alike hZ.alike Arq331.2.1) Arq331.2.2 hin332 (Has.at Ahq331 hin332 hc147) (g := (mkF m 147 #[.val (.int pI1), .val (.ref bR2), .val (.ref bR215), .val (.int ((pI1 &&& (2147483647 : Int32)) % (11 : Int32)))] [(.int ((pI1 &&& (2147483647 : Int32)) % (11 : Int32))), (.ref bR215), (.int (1 : Int32))])) rfl rfl (hb hby at_147) _ ?_
    refine XS.icmpNo X306.here hx rfl (hb hby at_148) rfl (teq hc148).2 ?_
    show oS p e below T306 m 151 #[.val (.int pI1), .val (.ref bR2), .val (.ref bR215), .val (.int ((pI1 &&& (2147483647 : Int32)) % (11 : Int32)))] [] _
    refine XS.iconst X306.here hx rfl (hb hby at_151) ?_
    refine XS.goto X306.here hx rfl (pc0 := 152) (pc' := 156) rfl (hb hby at_152) (by decide) (by decide) ?_
    exact retN X306 hx (t := .boolean) Bd.returns (by simp) (hb hby at_156) hr
  · show QlawC Z pI1 pR5 pR15 pR26 pR39 pR54 pR71 pR90 pR111 pR134 pR159 pR186 pR900 pI901 h0 n0 _ T306.heap _
    rw [e306]
    exact ⟨rfl, N306⟩
theorem ef_lawV (m : MethodId) (pI1 : Int32) : entryFrame m #[(.int pI1)] maxLocals = mkF m 0 #[.val (.int pI1), .unset, .unset, .unset] [] := by first | (simp [entryFrame, mkF, argsToLocals, Value.category, maxLocals]; done) | rfl
def QlawV (Z : State) (pI1 : Int32) (pR5 : Addr) (pR15 : Addr) (pR26 : Addr) (pR39 : Addr) (pR54 : Addr) (pR71 : Addr) (pR90 : Addr) (pR111 : Addr) (pR134 : Addr) (pR159 : Addr) (pR186 : Addr) (pR900 : Addr) (pI901 : Int32) (h0 : Heap) (n0 : Nat) (v : Option Value) (h : Heap) (L : List Loc) : Prop := v = some (.int (1 : Int32)) ∧ Fr n0 L
set_option maxRecDepth 65536 in
set_option maxHeartbeats 40000000 in
theorem lawV (l : Launch) (Z : State) (a0 : Array Value) (hw : ∀ d ∈ tables_1, d.before a0 Z = true) (ws : List Jvm.Cond) (pI1 : Int32) (pR5 : Addr) (pR15 : Addr) (pR26 : Addr) (pR39 : Addr) (pR54 : Addr) (pR71 : Addr) (pR90 : Addr) (pR111 : Addr) (pR134 : Addr) (pR159 : Addr) (pR186 : Addr) (pR900 : Addr) (pI901 : Int32) (h0 : Heap) (n0 : Nat) (Z0 : n0 ≤ h0.size) (S_Syntax_CastType_SMALLINT : Sta Z h0 "com/example/ratatoskr/ratatoskr/query/Syntax$CastType" "SMALLINT" "Lcom/example/ratatoskr/ratatoskr/query/Syntax$CastType;" (.ref pR5)) (E_pR5 : Exa Z h0 pR5 "com/example/ratatoskr/ratatoskr/query/Syntax$CastType") (S_Syntax_CastType_INTEGER : Sta Z h0 "com/example/ratatoskr/ratatoskr/query/Syntax$CastType" "INTEGER" "Lcom/example/ratatoskr/ratatoskr/query/Syntax$CastType;" (.ref pR15)) (E_pR15 : Exa Z h0 pR15 "com/example/ratatoskr/ratatoskr/query/Syntax$CastType") (S_Syntax_CastType_BIGINT : Sta Z h0 "com/example/ratatoskr/ratatoskr/query/Syntax$CastType" "BIGINT" "Lcom/example/ratatoskr/ratatoskr/query/Syntax$CastType;" (.ref pR26)) (E_pR26 : Exa Z h0 pR26 "com/example/ratatoskr/ratatoskr/query/Syntax$CastType") (S_Syntax_CastType_REAL : Sta Z h0 "com/example/ratatoskr/ratatoskr/query/Syntax$CastType" "REAL" "Lcom/example/ratatoskr/ratatoskr/query/Syntax$CastType;" (.ref pR39)) (E_pR39 : Exa Z h0 pR39 "com/example/ratatoskr/ratatoskr/query/Syntax$CastType") (S_Syntax_CastType_DOUBLE : Sta Z h0 "com/example/ratatoskr/ratatoskr/query/Syntax$CastType" "DOUBLE" "Lcom/example/ratatoskr/ratatoskr/query/Syntax$CastType;" (.ref pR54)) (E_pR54 : Exa Z h0 pR54 "com/example/ratatoskr/ratatoskr/query/Syntax$CastType") (S_Syntax_CastType_CHAR : Sta Z h0 "com/example/ratatoskr/ratatoskr/query/Syntax$CastType" "CHAR" "Lcom/example/ratatoskr/ratatoskr/query/Syntax$CastType;" (.ref pR71)) (E_pR71 : Exa Z h0 pR71 "com/example/ratatoskr/ratatoskr/query/Syntax$CastType") (S_Syntax_CastType_VARCHAR : Sta Z h0 "com/example/ratatoskr/ratatoskr/query/Syntax$CastType" "VARCHAR" "Lcom/example/ratatoskr/ratatoskr/query/Syntax$CastType;" (.ref pR90)) (E_pR90 : Exa Z h0 pR90 "com/example/ratatoskr/ratatoskr/query/Syntax$CastType") (S_Syntax_CastType_TIMESTAMP : Sta Z h0 "com/example/ratatoskr/ratatoskr/query/Syntax$CastType" "TIMESTAMP" "Lcom/example/ratatoskr/ratatoskr/query/Syntax$CastType;" (.ref pR111)) (E_pR111 : Exa Z h0 pR111 "com/example/ratatoskr/ratatoskr/query/Syntax$CastType") (S_Syntax_CastType_POINT : Sta Z h0 "com/example/ratatoskr/ratatoskr/query/Syntax$CastType" "POINT" "Lcom/example/ratatoskr/ratatoskr/query/Syntax$CastType;" (.ref pR134)) (E_pR134 : Exa Z h0 pR134 "com/example/ratatoskr/ratatoskr/query/Syntax$CastType") (S_Syntax_CastType_CIRCLE : Sta Z h0 "com/example/ratatoskr/ratatoskr/query/Syntax$CastType" "CIRCLE" "Lcom/example/ratatoskr/ratatoskr/query/Syntax$CastType;" (.ref pR159)) (E_pR159 : Exa Z h0 pR159 "com/example/ratatoskr/ratatoskr/query/Syntax$CastType") (S_Syntax_CastType_POLYGON : Sta Z h0 "com/example/ratatoskr/ratatoskr/query/Syntax$CastType" "POLYGON" "Lcom/example/ratatoskr/ratatoskr/query/Syntax$CastType;" (.ref pR186)) (E_pR186 : Exa Z h0 pR186 "com/example/ratatoskr/ratatoskr/query/Syntax$CastType") (ne_pR900_pR71 : pR900 ≠ pR71) (E_pR900 : Exa Z h0 pR900 "com/example/ratatoskr/ratatoskr/query/Syntax$CastType") (hc141 : ¬ (((pI1 &&& (2147483647 : Int32)) % (11 : Int32)) < (0 : Int32))) (hc141' : ((pI1 &&& (2147483647 : Int32)) % (11 : Int32)) < (11 : Int32)) (hc141'' : ([(.ref pR5), (.ref pR15), (.ref pR26), (.ref pR39), (.ref pR54), (.ref pR71), (.ref pR90), (.ref pR111), (.ref pR134), (.ref pR159), (.ref pR186)] : List Value).getD (((pI1 &&& (2147483647 : Int32)) % (11 : Int32))).toNatClampNeg .null = (.ref pR900)) (hc142 : pR900 = pR90) (hc147 : ([(.int (0 : Int32)), (.int (0 : Int32)), (.int (0 : Int32)), (.int (0 : Int32)), (.int (0 : Int32)), (.int (1 : Int32)), (.int (1 : Int32)), (.int (0 : Int32)), (.int (0 : Int32)), (.int (0 : Int32)), (.int (0 : Int32))] : List Value).getD (((pI1 &&& (2147483647 : Int32)) % (11 : Int32))).toNatClampNeg (.int (0 : Int32)) = (.int pI901)) (hc148 : (1 : Int32) = pI901) :
    MetFree l x (head1 (Jvm.Cond.code x code maxLocals ret :: ws) room_1) (fun a U => a = #[(.int pI1)] ∧ Z.Warmed39 U.vm ∧ U.heap = h0) (fun _ _ _ _ _ => True) (fun _ U o U' => ∃ v L, o = .returned v ∧ QlawV Z pI1 pR5 pR15 pR26 pR39 pR54 pR71 pR90 pR111 pR134 pR159 pR186 pR900 pI901 h0 n0 v U'.heap L ∧ FrameEnd U o U' L room_1.cells room_1.slots) := by
  refine MetFree.of_bodySF (plainFor_of_name pn_1) hisR ?_
  intro p e s m args below meth c s₁ Bd hml0 hP hK
  obtain ⟨rfl, hZ, hh⟩ := hP
  have hx := Bd.exec
  have hby := Bd.bytes
  have hml : c.maxLocals = 4 := hml0
  have hown : s.vm.findClass "com/example/ratatoskr/ratatoskr/query/CastTypeHasLengthPinLaw" = some m.cls := findClass_of_methodNamed Bd.named
  have hnm := (name_of_methodNamed Bd.named Bd.method).1
  have X0 : Stand p l e room_1 s m #[(.int pI1)] below meth c s₁ [] 0 0 := Stand.of_body Bd
  have e0 : s₁.heap = h0 := by rw [← hh, Bd.state]; rfl
  have N0 := Fr.nil n0
  have pre0 : ∀ t, Steps p.tables e below (s₁.setTop (mkF m 0 #[.val (.int pI1), .unset, .unset, .unset] [])) t → Steps p.tables e below (s₁.setTop (entryFrame m #[(.int pI1)] maxLocals)) t := fun t k => castTop (ef_lawV m pI1) k
  obtain ⟨T2, h2, k2, X2, e2, E2, A2, O2, st2⟩ := newR X0 hx hZ hown (ow hw 0 rfl) (ow hw 1 rfl) e0 (g := (mkF m 2 #[.val (.int pI1), .unset, .unset, .unset] [(.int (11 : Int32))])) rfl (hb hby at_2) rfl (by decide) (cap := 11) (by decide) (by decide) (by decide) (by decide)
  obtain ⟨bR2, g2⟩ : ∃ z, z = h0.size := ⟨_, rfl⟩
  rw [← g2] at A2 st2
  have Z4 : n0 ≤ h2.size := (Nat.le_trans Z0 E2.1)
  have V2 : Arv Z h2 bR2 k2 (.object "com/example/ratatoskr/ratatoskr/query/Syntax$CastType") (11 : Int32) [.null, .null, .null, .null, .null, .null, .null, .null, .null, .null, .null] .null := (Arv.new A2 (by decide)).pad (pad_rep [] .null 11)
  have c6 : Sta Z h2 "com/example/ratatoskr/ratatoskr/query/Syntax$CastType" "SMALLINT" "Lcom/example/ratatoskr/ratatoskr/query/Syntax$CastType;" (.ref pR5) := S_Syntax_CastType_SMALLINT.ext E2
  obtain ⟨T7, X7, e7, st7⟩ := getS2 X2 hx hZ hown (host := "") (Or.inl (ow hw 2 rfl)) Via.refl e2 c6 (g := (mkF m 7 #[.val (.int pI1), .unset, .unset, .unset] [(.int (0 : Int32)), (.ref bR2), (.ref bR2)])) rfl (hb hby at_7)
  have g8 : n0 ≤ bR2 := Nat.le_trans Z0 (Nat.le_of_eq g2.symm)
  obtain ⟨clq9, Arq9, Akq9, Asq9, Anq9, Ahq9, Agq9⟩ := V2
  have hin10 : ¬ ((0 : Int32) < 0 ∨ clq9.slots.size ≤ ((0 : Int32)).toNatClampNeg) := inb_of Asq9 ⟨by decide, by decide⟩
  have c11 : Exa Z h2 pR5 "com/example/ratatoskr/ratatoskr/query/Syntax$CastType" := E_pR5.ext E2
  obtain ⟨T12, h12, X12, e12, W12, st12⟩ := stR X7 hx hZ e7 Arq9 (j := (0 : Int32)) hin10 rfl (Sto.ofV Arq9 Akq9 O2 (Ins.self c11)) (g := (mkF m 10 #[.val (.int pI1), .unset, .unset, .unset] [(.ref pR5), (.int (0 : Int32)), (.ref bR2), (.ref bR2)])) rfl rfl (hb hby at_10)
  have Z14 : n0 ≤ h12.size := (Nat.le_trans Z4 (Keep.of_wr W12).1)
  have N12 := Fr.snoc X12 N0 g8
  obtain ⟨Lh12, X12, N12⟩ := own_hide X12 N12
  have V12 : Arv Z h12 bR2 k2 (.object "com/example/ratatoskr/ratatoskr/query/Syntax$CastType") (11 : Int32) [(.ref pR5), .null, .null, .null, .null, .null, .null, .null, .null, .null, .null] .null := Arv.set Arq9 Akq9 Asq9 Anq9 Ahq9 Agq9 rfl W12 0 rfl (Nat.le_of_ble_eq_true rfl)
  have c16 : Sta Z h2 "com/example/ratatoskr/ratatoskr/query/Syntax$CastType" "INTEGER" "Lcom/example/ratatoskr/ratatoskr/query/Syntax$CastType;" (.ref pR15) := S_Syntax_CastType_INTEGER.ext E2
  have c17 : Sta Z h12 "com/example/ratatoskr/ratatoskr/query/Syntax$CastType" "INTEGER" "Lcom/example/ratatoskr/ratatoskr/query/Syntax$CastType;" (.ref pR15) := c16.wr W12
  obtain ⟨T18, X18, e18, st18⟩ := getS2 X12 hx hZ hown (host := "") (Or.inl (ow hw 6 rfl)) Via.refl e12 c17 (g := (mkF m 13 #[.val (.int pI1), .unset, .unset, .unset] [(.int (1 : Int32)), (.ref bR2), (.ref bR2)])) rfl (hb hby at_13)
  obtain ⟨clq19, Arq19, Akq19, Asq19, Anq19, Ahq19, Agq19⟩ := V12
  have hin20 : ¬ ((1 : Int32) < 0 ∨ clq19.slots.size ≤ ((1 : Int32)).toNatClampNeg) := inb_of Asq19 ⟨by decide, by decide⟩
  have c21 : Exa Z h2 pR15 "com/example/ratatoskr/ratatoskr/query/Syntax$CastType" := E_pR15.ext E2
  have c22 : Exa Z h12 pR15 "com/example/ratatoskr/ratatoskr/query/Syntax$CastType" := c21.wr W12
  obtain ⟨T23, h23, X23, e23, W23, st23⟩ := stR X18 hx hZ e18 Arq19 (j := (1 : Int32)) hin20 rfl (Sto.ofV Arq19 Akq19 O2 (Ins.self c22)) (g := (mkF m 16 #[.val (.int pI1), .unset, .unset, .unset] [(.ref pR15), (.int (1 : Int32)), (.ref bR2), (.ref bR2)])) rfl rfl (hb hby at_16)
  have Z25 : n0 ≤ h23.size := (Nat.le_trans Z14 (Keep.of_wr W23).1)
  have N23 := Fr.snoc X23 N12 g8
  obtain ⟨Lh23, X23, N23⟩ := own_hide X23 N23
  have V23 : Arv Z h23 bR2 k2 (.object "com/example/ratatoskr/ratatoskr/query/Syntax$CastType") (11 : Int32) [(.ref pR5), (.ref pR15), .null, .null, .null, .null, .null, .null, .null, .null, .null] .null := Arv.set Arq19 Akq19 Asq19 Anq19 Ahq19 Agq19 rfl W23 1 rfl (Nat.le_of_ble_eq_true rfl)
  have c27 : Sta Z h2 "com/example/ratatoskr/ratatoskr/query/Syntax$CastType" "BIGINT" "Lcom/example/ratatoskr/ratatoskr/query/Syntax$CastType;" (.ref pR26) := S_Syntax_CastType_BIGINT.ext E2
  have c28 : Sta Z h12 "com/example/ratatoskr/ratatoskr/query/Syntax$CastType" "BIGINT" "Lcom/example/ratatoskr/ratatoskr/query/Syntax$CastType;" (.ref pR26) := c27.wr W12
  have c29 : Sta Z h23 "com/example/ratatoskr/ratatoskr/query/Syntax$CastType" "BIGINT" "Lcom/example/ratatoskr/ratatoskr/query/Syntax$CastType;" (.ref pR26) := c28.wr W23
  obtain ⟨T30, X30, e30, st30⟩ := getS2 X23 hx hZ hown (host := "") (Or.inl (ow hw 8 rfl)) Via.refl e23 c29 (g := (mkF m 19 #[.val (.int pI1), .unset, .unset, .unset] [(.int (2 : Int32)), (.ref bR2), (.ref bR2)])) rfl (hb hby at_19)
  obtain ⟨clq31, Arq31, Akq31, Asq31, Anq31, Ahq31, Agq31⟩ := V23
  have hin32 : ¬ ((2 : Int32) < 0 ∨ clq31.slots.size ≤ ((2 : Int32)).toNatClampNeg) := inb_of Asq31 ⟨by decide, by decide⟩
  have c33 : Exa Z h2 pR26 "com/example/ratatoskr/ratatoskr/query/Syntax$CastType" := E_pR26.ext E2
  have c34 : Exa Z h12 pR26 "com/example/ratatoskr/ratatoskr/query/Syntax$CastType" := c33.wr W12
  have c35 : Exa Z h23 pR26 "com/example/ratatoskr/ratatoskr/query/Syntax$CastType" := c34.wr W23
  obtain ⟨T36, h36, X36, e36, W36, st36⟩ := stR X30 hx hZ e30 Arq31 (j := (2 : Int32)) hin32 rfl (Sto.ofV Arq31 Akq31 O2 (Ins.self c35)) (g := (mkF m 22 #[.val (.int pI1), .unset, .unset, .unset] [(.ref pR26), (.int (2 : Int32)), (.ref bR2), (.ref bR2)])) rfl rfl (hb hby at_22)
  have Z38 : n0 ≤ h36.size := (Nat.le_trans Z25 (Keep.of_wr W36).1)
  have N36 := Fr.snoc X36 N23 g8
  obtain ⟨Lh36, X36, N36⟩ := own_hide X36 N36
  have V36 : Arv Z h36 bR2 k2 (.object "com/example/ratatoskr/ratatoskr/query/Syntax$CastType") (11 : Int32) [(.ref pR5), (.ref pR15), (.ref pR26), .null, .null, .null, .null, .null, .null, .null, .null] .null := Arv.set Arq31 Akq31 Asq31 Anq31 Ahq31 Agq31 rfl W36 2 rfl (Nat.le_of_ble_eq_true rfl)
  have c40 : Sta Z h2 "com/example/ratatoskr/ratatoskr/query/Syntax$CastType" "REAL" "Lcom/example/ratatoskr/ratatoskr/query/Syntax$CastType;" (.ref pR39) := S_Syntax_CastType_REAL.ext E2
  have c41 : Sta Z h12 "com/example/ratatoskr/ratatoskr/query/Syntax$CastType" "REAL" "Lcom/example/ratatoskr/ratatoskr/query/Syntax$CastType;" (.ref pR39) := c40.wr W12
  have c42 : Sta Z h23 "com/example/ratatoskr/ratatoskr/query/Syntax$CastType" "REAL" "Lcom/example/ratatoskr/ratatoskr/query/Syntax$CastType;" (.ref pR39) := c41.wr W23
  have c43 : Sta Z h36 "com/example/ratatoskr/ratatoskr/query/Syntax$CastType" "REAL" "Lcom/example/ratatoskr/ratatoskr/query/Syntax$CastType;" (.ref pR39) := c42.wr W36
  obtain ⟨T44, X44, e44, st44⟩ := getS2 X36 hx hZ hown (host := "") (Or.inl (ow hw 10 rfl)) Via.refl e36 c43 (g := (mkF m 25 #[.val (.int pI1), .unset, .unset, .unset] [(.int (3 : Int32)), (.ref bR2), (.ref bR2)])) rfl (hb hby at_25)
  obtain ⟨clq45, Arq45, Akq45, Asq45, Anq45, Ahq45, Agq45⟩ := V36
  have hin46 : ¬ ((3 : Int32) < 0 ∨ clq45.slots.size ≤ ((3 : Int32)).toNatClampNeg) := inb_of Asq45 ⟨by decide, by decide⟩
  have c47 : Exa Z h2 pR39 "com/example/ratatoskr/ratatoskr/query/Syntax$CastType" := E_pR39.ext E2
  have c48 : Exa Z h12 pR39 "com/example/ratatoskr/ratatoskr/query/Syntax$CastType" := c47.wr W12
  have c49 : Exa Z h23 pR39 "com/example/ratatoskr/ratatoskr/query/Syntax$CastType" := c48.wr W23
  have c50 : Exa Z h36 pR39 "com/example/ratatoskr/ratatoskr/query/Syntax$CastType" := c49.wr W36
  obtain ⟨T51, h51, X51, e51, W51, st51⟩ := stR X44 hx hZ e44 Arq45 (j := (3 : Int32)) hin46 rfl (Sto.ofV Arq45 Akq45 O2 (Ins.self c50)) (g := (mkF m 28 #[.val (.int pI1), .unset, .unset, .unset] [(.ref pR39), (.int (3 : Int32)), (.ref bR2), (.ref bR2)])) rfl rfl (hb hby at_28)
  have Z53 : n0 ≤ h51.size := (Nat.le_trans Z38 (Keep.of_wr W51).1)
  have N51 := Fr.snoc X51 N36 g8
  obtain ⟨Lh51, X51, N51⟩ := own_hide X51 N51
  have V51 : Arv Z h51 bR2 k2 (.object "com/example/ratatoskr/ratatoskr/query/Syntax$CastType") (11 : Int32) [(.ref pR5), (.ref pR15), (.ref pR26), (.ref pR39), .null, .null, .null, .null, .null, .null, .null] .null := Arv.set Arq45 Akq45 Asq45 Anq45 Ahq45 Agq45 rfl W51 3 rfl (Nat.le_of_ble_eq_true rfl)
  have c55 : Sta Z h2 "com/example/ratatoskr/ratatoskr/query/Syntax$CastType" "DOUBLE" "Lcom/example/ratatoskr/ratatoskr/query/Syntax$CastType;" (.ref pR54) := S_Syntax_CastType_DOUBLE.ext E2
  have c56 : Sta Z h12 "com/example/ratatoskr/ratatoskr/query/Syntax$CastType" "DOUBLE" "Lcom/example/ratatoskr/ratatoskr/query/Syntax$CastType;" (.ref pR54) := c55.wr W12
  have c57 : Sta Z h23 "com/example/ratatoskr/ratatoskr/query/Syntax$CastType" "DOUBLE" "Lcom/example/ratatoskr/ratatoskr/query/Syntax$CastType;" (.ref pR54) := c56.wr W23
  have c58 : Sta Z h36 "com/example/ratatoskr/ratatoskr/query/Syntax$CastType" "DOUBLE" "Lcom/example/ratatoskr/ratatoskr/query/Syntax$CastType;" (.ref pR54) := c57.wr W36
  have c59 : Sta Z h51 "com/example/ratatoskr/ratatoskr/query/Syntax$CastType" "DOUBLE" "Lcom/example/ratatoskr/ratatoskr/query/Syntax$CastType;" (.ref pR54) := c58.wr W51
  obtain ⟨T60, X60, e60, st60⟩ := getS2 X51 hx hZ hown (host := "") (Or.inl (ow hw 12 rfl)) Via.refl e51 c59 (g := (mkF m 31 #[.val (.int pI1), .unset, .unset, .unset] [(.int (4 : Int32)), (.ref bR2), (.ref bR2)])) rfl (hb hby at_31)
  obtain ⟨clq61, Arq61, Akq61, Asq61, Anq61, Ahq61, Agq61⟩ := V51
  have hin62 : ¬ ((4 : Int32) < 0 ∨ clq61.slots.size ≤ ((4 : Int32)).toNatClampNeg) := inb_of Asq61 ⟨by decide, by decide⟩
  have c63 : Exa Z h2 pR54 "com/example/ratatoskr/ratatoskr/query/Syntax$CastType" := E_pR54.ext E2
  have c64 : Exa Z h12 pR54 "com/example/ratatoskr/ratatoskr/query/Syntax$CastType" := c63.wr W12
  have c65 : Exa Z h23 pR54 "com/example/ratatoskr/ratatoskr/query/Syntax$CastType" := c64.wr W23
  have c66 : Exa Z h36 pR54 "com/example/ratatoskr/ratatoskr/query/Syntax$CastType" := c65.wr W36
  have c67 : Exa Z h51 pR54 "com/example/ratatoskr/ratatoskr/query/Syntax$CastType" := c66.wr W51
  obtain ⟨T68, h68, X68, e68, W68, st68⟩ := stR X60 hx hZ e60 Arq61 (j := (4 : Int32)) hin62 rfl (Sto.ofV Arq61 Akq61 O2 (Ins.self c67)) (g := (mkF m 34 #[.val (.int pI1), .unset, .unset, .unset] [(.ref pR54), (.int (4 : Int32)), (.ref bR2), (.ref bR2)])) rfl rfl (hb hby at_34)
  have Z70 : n0 ≤ h68.size := (Nat.le_trans Z53 (Keep.of_wr W68).1)
  have N68 := Fr.snoc X68 N51 g8
  obtain ⟨Lh68, X68, N68⟩ := own_hide X68 N68
  have V68 : Arv Z h68 bR2 k2 (.object "com/example/ratatoskr/ratatoskr/query/Syntax$CastType") (11 : Int32) [(.ref pR5), (.ref pR15), (.ref pR26), (.ref pR39), (.ref pR54), .null, .null, .null, .null, .null, .null] .null := Arv.set Arq61 Akq61 Asq61 Anq61 Ahq61 Agq61 rfl W68 4 rfl (Nat.le_of_ble_eq_true rfl)
  have c72 : Sta Z h2 "com/example/ratatoskr/ratatoskr/query/Syntax$CastType" "CHAR" "Lcom/example/ratatoskr/ratatoskr/query/Syntax$CastType;" (.ref pR71) := S_Syntax_CastType_CHAR.ext E2
  have c73 : Sta Z h12 "com/example/ratatoskr/ratatoskr/query/Syntax$CastType" "CHAR" "Lcom/example/ratatoskr/ratatoskr/query/Syntax$CastType;" (.ref pR71) := c72.wr W12
  have c74 : Sta Z h23 "com/example/ratatoskr/ratatoskr/query/Syntax$CastType" "CHAR" "Lcom/example/ratatoskr/ratatoskr/query/Syntax$CastType;" (.ref pR71) := c73.wr W23
  have c75 : Sta Z h36 "com/example/ratatoskr/ratatoskr/query/Syntax$CastType" "CHAR" "Lcom/example/ratatoskr/ratatoskr/query/Syntax$CastType;" (.ref pR71) := c74.wr W36
  have c76 : Sta Z h51 "com/example/ratatoskr/ratatoskr/query/Syntax$CastType" "CHAR" "Lcom/example/ratatoskr/ratatoskr/query/Syntax$CastType;" (.ref pR71) := c75.wr W51
  have c77 : Sta Z h68 "com/example/ratatoskr/ratatoskr/query/Syntax$CastType" "CHAR" "Lcom/example/ratatoskr/ratatoskr/query/Syntax$CastType;" (.ref pR71) := c76.wr W68
  obtain ⟨T78, X78, e78, st78⟩ := getS2 X68 hx hZ hown (host := "") (Or.inl (ow hw 14 rfl)) Via.refl e68 c77 (g := (mkF m 37 #[.val (.int pI1), .unset, .unset, .unset] [(.int (5 : Int32)), (.ref bR2), (.ref bR2)])) rfl (hb hby at_37)
  obtain ⟨clq79, Arq79, Akq79, Asq79, Anq79, Ahq79, Agq79⟩ := V68
  have hin80 : ¬ ((5 : Int32) < 0 ∨ clq79.slots.size ≤ ((5 : Int32)).toNatClampNeg) := inb_of Asq79 ⟨by decide, by decide⟩
  have c81 : Exa Z h2 pR71 "com/example/ratatoskr/ratatoskr/query/Syntax$CastType" := E_pR71.ext E2
  have c82 : Exa Z h12 pR71 "com/example/ratatoskr/ratatoskr/query/Syntax$CastType" := c81.wr W12
  have c83 : Exa Z h23 pR71 "com/example/ratatoskr/ratatoskr/query/Syntax$CastType" := c82.wr W23
  have c84 : Exa Z h36 pR71 "com/example/ratatoskr/ratatoskr/query/Syntax$CastType" := c83.wr W36
  have c85 : Exa Z h51 pR71 "com/example/ratatoskr/ratatoskr/query/Syntax$CastType" := c84.wr W51
  have c86 : Exa Z h68 pR71 "com/example/ratatoskr/ratatoskr/query/Syntax$CastType" := c85.wr W68
  obtain ⟨T87, h87, X87, e87, W87, st87⟩ := stR X78 hx hZ e78 Arq79 (j := (5 : Int32)) hin80 rfl (Sto.ofV Arq79 Akq79 O2 (Ins.self c86)) (g := (mkF m 40 #[.val (.int pI1), .unset, .unset, .unset] [(.ref pR71), (.int (5 : Int32)), (.ref bR2), (.ref bR2)])) rfl rfl (hb hby at_40)
  have Z89 : n0 ≤ h87.size := (Nat.le_trans Z70 (Keep.of_wr W87).1)
  have N87 := Fr.snoc X87 N68 g8
  obtain ⟨Lh87, X87, N87⟩ := own_hide X87 N87
  have V87 : Arv Z h87 bR2 k2 (.object "com/example/ratatoskr/ratatoskr/query/Syntax$CastType") (11 : Int32) [(.ref pR5), (.ref pR15), (.ref pR26), (.ref pR39), (.ref pR54), (.ref pR71), .null, .null, .null, .null, .null] .null := Arv.set Arq79 Akq79 Asq79 Anq79 Ahq79 Agq79 rfl W87 5 rfl (Nat.le_of_ble_eq_true rfl)
  have c91 : Sta Z h2 "com/example/ratatoskr/ratatoskr/query/Syntax$CastType" "VARCHAR" "Lcom/example/ratatoskr/ratatoskr/query/Syntax$CastType;" (.ref pR90) := S_Syntax_CastType_VARCHAR.ext E2
  have c92 : Sta Z h12 "com/example/ratatoskr/ratatoskr/query/Syntax$CastType" "VARCHAR" "Lcom/example/ratatoskr/ratatoskr/query/Syntax$CastType;" (.ref pR90) := c91.wr W12
  have c93 : Sta Z h23 "com/example/ratatoskr/ratatoskr/query/Syntax$CastType" "VARCHAR" "Lcom/example/ratatoskr/ratatoskr/query/Syntax$CastType;" (.ref pR90) := c92.wr W23
  have c94 : Sta Z h36 "com/example/ratatoskr/ratatoskr/query/Syntax$CastType" "VARCHAR" "Lcom/example/ratatoskr/ratatoskr/query/Syntax$CastType;" (.ref pR90) := c93.wr W36
  have c95 : Sta Z h51 "com/example/ratatoskr/ratatoskr/query/Syntax$CastType" "VARCHAR" "Lcom/example/ratatoskr/ratatoskr/query/Syntax$CastType;" (.ref pR90) := c94.wr W51
  have c96 : Sta Z h68 "com/example/ratatoskr/ratatoskr/query/Syntax$CastType" "VARCHAR" "Lcom/example/ratatoskr/ratatoskr/query/Syntax$CastType;" (.ref pR90) := c95.wr W68
  have c97 : Sta Z h87 "com/example/ratatoskr/ratatoskr/query/Syntax$CastType" "VARCHAR" "Lcom/example/ratatoskr/ratatoskr/query/Syntax$CastType;" (.ref pR90) := c96.wr W87
  obtain ⟨T98, X98, e98, st98⟩ := getS2 X87 hx hZ hown (host := "") (Or.inl (ow hw 16 rfl)) Via.refl e87 c97 (g := (mkF m 44 #[.val (.int pI1), .unset, .unset, .unset] [(.int (6 : Int32)), (.ref bR2), (.ref bR2)])) rfl (hb hby at_44)
  obtain ⟨clq99, Arq99, Akq99, Asq99, Anq99, Ahq99, Agq99⟩ := V87
  have hin100 : ¬ ((6 : Int32) < 0 ∨ clq99.slots.size ≤ ((6 : Int32)).toNatClampNeg) := inb_of Asq99 ⟨by decide, by decide⟩
  have c101 : Exa Z h2 pR90 "com/example/ratatoskr/ratatoskr/query/Syntax$CastType" := E_pR90.ext E2
  have c102 : Exa Z h12 pR90 "com/example/ratatoskr/ratatoskr/query/Syntax$CastType" := c101.wr W12
  have c103 : Exa Z h23 pR90 "com/example/ratatoskr/ratatoskr/query/Syntax$CastType" := c102.wr W23
  have c104 : Exa Z h36 pR90 "com/example/ratatoskr/ratatoskr/query/Syntax$CastType" := c103.wr W36
  have c105 : Exa Z h51 pR90 "com/example/ratatoskr/ratatoskr/query/Syntax$CastType" := c104.wr W51
  have c106 : Exa Z h68 pR90 "com/example/ratatoskr/ratatoskr/query/Syntax$CastType" := c105.wr W68
  have c107 : Exa Z h87 pR90 "com/example/ratatoskr/ratatoskr/query/Syntax$CastType" := c106.wr W87
  obtain ⟨T108, h108, X108, e108, W108, st108⟩ := stR X98 hx hZ e98 Arq99 (j := (6 : Int32)) hin100 rfl (Sto.ofV Arq99 Akq99 O2 (Ins.self c107)) (g := (mkF m 47 #[.val (.int pI1), .unset, .unset, .unset] [(.ref pR90), (.int (6 : Int32)), (.ref bR2), (.ref bR2)])) rfl rfl (hb hby at_47)
  have Z110 : n0 ≤ h108.size := (Nat.le_trans Z89 (Keep.of_wr W108).1)
  have N108 := Fr.snoc X108 N87 g8
  obtain ⟨Lh108, X108, N108⟩ := own_hide X108 N108
  have V108 : Arv Z h108 bR2 k2 (.object "com/example/ratatoskr/ratatoskr/query/Syntax$CastType") (11 : Int32) [(.ref pR5), (.ref pR15), (.ref pR26), (.ref pR39), (.ref pR54), (.ref pR71), (.ref pR90), .null, .null, .null, .null] .null := Arv.set Arq99 Akq99 Asq99 Anq99 Ahq99 Agq99 rfl W108 6 rfl (Nat.le_of_ble_eq_true rfl)
  have c112 : Sta Z h2 "com/example/ratatoskr/ratatoskr/query/Syntax$CastType" "TIMESTAMP" "Lcom/example/ratatoskr/ratatoskr/query/Syntax$CastType;" (.ref pR111) := S_Syntax_CastType_TIMESTAMP.ext E2
  have c113 : Sta Z h12 "com/example/ratatoskr/ratatoskr/query/Syntax$CastType" "TIMESTAMP" "Lcom/example/ratatoskr/ratatoskr/query/Syntax$CastType;" (.ref pR111) := c112.wr W12
  have c114 : Sta Z h23 "com/example/ratatoskr/ratatoskr/query/Syntax$CastType" "TIMESTAMP" "Lcom/example/ratatoskr/ratatoskr/query/Syntax$CastType;" (.ref pR111) := c113.wr W23
  have c115 : Sta Z h36 "com/example/ratatoskr/ratatoskr/query/Syntax$CastType" "TIMESTAMP" "Lcom/example/ratatoskr/ratatoskr/query/Syntax$CastType;" (.ref pR111) := c114.wr W36
  have c116 : Sta Z h51 "com/example/ratatoskr/ratatoskr/query/Syntax$CastType" "TIMESTAMP" "Lcom/example/ratatoskr/ratatoskr/query/Syntax$CastType;" (.ref pR111) := c115.wr W51
  have c117 : Sta Z h68 "com/example/ratatoskr/ratatoskr/query/Syntax$CastType" "TIMESTAMP" "Lcom/example/ratatoskr/ratatoskr/query/Syntax$CastType;" (.ref pR111) := c116.wr W68
  have c118 : Sta Z h87 "com/example/ratatoskr/ratatoskr/query/Syntax$CastType" "TIMESTAMP" "Lcom/example/ratatoskr/ratatoskr/query/Syntax$CastType;" (.ref pR111) := c117.wr W87
  have c119 : Sta Z h108 "com/example/ratatoskr/ratatoskr/query/Syntax$CastType" "TIMESTAMP" "Lcom/example/ratatoskr/ratatoskr/query/Syntax$CastType;" (.ref pR111) := c118.wr W108
  obtain ⟨T120, X120, e120, st120⟩ := getS2 X108 hx hZ hown (host := "") (Or.inl (ow hw 18 rfl)) Via.refl e108 c119 (g := (mkF m 51 #[.val (.int pI1), .unset, .unset, .unset] [(.int (7 : Int32)), (.ref bR2), (.ref bR2)])) rfl (hb hby at_51)
  obtain ⟨clq121, Arq121, Akq121, Asq121, Anq121, Ahq121, Agq121⟩ := V108
  have hin122 : ¬ ((7 : Int32) < 0 ∨ clq121.slots.size ≤ ((7 : Int32)).toNatClampNeg) := inb_of Asq121 ⟨by decide, by decide⟩
  have c123 : Exa Z h2 pR111 "com/example/ratatoskr/ratatoskr/query/Syntax$CastType" := E_pR111.ext E2
  have c124 : Exa Z h12 pR111 "com/example/ratatoskr/ratatoskr/query/Syntax$CastType" := c123.wr W12
  have c125 : Exa Z h23 pR111 "com/example/ratatoskr/ratatoskr/query/Syntax$CastType" := c124.wr W23
  have c126 : Exa Z h36 pR111 "com/example/ratatoskr/ratatoskr/query/Syntax$CastType" := c125.wr W36
  have c127 : Exa Z h51 pR111 "com/example/ratatoskr/ratatoskr/query/Syntax$CastType" := c126.wr W51
  have c128 : Exa Z h68 pR111 "com/example/ratatoskr/ratatoskr/query/Syntax$CastType" := c127.wr W68
  have c129 : Exa Z h87 pR111 "com/example/ratatoskr/ratatoskr/query/Syntax$CastType" := c128.wr W87
  have c130 : Exa Z h108 pR111 "com/example/ratatoskr/ratatoskr/query/Syntax$CastType" := c129.wr W108
  obtain ⟨T131, h131, X131, e131, W131, st131⟩ := stR X120 hx hZ e120 Arq121 (j := (7 : Int32)) hin122 rfl (Sto.ofV Arq121 Akq121 O2 (Ins.self c130)) (g := (mkF m 54 #[.val (.int pI1), .unset, .unset, .unset] [(.ref pR111), (.int (7 : Int32)), (.ref bR2), (.ref bR2)])) rfl rfl (hb hby at_54)
  have Z133 : n0 ≤ h131.size := (Nat.le_trans Z110 (Keep.of_wr W131).1)
  have N131 := Fr.snoc X131 N108 g8
  obtain ⟨Lh131, X131, N131⟩ := own_hide X131 N131
  have V131 : Arv Z h131 bR2 k2 (.object "com/example/ratatoskr/ratatoskr/query/Syntax$CastType") (11 : Int32) [(.ref pR5), (.ref pR15), (.ref pR26), (.ref pR39), (.ref pR54), (.ref pR71), (.ref pR90), (.ref pR111), .null, .null, .null] .null := Arv.set Arq121 Akq121 Asq121 Anq121 Ahq121 Agq121 rfl W131 7 rfl (Nat.le_of_ble_eq_true rfl)
  have c135 : Sta Z h2 "com/example/ratatoskr/ratatoskr/query/Syntax$CastType" "POINT" "Lcom/example/ratatoskr/ratatoskr/query/Syntax$CastType;" (.ref pR134) := S_Syntax_CastType_POINT.ext E2
  have c136 : Sta Z h12 "com/example/ratatoskr/ratatoskr/query/Syntax$CastType" "POINT" "Lcom/example/ratatoskr/ratatoskr/query/Syntax$CastType;" (.ref pR134) := c135.wr W12
  have c137 : Sta Z h23 "com/example/ratatoskr/ratatoskr/query/Syntax$CastType" "POINT" "Lcom/example/ratatoskr/ratatoskr/query/Syntax$CastType;" (.ref pR134) := c136.wr W23
  have c138 : Sta Z h36 "com/example/ratatoskr/ratatoskr/query/Syntax$CastType" "POINT" "Lcom/example/ratatoskr/ratatoskr/query/Syntax$CastType;" (.ref pR134) := c137.wr W36
  have c139 : Sta Z h51 "com/example/ratatoskr/ratatoskr/query/Syntax$CastType" "POINT" "Lcom/example/ratatoskr/ratatoskr/query/Syntax$CastType;" (.ref pR134) := c138.wr W51
  have c140 : Sta Z h68 "com/example/ratatoskr/ratatoskr/query/Syntax$CastType" "POINT" "Lcom/example/ratatoskr/ratatoskr/query/Syntax$CastType;" (.ref pR134) := c139.wr W68
  have c141 : Sta Z h87 "com/example/ratatoskr/ratatoskr/query/Syntax$CastType" "POINT" "Lcom/example/ratatoskr/ratatoskr/query/Syntax$CastType;" (.ref pR134) := c140.wr W87
  have c142 : Sta Z h108 "com/example/ratatoskr/ratatoskr/query/Syntax$CastType" "POINT" "Lcom/example/ratatoskr/ratatoskr/query/Syntax$CastType;" (.ref pR134) := c141.wr W108
  have c143 : Sta Z h131 "com/example/ratatoskr/ratatoskr/query/Syntax$CastType" "POINT" "Lcom/example/ratatoskr/ratatoskr/query/Syntax$CastType;" (.ref pR134) := c142.wr W131
  obtain ⟨T144, X144, e144, st144⟩ := getS2 X131 hx hZ hown (host := "") (Or.inl (ow hw 20 rfl)) Via.refl e131 c143 (g := (mkF m 58 #[.val (.int pI1), .unset, .unset, .unset] [(.int (8 : Int32)), (.ref bR2), (.ref bR2)])) rfl (hb hby at_58)
  obtain ⟨clq145, Arq145, Akq145, Asq145, Anq145, Ahq145, Agq145⟩ := V131
  have hin146 : ¬ ((8 : Int32) < 0 ∨ clq145.slots.size ≤ ((8 : Int32)).toNatClampNeg) := inb_of Asq145 ⟨by decide, by decide⟩
  have c147 : Exa Z h2 pR134 "com/example/ratatoskr/ratatoskr/query/Syntax$CastType" := E_pR134.ext E2
  have c148 : Exa Z h12 pR134 "com/example/ratatoskr/ratatoskr/query/Syntax$CastType" := c147.wr W12
  have c149 : Exa Z h23 pR134 "com/example/ratatoskr/ratatoskr/query/Syntax$CastType" := c148.wr W23
  have c150 : Exa Z h36 pR134 "com/example/ratatoskr/ratatoskr/query/Syntax$CastType" := c149.wr W36
  have c151 : Exa Z h51 pR134 "com/example/ratatoskr/ratatoskr/query/Syntax$CastType" := c150.wr W51
  have c152 : Exa Z h68 pR134 "com/example/ratatoskr/ratatoskr/query/Syntax$CastType" := c151.wr W68
  have c153 : Exa Z h87 pR134 "com/example/ratatoskr/ratatoskr/query/Syntax$CastType" := c152.wr W87
  have c154 : Exa Z h108 pR134 "com/example/ratatoskr/ratatoskr/query/Syntax$CastType" := c153.wr W108
  have c155 : Exa Z h131 pR134 "com/example/ratatoskr/ratatoskr/query/Syntax$CastType" := c154.wr W131
  obtain ⟨T156, h156, X156, e156, W156, st156⟩ := stR X144 hx hZ e144 Arq145 (j := (8 : Int32)) hin146 rfl (Sto.ofV Arq145 Akq145 O2 (Ins.self c155)) (g := (mkF m 61 #[.val (.int pI1), .unset, .unset, .unset] [(.ref pR134), (.int (8 : Int32)), (.ref bR2), (.ref bR2)])) rfl rfl (hb hby at_61)
  have Z158 : n0 ≤ h156.size := (Nat.le_trans Z133 (Keep.of_wr W156).1)
  have N156 := Fr.snoc X156 N131 g8
  obtain ⟨Lh156, X156, N156⟩ := own_hide X156 N156
  have V156 : Arv Z h156 bR2 k2 (.object "com/example/ratatoskr/ratatoskr/query/Syntax$CastType") (11 : Int32) [(.ref pR5), (.ref pR15), (.ref pR26), (.ref pR39), (.ref pR54), (.ref pR71), (.ref pR90), (.ref pR111), (.ref pR134), .null, .null] .null := Arv.set Arq145 Akq145 Asq145 Anq145 Ahq145 Agq145 rfl W156 8 rfl (Nat.le_of_ble_eq_true rfl)
  have c160 : Sta Z h2 "com/example/ratatoskr/ratatoskr/query/Syntax$CastType" "CIRCLE" "Lcom/example/ratatoskr/ratatoskr/query/Syntax$CastType;" (.ref pR159) := S_Syntax_CastType_CIRCLE.ext E2
  have c161 : Sta Z h12 "com/example/ratatoskr/ratatoskr/query/Syntax$CastType" "CIRCLE" "Lcom/example/ratatoskr/ratatoskr/query/Syntax$CastType;" (.ref pR159) := c160.wr W12
  have c162 : Sta Z h23 "com/example/ratatoskr/ratatoskr/query/Syntax$CastType" "CIRCLE" "Lcom/example/ratatoskr/ratatoskr/query/Syntax$CastType;" (.ref pR159) := c161.wr W23
  have c163 : Sta Z h36 "com/example/ratatoskr/ratatoskr/query/Syntax$CastType" "CIRCLE" "Lcom/example/ratatoskr/ratatoskr/query/Syntax$CastType;" (.ref pR159) := c162.wr W36
  have c164 : Sta Z h51 "com/example/ratatoskr/ratatoskr/query/Syntax$CastType" "CIRCLE" "Lcom/example/ratatoskr/ratatoskr/query/Syntax$CastType;" (.ref pR159) := c163.wr W51
  have c165 : Sta Z h68 "com/example/ratatoskr/ratatoskr/query/Syntax$CastType" "CIRCLE" "Lcom/example/ratatoskr/ratatoskr/query/Syntax$CastType;" (.ref pR159) := c164.wr W68
  have c166 : Sta Z h87 "com/example/ratatoskr/ratatoskr/query/Syntax$CastType" "CIRCLE" "Lcom/example/ratatoskr/ratatoskr/query/Syntax$CastType;" (.ref pR159) := c165.wr W87
  have c167 : Sta Z h108 "com/example/ratatoskr/ratatoskr/query/Syntax$CastType" "CIRCLE" "Lcom/example/ratatoskr/ratatoskr/query/Syntax$CastType;" (.ref pR159) := c166.wr W108
  have c168 : Sta Z h131 "com/example/ratatoskr/ratatoskr/query/Syntax$CastType" "CIRCLE" "Lcom/example/ratatoskr/ratatoskr/query/Syntax$CastType;" (.ref pR159) := c167.wr W131
  have c169 : Sta Z h156 "com/example/ratatoskr/ratatoskr/query/Syntax$CastType" "CIRCLE" "Lcom/example/ratatoskr/ratatoskr/query/Syntax$CastType;" (.ref pR159) := c168.wr W156
  obtain ⟨T170, X170, e170, st170⟩ := getS2 X156 hx hZ hown (host := "") (Or.inl (ow hw 22 rfl)) Via.refl e156 c169 (g := (mkF m 65 #[.val (.int pI1), .unset, .unset, .unset] [(.int (9 : Int32)), (.ref bR2), (.ref bR2)])) rfl (hb hby at_65)
  obtain ⟨clq171, Arq171, Akq171, Asq171, Anq171, Ahq171, Agq171⟩ := V156
  have hin172 : ¬ ((9 : Int32) < 0 ∨ clq171.slots.size ≤ ((9 : Int32)).toNatClampNeg) := inb_of Asq171 ⟨by decide, by decide⟩
  have c173 : Exa Z h2 pR159 "com/example/ratatoskr/ratatoskr/query/Syntax$CastType" := E_pR159.ext E2
  have c174 : Exa Z h12 pR159 "com/example/ratatoskr/ratatoskr/query/Syntax$CastType" := c173.wr W12
  have c175 : Exa Z h23 pR159 "com/example/ratatoskr/ratatoskr/query/Syntax$CastType" := c174.wr W23
  have c176 : Exa Z h36 pR159 "com/example/ratatoskr/ratatoskr/query/Syntax$CastType" := c175.wr W36
  have c177 : Exa Z h51 pR159 "com/example/ratatoskr/ratatoskr/query/Syntax$CastType" := c176.wr W51
  have c178 : Exa Z h68 pR159 "com/example/ratatoskr/ratatoskr/query/Syntax$CastType" := c177.wr W68
  have c179 : Exa Z h87 pR159 "com/example/ratatoskr/ratatoskr/query/Syntax$CastType" := c178.wr W87
  have c180 : Exa Z h108 pR159 "com/example/ratatoskr/ratatoskr/query/Syntax$CastType" := c179.wr W108
  have c181 : Exa Z h131 pR159 "com/example/ratatoskr/ratatoskr/query/Syntax$CastType" := c180.wr W131
  have c182 : Exa Z h156 pR159 "com/example/ratatoskr/ratatoskr/query/Syntax$CastType" := c181.wr W156
  obtain ⟨T183, h183, X183, e183, W183, st183⟩ := stR X170 hx hZ e170 Arq171 (j := (9 : Int32)) hin172 rfl (Sto.ofV Arq171 Akq171 O2 (Ins.self c182)) (g := (mkF m 68 #[.val (.int pI1), .unset, .unset, .unset] [(.ref pR159), (.int (9 : Int32)), (.ref bR2), (.ref bR2)])) rfl rfl (hb hby at_68)
  have Z185 : n0 ≤ h183.size := (Nat.le_trans Z158 (Keep.of_wr W183).1)
  have N183 := Fr.snoc X183 N156 g8
  obtain ⟨Lh183, X183, N183⟩ := own_hide X183 N183
  have V183 : Arv Z h183 bR2 k2 (.object "com/example/ratatoskr/ratatoskr/query/Syntax$CastType") (11 : Int32) [(.ref pR5), (.ref pR15), (.ref pR26), (.ref pR39), (.ref pR54), (.ref pR71), (.ref pR90), (.ref pR111), (.ref pR134), (.ref pR159), .null] .null := Arv.set Arq171 Akq171 Asq171 Anq171 Ahq171 Agq171 rfl W183 9 rfl (Nat.le_of_ble_eq_true rfl)
  have c187 : Sta Z h2 "com/example/ratatoskr/ratatoskr/query/Syntax$CastType" "POLYGON" "Lcom/example/ratatoskr/ratatoskr/query/Syntax$CastType;" (.ref pR186) := S_Syntax_CastType_POLYGON.ext E2
  have c188 : Sta Z h12 "com/example/ratatoskr/ratatoskr/query/Syntax$CastType" "POLYGON" "Lcom/example/ratatoskr/ratatoskr/query/Syntax$CastType;" (.ref pR186) := c187.wr W12
  have c189 : Sta Z h23 "com/example/ratatoskr/ratatoskr/query/Syntax$CastType" "POLYGON" "Lcom/example/ratatoskr/ratatoskr/query/Syntax$CastType;" (.ref pR186) := c188.wr W23
  have c190 : Sta Z h36 "com/example/ratatoskr/ratatoskr/query/Syntax$CastType" "POLYGON" "Lcom/example/ratatoskr/ratatoskr/query/Syntax$CastType;" (.ref pR186) := c189.wr W36
  have c191 : Sta Z h51 "com/example/ratatoskr/ratatoskr/query/Syntax$CastType" "POLYGON" "Lcom/example/ratatoskr/ratatoskr/query/Syntax$CastType;" (.ref pR186) := c190.wr W51
  have c192 : Sta Z h68 "com/example/ratatoskr/ratatoskr/query/Syntax$CastType" "POLYGON" "Lcom/example/ratatoskr/ratatoskr/query/Syntax$CastType;" (.ref pR186) := c191.wr W68
  have c193 : Sta Z h87 "com/example/ratatoskr/ratatoskr/query/Syntax$CastType" "POLYGON" "Lcom/example/ratatoskr/ratatoskr/query/Syntax$CastType;" (.ref pR186) := c192.wr W87
  have c194 : Sta Z h108 "com/example/ratatoskr/ratatoskr/query/Syntax$CastType" "POLYGON" "Lcom/example/ratatoskr/ratatoskr/query/Syntax$CastType;" (.ref pR186) := c193.wr W108
  have c195 : Sta Z h131 "com/example/ratatoskr/ratatoskr/query/Syntax$CastType" "POLYGON" "Lcom/example/ratatoskr/ratatoskr/query/Syntax$CastType;" (.ref pR186) := c194.wr W131
  have c196 : Sta Z h156 "com/example/ratatoskr/ratatoskr/query/Syntax$CastType" "POLYGON" "Lcom/example/ratatoskr/ratatoskr/query/Syntax$CastType;" (.ref pR186) := c195.wr W156
  have c197 : Sta Z h183 "com/example/ratatoskr/ratatoskr/query/Syntax$CastType" "POLYGON" "Lcom/example/ratatoskr/ratatoskr/query/Syntax$CastType;" (.ref pR186) := c196.wr W183
  obtain ⟨T198, X198, e198, st198⟩ := getS2 X183 hx hZ hown (host := "") (Or.inl (ow hw 24 rfl)) Via.refl e183 c197 (g := (mkF m 72 #[.val (.int pI1), .unset, .unset, .unset] [(.int (10 : Int32)), (.ref bR2), (.ref bR2)])) rfl (hb hby at_72)
  obtain ⟨clq199, Arq199, Akq199, Asq199, Anq199, Ahq199, Agq199⟩ := V183
  have hin200 : ¬ ((10 : Int32) < 0 ∨ clq199.slots.size ≤ ((10 : Int32)).toNatClampNeg) := inb_of Asq199 ⟨by decide, by decide⟩
  have c201 : Exa Z h2 pR186 "com/example/ratatoskr/ratatoskr/query/Syntax$CastType" := E_pR186.ext E2
  have c202 : Exa Z h12 pR186 "com/example/ratatoskr/ratatoskr/query/Syntax$CastType" := c201.wr W12
  have c203 : Exa Z h23 pR186 "com/example/ratatoskr/ratatoskr/query/Syntax$CastType" := c202.wr W23
  have c204 : Exa Z h36 pR186 "com/example/ratatoskr/ratatoskr/query/Syntax$CastType" := c203.wr W36
  have c205 : Exa Z h51 pR186 "com/example/ratatoskr/ratatoskr/query/Syntax$CastType" := c204.wr W51
  have c206 : Exa Z h68 pR186 "com/example/ratatoskr/ratatoskr/query/Syntax$CastType" := c205.wr W68
  have c207 : Exa Z h87 pR186 "com/example/ratatoskr/ratatoskr/query/Syntax$CastType" := c206.wr W87
  have c208 : Exa Z h108 pR186 "com/example/ratatoskr/ratatoskr/query/Syntax$CastType" := c207.wr W108
  have c209 : Exa Z h131 pR186 "com/example/ratatoskr/ratatoskr/query/Syntax$CastType" := c208.wr W131
  have c210 : Exa Z h156 pR186 "com/example/ratatoskr/ratatoskr/query/Syntax$CastType" := c209.wr W156
  have c211 : Exa Z h183 pR186 "com/example/ratatoskr/ratatoskr/query/Syntax$CastType" := c210.wr W183
  obtain ⟨T212, h212, X212, e212, W212, st212⟩ := stR X198 hx hZ e198 Arq199 (j := (10 : Int32)) hin200 rfl (Sto.ofV Arq199 Akq199 O2 (Ins.self c211)) (g := (mkF m 75 #[.val (.int pI1), .unset, .unset, .unset] [(.ref pR186), (.int (10 : Int32)), (.ref bR2), (.ref bR2)])) rfl rfl (hb hby at_75)
  have Z214 : n0 ≤ h212.size := (Nat.le_trans Z185 (Keep.of_wr W212).1)
  have N212 := Fr.snoc X212 N183 g8
  obtain ⟨Lh212, X212, N212⟩ := own_hide X212 N212
  have V212 : Arv Z h212 bR2 k2 (.object "com/example/ratatoskr/ratatoskr/query/Syntax$CastType") (11 : Int32) [(.ref pR5), (.ref pR15), (.ref pR26), (.ref pR39), (.ref pR54), (.ref pR71), (.ref pR90), (.ref pR111), (.ref pR134), (.ref pR159), (.ref pR186)] .null := Arv.set Arq199 Akq199 Asq199 Anq199 Ahq199 Agq199 rfl W212 10 rfl (Nat.le_of_ble_eq_true rfl)
  obtain ⟨T215, h215, k215, X215, e215, E215, A215, st215⟩ := newP X212 hx hZ (ow hw 26 rfl) e212 (g := (mkF m 79 #[.val (.int pI1), .val (.ref bR2), .unset, .unset] [(.int (11 : Int32))])) rfl (hb hby at_79) rfl (by decide) (cap := 11) (by decide) (by decide) (by decide) (by decide)
  obtain ⟨bR215, g215⟩ : ∃ z, z = h212.size := ⟨_, rfl⟩
  rw [← g215] at A215 st215
  have Z217 : n0 ≤ h215.size := (Nat.le_trans Z214 E215.1)
  have V215 : Arv Z h215 bR215 k215 .boolean (11 : Int32) [(.int (0 : Int32)), (.int (0 : Int32)), (.int (0 : Int32)), (.int (0 : Int32)), (.int (0 : Int32)), (.int (0 : Int32)), (.int (0 : Int32)), (.int (0 : Int32)), (.int (0 : Int32)), (.int (0 : Int32)), (.int (0 : Int32))] (.int (0 : Int32)) := (Arv.new A215 (by decide)).pad (pad_rep [] (.int (0 : Int32)) 11)
  have g218 : n0 ≤ bR215 := Nat.le_trans Z214 (Nat.le_of_eq g215.symm)
  obtain ⟨clq219, Arq219, Akq219, Asq219, Anq219, Ahq219, Agq219⟩ := V215
  have hin220 : ¬ ((0 : Int32) < 0 ∨ clq219.slots.size ≤ ((0 : Int32)).toNatClampNeg) := inb_of Asq219 ⟨by decide, by decide⟩
  obtain ⟨T221, h221, X221, e221, W221, st221⟩ := stZ X215 hx hZ e215 Arq219 (j := (0 : Int32)) hin220 (g := (mkF m 84 #[.val (.int pI1), .val (.ref bR2), .unset, .unset] [(.int (0 : Int32)), (.int (0 : Int32)), (.ref bR215), (.ref bR215)])) rfl rfl (hb hby at_84)
  have Z223 : n0 ≤ h221.size := (Nat.le_trans Z217 (Keep.of_wr W221).1)
  have N221 := Fr.snoc X221 N212 g218
  obtain ⟨Lh221, X221, N221⟩ := own_hide X221 N221
  have V221 : Arv Z h221 bR215 k215 .boolean (11 : Int32) [(.int (0 : Int32)), (.int (0 : Int32)), (.int (0 : Int32)), (.int (0 : Int32)), (.int (0 : Int32)), (.int (0 : Int32)), (.int (0 : Int32)), (.int (0 : Int32)), (.int (0 : Int32)), (.int (0 : Int32)), (.int (0 : Int32))] (.int (0 : Int32)) := Arv.set Arq219 Akq219 Asq219 Anq219 Ahq219 Agq219 (by first | rfl | exact fits_nar_bool _) W221 0 rfl (Nat.le_of_ble_eq_true rfl)
  obtain ⟨clq224, Arq224, Akq224, Asq224, Anq224, Ahq224, Agq224⟩ := V221
  have hin225 : ¬ ((1 : Int32) < 0 ∨ clq224.slots.size ≤ ((1 : Int32)).toNatClampNeg) := inb_of Asq224 ⟨by decide, by decide⟩
  obtain ⟨T226, h226, X226, e226, W226, st226⟩ := stZ X221 hx hZ e221 Arq224 (j := (1 : Int32)) hin225 (g := (mkF m 88 #[.val (.int pI1), .val (.ref bR2), .unset, .unset] [(.int (0 : Int32)), (.int (1 : Int32)), (.ref bR215), (.ref bR215)])) rfl rfl (hb hby at_88)
  have Z228 : n0 ≤ h226.size := (Nat.le_trans Z223 (Keep.of_wr W226).1)
  have N226 := Fr.snoc X226 N221 g218
  obtain ⟨Lh226, X226, N226⟩ := own_hide X226 N226
  have V226 : Arv Z h226 bR215 k215 .boolean (11 : Int32) [(.int (0 : Int32)), (.int (0 : Int32)), (.int (0 : Int32)), (.int (0 : Int32)), (.int (0 : Int32)), (.int (0 : Int32)), (.int (0 : Int32)), (.int (0 : Int32)), (.int (0 : Int32)), (.int (0 : Int32)), (.int (0 : Int32))] (.int (0 : Int32)) := Arv.set Arq224 Akq224 Asq224 Anq224 Ahq224 Agq224 (by first | rfl | exact fits_nar_bool _) W226 1 rfl (Nat.le_of_ble_eq_true rfl)
  obtain ⟨clq229, Arq229, Akq229, Asq229, Anq229, Ahq229, Agq229⟩ := V226
  have hin230 : ¬ ((2 : Int32) < 0 ∨ clq229.slots.size ≤ ((2 : Int32)).toNatClampNeg) := inb_of Asq229 ⟨by decide, by decide⟩
  obtain ⟨T231, h231, X231, e231, W231, st231⟩ := stZ X226 hx hZ e226 Arq229 (j := (2 : Int32)) hin230 (g := (mkF m 92 #[.val (.int pI1), .val (.ref bR2), .unset, .unset] [(.int (0 : Int32)), (.int (2 : Int32)), (.ref bR215), (.ref bR215)])) rfl rfl (hb hby at_92)
  have Z233 : n0 ≤ h231.size := (Nat.le_trans Z228 (Keep.of_wr W231).1)
  have N231 := Fr.snoc X231 N226 g218
  obtain ⟨Lh231, X231, N231⟩ := own_hide X231 N231
  have V231 : Arv Z h231 bR215 k215 .boolean (11 : Int32) [(.int (0 : Int32)), (.int (0 : Int32)), (.int (0 : Int32)), (.int (0 : Int32)), (.int (0 : Int32)), (.int (0 : Int32)), (.int (0 : Int32)), (.int (0 : Int32)), (.int (0 : Int32)), (.int (0 : Int32)), (.int (0 : Int32))] (.int (0 : Int32)) := Arv.set Arq229 Akq229 Asq229 Anq229 Ahq229 Agq229 (by first | rfl | exact fits_nar_bool _) W231 2 rfl (Nat.le_of_ble_eq_true rfl)
  obtain ⟨clq234, Arq234, Akq234, Asq234, Anq234, Ahq234, Agq234⟩ := V231
  have hin235 : ¬ ((3 : Int32) < 0 ∨ clq234.slots.size ≤ ((3 : Int32)).toNatClampNeg) := inb_of Asq234 ⟨by decide, by decide⟩
  obtain ⟨T236, h236, X236, e236, W236, st236⟩ := stZ X231 hx hZ e231 Arq234 (j := (3 : Int32)) hin235 (g := (mkF m 96 #[.val (.int pI1), .val (.ref bR2), .unset, .unset] [(.int (0 : Int32)), (.int (3 : Int32)), (.ref bR215), (.ref bR215)])) rfl rfl (hb hby at_96)
  have Z238 : n0 ≤ h236.size := (Nat.le_trans Z233 (Keep.of_wr W236).1)
  have N236 := Fr.snoc X236 N231 g218
  obtain ⟨Lh236, X236, N236⟩ := own_hide X236 N236
  have V236 : Arv Z h236 bR215 k215 .boolean (11 : Int32) [(.int (0 : Int32)), (.int (0 : Int32)), (.int (0 : Int32)), (.int (0 : Int32)), (.int (0 : Int32)), (.int (0 : Int32)), (.int (0 : Int32)), (.int (0 : Int32)), (.int (0 : Int32)), (.int (0 : Int32)), (.int (0 : Int32))] (.int (0 : Int32)) := Arv.set Arq234 Akq234 Asq234 Anq234 Ahq234 Agq234 (by first | rfl | exact fits_nar_bool _) W236 3 rfl (Nat.le_of_ble_eq_true rfl)
  obtain ⟨clq239, Arq239, Akq239, Asq239, Anq239, Ahq239, Agq239⟩ := V236
  have hin240 : ¬ ((4 : Int32) < 0 ∨ clq239.slots.size ≤ ((4 : Int32)).toNatClampNeg) := inb_of Asq239 ⟨by decide, by decide⟩
  obtain ⟨T241, h241, X241, e241, W241, st241⟩ := stZ X236 hx hZ e236 Arq239 (j := (4 : Int32)) hin240 (g := (mkF m 100 #[.val (.int pI1), .val (.ref bR2), .unset, .unset] [(.int (0 : Int32)), (.int (4 : Int32)), (.ref bR215), (.ref bR215)])) rfl rfl (hb hby at_100)
  have Z243 : n0 ≤ h241.size := (Nat.le_trans Z238 (Keep.of_wr W241).1)
  have N241 := Fr.snoc X241 N236 g218
  obtain ⟨Lh241, X241, N241⟩ := own_hide X241 N241
  have V241 : Arv Z h241 bR215 k215 .boolean (11 : Int32) [(.int (0 : Int32)), (.int (0 : Int32)), (.int (0 : Int32)), (.int (0 : Int32)), (.int (0 : Int32)), (.int (0 : Int32)), (.int (0 : Int32)), (.int (0 : Int32)), (.int (0 : Int32)), (.int (0 : Int32)), (.int (0 : Int32))] (.int (0 : Int32)) := Arv.set Arq239 Akq239 Asq239 Anq239 Ahq239 Agq239 (by first | rfl | exact fits_nar_bool _) W241 4 rfl (Nat.le_of_ble_eq_true rfl)
  obtain ⟨clq244, Arq244, Akq244, Asq244, Anq244, Ahq244, Agq244⟩ := V241
  have hin245 : ¬ ((5 : Int32) < 0 ∨ clq244.slots.size ≤ ((5 : Int32)).toNatClampNeg) := inb_of Asq244 ⟨by decide, by decide⟩
  obtain ⟨T246, h246, X246, e246, W246, st246⟩ := stZ X241 hx hZ e241 Arq244 (j := (5 : Int32)) hin245 (g := (mkF m 104 #[.val (.int pI1), .val (.ref bR2), .unset, .unset] [(.int (1 : Int32)), (.int (5 : Int32)), (.ref bR215), (.ref bR215)])) rfl rfl (hb hby at_104)
  have Z248 : n0 ≤ h246.size := (Nat.le_trans Z243 (Keep.of_wr W246).1)
  have N246 := Fr.snoc X246 N241 g218
  obtain ⟨Lh246, X246, N246⟩ := own_hide X246 N246
  have V246 : Arv Z h246 bR215 k215 .boolean (11 : Int32) [(.int (0 : Int32)), (.int (0 : Int32)), (.int (0 : Int32)), (.int (0 : Int32)), (.int (0 : Int32)), (.int (1 : Int32)), (.int (0 : Int32)), (.int (0 : Int32)), (.int (0 : Int32)), (.int (0 : Int32)), (.int (0 : Int32))] (.int (0 : Int32)) := Arv.set Arq244 Akq244 Asq244 Anq244 Ahq244 Agq244 (by first | rfl | exact fits_nar_bool _) W246 5 rfl (Nat.le_of_ble_eq_true rfl)
  obtain ⟨clq249, Arq249, Akq249, Asq249, Anq249, Ahq249, Agq249⟩ := V246
  have hin250 : ¬ ((6 : Int32) < 0 ∨ clq249.slots.size ≤ ((6 : Int32)).toNatClampNeg) := inb_of Asq249 ⟨by decide, by decide⟩
  obtain ⟨T251, h251, X251, e251, W251, st251⟩ := stZ X246 hx hZ e246 Arq249 (j := (6 : Int32)) hin250 (g := (mkF m 109 #[.val (.int pI1), .val (.ref bR2), .unset, .unset] [(.int (1 : Int32)), (.int (6 : Int32)), (.ref bR215), (.ref bR215)])) rfl rfl (hb hby at_109)
  have Z253 : n0 ≤ h251.size := (Nat.le_trans Z248 (Keep.of_wr W251).1)
  have N251 := Fr.snoc X251 N246 g218
  obtain ⟨Lh251, X251, N251⟩ := own_hide X251 N251
  have V251 : Arv Z h251 bR215 k215 .boolean (11 : Int32) [(.int (0 : Int32)), (.int (0 : Int32)), (.int (0 : Int32)), (.int (0 : Int32)), (.int (0 : Int32)), (.int (1 : Int32)), (.int (1 : Int32)), (.int (0 : Int32)), (.int (0 : Int32)), (.int (0 : Int32)), (.int (0 : Int32))] (.int (0 : Int32)) := Arv.set Arq249 Akq249 Asq249 Anq249 Ahq249 Agq249 (by first | rfl | exact fits_nar_bool _) W251 6 rfl (Nat.le_of_ble_eq_true rfl)
  obtain ⟨clq254, Arq254, Akq254, Asq254, Anq254, Ahq254, Agq254⟩ := V251
  have hin255 : ¬ ((7 : Int32) < 0 ∨ clq254.slots.size ≤ ((7 : Int32)).toNatClampNeg) := inb_of Asq254 ⟨by decide, by decide⟩
  obtain ⟨T256, h256, X256, e256, W256, st256⟩ := stZ X251 hx hZ e251 Arq254 (j := (7 : Int32)) hin255 (g := (mkF m 114 #[.val (.int pI1), .val (.ref bR2), .unset, .unset] [(.int (0 : Int32)), (.int (7 : Int32)), (.ref bR215), (.ref bR215)])) rfl rfl (hb hby at_114)
  have Z258 : n0 ≤ h256.size := (Nat.le_trans Z253 (Keep.of_wr W256).1)
  have N256 := Fr.snoc X256 N251 g218
  obtain ⟨Lh256, X256, N256⟩ := own_hide X256 N256
  have V256 : Arv Z h256 bR215 k215 .boolean (11 : Int32) [(.int (0 : Int32)), (.int (0 : Int32)), (.int (0 : Int32)), (.int (0 : Int32)), (.int (0 : Int32)), (.int (1 : Int32)), (.int (1 : Int32)), (.int (0 : Int32)), (.int (0 : Int32)), (.int (0 : Int32)), (.int (0 : Int32))] (.int (0 : Int32)) := Arv.set Arq254 Akq254 Asq254 Anq254 Ahq254 Agq254 (by first | rfl | exact fits_nar_bool _) W256 7 rfl (Nat.le_of_ble_eq_true rfl)
  obtain ⟨clq259, Arq259, Akq259, Asq259, Anq259, Ahq259, Agq259⟩ := V256
  have hin260 : ¬ ((8 : Int32) < 0 ∨ clq259.slots.size ≤ ((8 : Int32)).toNatClampNeg) := inb_of Asq259 ⟨by decide, by decide⟩
  obtain ⟨T261, h261, X261, e261, W261, st261⟩ := stZ X256 hx hZ e256 Arq259 (j := (8 : Int32)) hin260 (g := (mkF m 119 #[.val (.int pI1), .val (.ref bR2), .unset, .unset] [(.int (0 : Int32)), (.int (8 : Int32)), (.ref bR215), (.ref bR215)])) rfl rfl (hb hby at_119)
  have Z263 : n0 ≤ h261.size := (Nat.le_trans Z258 (Keep.of_wr W261).1)
  have N261 := Fr.snoc X261 N256 g218
  obtain ⟨Lh261, X261, N261⟩ := own_hide X261 N261
  have V261 : Arv Z h261 bR215 k215 .boolean (11 : Int32) [(.int (0 : Int32)), (.int (0 : Int32)), (.int (0 : Int32)), (.int (0 : Int32)), (.int (0 : Int32)), (.int (1 : Int32)), (.int (1 : Int32)), (.int (0 : Int32)), (.int (0 : Int32)), (.int (0 : Int32)), (.int (0 : Int32))] (.int (0 : Int32)) := Arv.set Arq259 Akq259 Asq259 Anq259 Ahq259 Agq259 (by first | rfl | exact fits_nar_bool _) W261 8 rfl (Nat.le_of_ble_eq_true rfl)
  obtain ⟨clq264, Arq264, Akq264, Asq264, Anq264, Ahq264, Agq264⟩ := V261
  have hin265 : ¬ ((9 : Int32) < 0 ∨ clq264.slots.size ≤ ((9 : Int32)).toNatClampNeg) := inb_of Asq264 ⟨by decide, by decide⟩
  obtain ⟨T266, h266, X266, e266, W266, st266⟩ := stZ X261 hx hZ e261 Arq264 (j := (9 : Int32)) hin265 (g := (mkF m 124 #[.val (.int pI1), .val (.ref bR2), .unset, .unset] [(.int (0 : Int32)), (.int (9 : Int32)), (.ref bR215), (.ref bR215)])) rfl rfl (hb hby at_124)
  have Z268 : n0 ≤ h266.size := (Nat.le_trans Z263 (Keep.of_wr W266).1)
  have N266 := Fr.snoc X266 N261 g218
  obtain ⟨Lh266, X266, N266⟩ := own_hide X266 N266
  have V266 : Arv Z h266 bR215 k215 .boolean (11 : Int32) [(.int (0 : Int32)), (.int (0 : Int32)), (.int (0 : Int32)), (.int (0 : Int32)), (.int (0 : Int32)), (.int (1 : Int32)), (.int (1 : Int32)), (.int (0 : Int32)), (.int (0 : Int32)), (.int (0 : Int32)), (.int (0 : Int32))] (.int (0 : Int32)) := Arv.set Arq264 Akq264 Asq264 Anq264 Ahq264 Agq264 (by first | rfl | exact fits_nar_bool _) W266 9 rfl (Nat.le_of_ble_eq_true rfl)
  obtain ⟨clq269, Arq269, Akq269, Asq269, Anq269, Ahq269, Agq269⟩ := V266
  have hin270 : ¬ ((10 : Int32) < 0 ∨ clq269.slots.size ≤ ((10 : Int32)).toNatClampNeg) := inb_of Asq269 ⟨by decide, by decide⟩
  obtain ⟨T271, h271, X271, e271, W271, st271⟩ := stZ X266 hx hZ e266 Arq269 (j := (10 : Int32)) hin270 (g := (mkF m 129 #[.val (.int pI1), .val (.ref bR2), .unset, .unset] [(.int (0 : Int32)), (.int (10 : Int32)), (.ref bR215), (.ref bR215)])) rfl rfl (hb hby at_129)
  have Z273 : n0 ≤ h271.size := (Nat.le_trans Z268 (Keep.of_wr W271).1)
  have N271 := Fr.snoc X271 N266 g218
  obtain ⟨Lh271, X271, N271⟩ := own_hide X271 N271
  have V271 : Arv Z h271 bR215 k215 .boolean (11 : Int32) [(.int (0 : Int32)), (.int (0 : Int32)), (.int (0 : Int32)), (.int (0 : Int32)), (.int (0 : Int32)), (.int (1 : Int32)), (.int (1 : Int32)), (.int (0 : Int32)), (.int (0 : Int32)), (.int (0 : Int32)), (.int (0 : Int32))] (.int (0 : Int32)) := Arv.set Arq269 Akq269 Asq269 Anq269 Ahq269 Agq269 (by first | rfl | exact fits_nar_bool _) W271 10 rfl (Nat.le_of_ble_eq_true rfl)
  have c275 : Arv Z h215 bR2 k2 (.object "com/example/ratatoskr/ratatoskr/query/Syntax$CastType") (11 : Int32) [(.ref pR5), (.ref pR15), (.ref pR26), (.ref pR39), (.ref pR54), (.ref pR71), (.ref pR90), (.ref pR111), (.ref pR134), (.ref pR159), (.ref pR186)] .null := V212.ext E215
  have c276 : Arv Z h221 bR2 k2 (.object "com/example/ratatoskr/ratatoskr/query/Syntax$CastType") (11 : Int32) [(.ref pR5), (.ref pR15), (.ref pR26), (.ref pR39), (.ref pR54), (.ref pR71), (.ref pR90), (.ref pR111), (.ref pR134), (.ref pR159), (.ref pR186)] .null := c275.other W221 (Nat.ne_of_lt (Nat.lt_of_lt_of_le V212.lt (Nat.le_of_eq g215.symm)))
  have c277 : Arv Z h226 bR2 k2 (.object "com/example/ratatoskr/ratatoskr/query/Syntax$CastType") (11 : Int32) [(.ref pR5), (.ref pR15), (.ref pR26), (.ref pR39), (.ref pR54), (.ref pR71), (.ref pR90), (.ref pR111), (.ref pR134), (.ref pR159), (.ref pR186)] .null := c276.other W226 (Nat.ne_of_lt (Nat.lt_of_lt_of_le V212.lt (Nat.le_of_eq g215.symm)))
  have c278 : Arv Z h231 bR2 k2 (.object "com/example/ratatoskr/ratatoskr/query/Syntax$CastType") (11 : Int32) [(.ref pR5), (.ref pR15), (.ref pR26), (.ref pR39), (.ref pR54), (.ref pR71), (.ref pR90), (.ref pR111), (.ref pR134), (.ref pR159), (.ref pR186)] .null := c277.other W231 (Nat.ne_of_lt (Nat.lt_of_lt_of_le V212.lt (Nat.le_of_eq g215.symm)))
  have c279 : Arv Z h236 bR2 k2 (.object "com/example/ratatoskr/ratatoskr/query/Syntax$CastType") (11 : Int32) [(.ref pR5), (.ref pR15), (.ref pR26), (.ref pR39), (.ref pR54), (.ref pR71), (.ref pR90), (.ref pR111), (.ref pR134), (.ref pR159), (.ref pR186)] .null := c278.other W236 (Nat.ne_of_lt (Nat.lt_of_lt_of_le V212.lt (Nat.le_of_eq g215.symm)))
  have c280 : Arv Z h241 bR2 k2 (.object "com/example/ratatoskr/ratatoskr/query/Syntax$CastType") (11 : Int32) [(.ref pR5), (.ref pR15), (.ref pR26), (.ref pR39), (.ref pR54), (.ref pR71), (.ref pR90), (.ref pR111), (.ref pR134), (.ref pR159), (.ref pR186)] .null := c279.other W241 (Nat.ne_of_lt (Nat.lt_of_lt_of_le V212.lt (Nat.le_of_eq g215.symm)))
  have c281 : Arv Z h246 bR2 k2 (.object "com/example/ratatoskr/ratatoskr/query/Syntax$CastType") (11 : Int32) [(.ref pR5), (.ref pR15), (.ref pR26), (.ref pR39), (.ref pR54), (.ref pR71), (.ref pR90), (.ref pR111), (.ref pR134), (.ref pR159), (.ref pR186)] .null := c280.other W246 (Nat.ne_of_lt (Nat.lt_of_lt_of_le V212.lt (Nat.le_of_eq g215.symm)))
  have c282 : Arv Z h251 bR2 k2 (.object "com/example/ratatoskr/ratatoskr/query/Syntax$CastType") (11 : Int32) [(.ref pR5), (.ref pR15), (.ref pR26), (.ref pR39), (.ref pR54), (.ref pR71), (.ref pR90), (.ref pR111), (.ref pR134), (.ref pR159), (.ref pR186)] .null := c281.other W251 (Nat.ne_of_lt (Nat.lt_of_lt_of_le V212.lt (Nat.le_of_eq g215.symm)))
  have c283 : Arv Z h256 bR2 k2 (.object "com/example/ratatoskr/ratatoskr/query/Syntax$CastType") (11 : Int32) [(.ref pR5), (.ref pR15), (.ref pR26), (.ref pR39), (.ref pR54), (.ref pR71), (.ref pR90), (.ref pR111), (.ref pR134), (.ref pR159), (.ref pR186)] .null := c282.other W256 (Nat.ne_of_lt (Nat.lt_of_lt_of_le V212.lt (Nat.le_of_eq g215.symm)))
  have c284 : Arv Z h261 bR2 k2 (.object "com/example/ratatoskr/ratatoskr/query/Syntax$CastType") (11 : Int32) [(.ref pR5), (.ref pR15), (.ref pR26), (.ref pR39), (.ref pR54), (.ref pR71), (.ref pR90), (.ref pR111), (.ref pR134), (.ref pR159), (.ref pR186)] .null := c283.other W261 (Nat.ne_of_lt (Nat.lt_of_lt_of_le V212.lt (Nat.le_of_eq g215.symm)))
  have c285 : Arv Z h266 bR2 k2 (.object "com/example/ratatoskr/ratatoskr/query/Syntax$CastType") (11 : Int32) [(.ref pR5), (.ref pR15), (.ref pR26), (.ref pR39), (.ref pR54), (.ref pR71), (.ref pR90), (.ref pR111), (.ref pR134), (.ref pR159), (.ref pR186)] .null := c284.other W266 (Nat.ne_of_lt (Nat.lt_of_lt_of_le V212.lt (Nat.le_of_eq g215.symm)))
  have c286 : Arv Z h271 bR2 k2 (.object "com/example/ratatoskr/ratatoskr/query/Syntax$CastType") (11 : Int32) [(.ref pR5), (.ref pR15), (.ref pR26), (.ref pR39), (.ref pR54), (.ref pR71), (.ref pR90), (.ref pR111), (.ref pR134), (.ref pR159), (.ref pR186)] .null := c285.other W271 (Nat.ne_of_lt (Nat.lt_of_lt_of_le V212.lt (Nat.le_of_eq g215.symm)))
  obtain ⟨clq274, Arq274, Akq274, Asq274, Anq274, Ahq274, Agq274⟩ := c286
  have hin287 : ¬ (((pI1 &&& (2147483647 : Int32)) % (11 : Int32)) < 0 ∨ clq274.slots.size ≤ (((pI1 &&& (2147483647 : Int32)) % (11 : Int32))).toNatClampNeg) := inb_of Asq274 ⟨hc141, hc141'⟩
  have c288 : Sta Z h87 "com/example/ratatoskr/ratatoskr/query/Syntax$CastType" "CHAR" "Lcom/example/ratatoskr/ratatoskr/query/Syntax$CastType;" (.ref pR71) := c77.wr W87
  have c289 : Sta Z h108 "com/example/ratatoskr/ratatoskr/query/Syntax$CastType" "CHAR" "Lcom/example/ratatoskr/ratatoskr/query/Syntax$CastType;" (.ref pR71) := c288.wr W108
  have c290 : Sta Z h131 "com/example/ratatoskr/ratatoskr/query/Syntax$CastType" "CHAR" "Lcom/example/ratatoskr/ratatoskr/query/Syntax$CastType;" (.ref pR71) := c289.wr W131
  have c291 : Sta Z h156 "com/example/ratatoskr/ratatoskr/query/Syntax$CastType" "CHAR" "Lcom/example/ratatoskr/ratatoskr/query/Syntax$CastType;" (.ref pR71) := c290.wr W156
  have c292 : Sta Z h183 "com/example/ratatoskr/ratatoskr/query/Syntax$CastType" "CHAR" "Lcom/example/ratatoskr/ratatoskr/query/Syntax$CastType;" (.ref pR71) := c291.wr W183
  have c293 : Sta Z h212 "com/example/ratatoskr/ratatoskr/query/Syntax$CastType" "CHAR" "Lcom/example/ratatoskr/ratatoskr/query/Syntax$CastType;" (.ref pR71) := c292.wr W212
  have c294 : Sta Z h215 "com/example/ratatoskr/ratatoskr/query/Syntax$CastType" "CHAR" "Lcom/example/ratatoskr/ratatoskr/query/Syntax$CastType;" (.ref pR71) := c293.ext E215
  have c295 : Sta Z h221 "com/example/ratatoskr/ratatoskr/query/Syntax$CastType" "CHAR" "Lcom/example/ratatoskr/ratatoskr/query/Syntax$CastType;" (.ref pR71) := c294.wr W221
  have c296 : Sta Z h226 "com/example/ratatoskr/ratatoskr/query/Syntax$CastType" "CHAR" "Lcom/example/ratatoskr/ratatoskr/query/Syntax$CastType;" (.ref pR71) := c295.wr W226
  have c297 : Sta Z h231 "com/example/ratatoskr/ratatoskr/query/Syntax$CastType" "CHAR" "Lcom/example/ratatoskr/ratatoskr/query/Syntax$CastType;" (.ref pR71) := c296.wr W231
  have c298 : Sta Z h236 "com/example/ratatoskr/ratatoskr/query/Syntax$CastType" "CHAR" "Lcom/example/ratatoskr/ratatoskr/query/Syntax$CastType;" (.ref pR71) := c297.wr W236
  have c299 : Sta Z h241 "com/example/ratatoskr/ratatoskr/query/Syntax$CastType" "CHAR" "Lcom/example/ratatoskr/ratatoskr/query/Syntax$CastType;" (.ref pR71) := c298.wr W241
  have c300 : Sta Z h246 "com/example/ratatoskr/ratatoskr/query/Syntax$CastType" "CHAR" "Lcom/example/ratatoskr/ratatoskr/query/Syntax$CastType;" (.ref pR71) := c299.wr W246
  have c301 : Sta Z h251 "com/example/ratatoskr/ratatoskr/query/Syntax$CastType" "CHAR" "Lcom/example/ratatoskr/ratatoskr/query/Syntax$CastType;" (.ref pR71) := c300.wr W251
  have c302 : Sta Z h256 "com/example/ratatoskr/ratatoskr/query/Syntax$CastType" "CHAR" "Lcom/example/ratatoskr/ratatoskr/query/Syntax$CastType;" (.ref pR71) := c301.wr W256
  have c303 : Sta Z h261 "com/example/ratatoskr/ratatoskr/query/Syntax$CastType" "CHAR" "Lcom/example/ratatoskr/ratatoskr/query/Syntax$CastType;" (.ref pR71) := c302.wr W261
  have c304 : Sta Z h266 "com/example/ratatoskr/ratatoskr/query/Syntax$CastType" "CHAR" "Lcom/example/ratatoskr/ratatoskr/query/Syntax$CastType;" (.ref pR71) := c303.wr W266
  have c305 : Sta Z h271 "com/example/ratatoskr/ratatoskr/query/Syntax$CastType" "CHAR" "Lcom/example/ratatoskr/ratatoskr/query/Syntax$CastType;" (.ref pR71) := c304.wr W271
  have c306 : Sta Z h108 "com/example/ratatoskr/ratatoskr/query/Syntax$CastType" "VARCHAR" "Lcom/example/ratatoskr/ratatoskr/query/Syntax$CastType;" (.ref pR90) := c97.wr W108
  have c307 : Sta Z h131 "com/example/ratatoskr/ratatoskr/query/Syntax$CastType" "VARCHAR" "Lcom/example/ratatoskr/ratatoskr/query/Syntax$CastType;" (.ref pR90) := c306.wr W131
  have c308 : Sta Z h156 "com/example/ratatoskr/ratatoskr/query/Syntax$CastType" "VARCHAR" "Lcom/example/ratatoskr/ratatoskr/query/Syntax$CastType;" (.ref pR90) := c307.wr W156
  have c309 : Sta Z h183 "com/example/ratatoskr/ratatoskr/query/Syntax$CastType" "VARCHAR" "Lcom/example/ratatoskr/ratatoskr/query/Syntax$CastType;" (.ref pR90) := c308.wr W183
  have c310 : Sta Z h212 "com/example/ratatoskr/ratatoskr/query/Syntax$CastType" "VARCHAR" "Lcom/example/ratatoskr/ratatoskr/query/Syntax$CastType;" (.ref pR90) := c309.wr W212
  have c311 : Sta Z h215 "com/example/ratatoskr/ratatoskr/query/Syntax$CastType" "VARCHAR" "Lcom/example/ratatoskr/ratatoskr/query/Syntax$CastType;" (.ref pR90) := c310.ext E215
  have c312 : Sta Z h221 "com/example/ratatoskr/ratatoskr/query/Syntax$CastType" "VARCHAR" "Lcom/example/ratatoskr/ratatoskr/query/Syntax$CastType;" (.ref pR90) := c311.wr W221
  have c313 : Sta Z h226 "com/example/ratatoskr/ratatoskr/query/Syntax$CastType" "VARCHAR" "Lcom/example/ratatoskr/ratatoskr/query/Syntax$CastType;" (.ref pR90) := c312.wr W226
  have c314 : Sta Z h231 "com/example/ratatoskr/ratatoskr/query/Syntax$CastType" "VARCHAR" "Lcom/example/ratatoskr/ratatoskr/query/Syntax$CastType;" (.ref pR90) := c313.wr W231
  have c315 : Sta Z h236 "com/example/ratatoskr/ratatoskr/query/Syntax$CastType" "VARCHAR" "Lcom/example/ratatoskr/ratatoskr/query/Syntax$CastType;" (.ref pR90) := c314.wr W236
  have c316 : Sta Z h241 "com/example/ratatoskr/ratatoskr/query/Syntax$CastType" "VARCHAR" "Lcom/example/ratatoskr/ratatoskr/query/Syntax$CastType;" (.ref pR90) := c315.wr W241
  have c317 : Sta Z h246 "com/example/ratatoskr/ratatoskr/query/Syntax$CastType" "VARCHAR" "Lcom/example/ratatoskr/ratatoskr/query/Syntax$CastType;" (.ref pR90) := c316.wr W246
  have c318 : Sta Z h251 "com/example/ratatoskr/ratatoskr/query/Syntax$CastType" "VARCHAR" "Lcom/example/ratatoskr/ratatoskr/query/Syntax$CastType;" (.ref pR90) := c317.wr W251
  have c319 : Sta Z h256 "com/example/ratatoskr/ratatoskr/query/Syntax$CastType" "VARCHAR" "Lcom/example/ratatoskr/ratatoskr/query/Syntax$CastType;" (.ref pR90) := c318.wr W256
  have c320 : Sta Z h261 "com/example/ratatoskr/ratatoskr/query/Syntax$CastType" "VARCHAR" "Lcom/example/ratatoskr/ratatoskr/query/Syntax$CastType;" (.ref pR90) := c319.wr W261
  have c321 : Sta Z h266 "com/example/ratatoskr/ratatoskr/query/Syntax$CastType" "VARCHAR" "Lcom/example/ratatoskr/ratatoskr/query/Syntax$CastType;" (.ref pR90) := c320.wr W266
  have c322 : Sta Z h271 "com/example/ratatoskr/ratatoskr/query/Syntax$CastType" "VARCHAR" "Lcom/example/ratatoskr/ratatoskr/query/Syntax$CastType;" (.ref pR90) := c321.wr W271
  have c324 : Exa Z h2 pR900 "com/example/ratatoskr/ratatoskr/query/Syntax$CastType" := E_pR900.ext E2
  have c325 : Exa Z h12 pR900 "com/example/ratatoskr/ratatoskr/query/Syntax$CastType" := c324.wr W12
  have c326 : Exa Z h23 pR900 "com/example/ratatoskr/ratatoskr/query/Syntax$CastType" := c325.wr W23
  have c327 : Exa Z h36 pR900 "com/example/ratatoskr/ratatoskr/query/Syntax$CastType" := c326.wr W36
  have c328 : Exa Z h51 pR900 "com/example/ratatoskr/ratatoskr/query/Syntax$CastType" := c327.wr W51
  have c329 : Exa Z h68 pR900 "com/example/ratatoskr/ratatoskr/query/Syntax$CastType" := c328.wr W68
  have c330 : Exa Z h87 pR900 "com/example/ratatoskr/ratatoskr/query/Syntax$CastType" := c329.wr W87
  have c331 : Exa Z h108 pR900 "com/example/ratatoskr/ratatoskr/query/Syntax$CastType" := c330.wr W108
  have c332 : Exa Z h131 pR900 "com/example/ratatoskr/ratatoskr/query/Syntax$CastType" := c331.wr W131
  have c333 : Exa Z h156 pR900 "com/example/ratatoskr/ratatoskr/query/Syntax$CastType" := c332.wr W156
  have c334 : Exa Z h183 pR900 "com/example/ratatoskr/ratatoskr/query/Syntax$CastType" := c333.wr W183
  have c335 : Exa Z h212 pR900 "com/example/ratatoskr/ratatoskr/query/Syntax$CastType" := c334.wr W212
  have c336 : Exa Z h215 pR900 "com/example/ratatoskr/ratatoskr/query/Syntax$CastType" := c335.ext E215
  have c337 : Exa Z h221 pR900 "com/example/ratatoskr/ratatoskr/query/Syntax$CastType" := c336.wr W221
  have c338 : Exa Z h226 pR900 "com/example/ratatoskr/ratatoskr/query/Syntax$CastType" := c337.wr W226
  have c339 : Exa Z h231 pR900 "com/example/ratatoskr/ratatoskr/query/Syntax$CastType" := c338.wr W231
  have c340 : Exa Z h236 pR900 "com/example/ratatoskr/ratatoskr/query/Syntax$CastType" := c339.wr W236
  have c341 : Exa Z h241 pR900 "com/example/ratatoskr/ratatoskr/query/Syntax$CastType" := c340.wr W241
  have c342 : Exa Z h246 pR900 "com/example/ratatoskr/ratatoskr/query/Syntax$CastType" := c341.wr W246
  have c343 : Exa Z h251 pR900 "com/example/ratatoskr/ratatoskr/query/Syntax$CastType" := c342.wr W251
  have c344 : Exa Z h256 pR900 "com/example/ratatoskr/ratatoskr/query/Syntax$CastType" := c343.wr W256
  have c345 : Exa Z h261 pR900 "com/example/ratatoskr/ratatoskr/query/Syntax$CastType" := c344.wr W261
  have c346 : Exa Z h266 pR900 "com/example/ratatoskr/ratatoskr/query/Syntax$CastType" := c345.wr W266
  have c347 : Exa Z h271 pR900 "com/example/ratatoskr/ratatoskr/query/Syntax$CastType" := c346.wr W271
  obtain ⟨cq323, kq323, q323a, q323b, q323c⟩ := isOf hZ e271 c347
  obtain ⟨_, _, ⟨T323, L323, k323, n323⟩, -, X323, ⟨Lc323, hQ323, l323, y323, z323⟩, st323⟩ := X271.virtualBack hx (y := yN0) (z := yN0) hown (mvT hZ (ow hw 28 rfl)) (mvT hZ (ow hw 29 rfl)) (notFace_of_selects (args := #[]) (mvT hZ (ow hw 31 rfl))) (mvT hZ (ow hw 31 rfl)) (mvT hZ (ow hw 30 rfl)) (by decide) (backOf (W := 0) (hlV l Z a0 hw [] pR900 pR71 pR90 h271 n0 Z273 c305 c322 ne_pR900_pR71 hc142) hZ (ow hw 32 rfl) (ow hw 3 rfl) (by decide) (by decide)) q323a q323c (g := (mkF m 142 #[.val (.int pI1), .val (.ref bR2), .val (.ref bR215), .val (.int ((pI1 &&& (2147483647 : Int32)) % (11 : Int32)))] [(.ref pR900)])) rfl (by rw [hml]; rfl) (Steps.refl _) (argsL := []) (rest := []) (lenOf pd_0 rfl) rfl (by show 2 * 0 + _ ≤ _; exact Nat.le_of_eq rfl) (hb hby at_142) (fun _ _ => ⟨rfl, e271, (by decide : 2 + 0 ≤ _), (by decide : 22 + 0 ≤ _)⟩)
  dsimp only [Pt.U, Pt.locs, Pt.cells, Pt.slots] at X323 l323 y323 z323 st323 hQ323
  subst l323 y323 z323
  obtain ⟨rfl, Nq323, e323⟩ := hQ323
  have N323 := Fr.app N271 Nq323
  obtain ⟨clq348, Arq348, Akq348, Asq348, Anq348, Ahq348, Agq348⟩ := V271
  have hin349 : ¬ (((pI1 &&& (2147483647 : Int32)) % (11 : Int32)) < 0 ∨ clq348.slots.size ≤ (((pI1 &&& (2147483647 : Int32)) % (11 : Int32))).toNatClampNeg) := inb_of Asq348 ⟨hc141, hc141'⟩
  obtain ⟨fs, hr, hrun, hended, hW, hsame⟩ := X323.leave (v := some (.int (1 : Int32))) (fun h => by rw [Bd.returns] at h; cases h)
  refine ⟨_, _, pre0 _ ?_, hrun, hended, _, _, rfl, ?_, ⟨_, rfl⟩, hW, hsame.mono (by decide) (by decide)⟩
  · show oS p e below s₁ m 0 #[.val (.int pI1), .unset, .unset, .unset] [] _
    refine XS.bipush X0.here hx rfl (hb hby at_0) ?_
    refine st2 _ ?_
    refine XS.dup X2.here hx rfl (hb hby at_5) rfl rfl ?_
    refine XS.iconst X2.here hx rfl (hb hby at_6) ?_
    show oS p e below T2 m 7 #[.val (.int pI1), .unset, .unset, .unset] [(.int (0 : Int32)), (.ref bR2), (.ref bR2)] _
    refine st7 _ ?_
    refine st12 _ ?_
    refine XS.dup X12.here hx rfl (hb hby at_11) rfl rfl ?_
    refine XS.iconst X12.here hx rfl (hb hby at_12) ?_
    show oS p e below T12 m 13 #[.val (.int pI1), .unset, .unset, .unset] [(.int (1 : Int32)), (.ref bR2), (.ref bR2)] _
    refine st18 _ ?_
    refine st23 _ ?_
    refine XS.dup X23.here hx rfl (hb hby at_17) rfl rfl ?_
    refine XS.iconst X23.here hx rfl (hb hby at_18) ?_
    show oS p e below T23 m 19 #[.val (.int pI1), .unset, .unset, .unset] [(.int (2 : Int32)), (.ref bR2), (.ref bR2)] _
    refine st30 _ ?_
    refine st36 _ ?_
    refine XS.dup X36.here hx rfl (hb hby at_23) rfl rfl ?_
    refine XS.iconst X36.here hx rfl (hb hby at_24) ?_
    show oS p e below T36 m 25 #[.val (.int pI1), .unset, .unset, .unset] [(.int (3 : Int32)), (.ref bR2), (.ref bR2)] _
    refine st44 _ ?_
    refine st51 _ ?_
    refine XS.dup X51.here hx rfl (hb hby at_29) rfl rfl ?_
    refine XS.iconst X51.here hx rfl (hb hby at_30) ?_
    show oS p e below T51 m 31 #[.val (.int pI1), .unset, .unset, .unset] [(.int (4 : Int32)), (.ref bR2), (.ref bR2)] _
    refine st60 _ ?_
    refine st68 _ ?_
    refine XS.dup X68.here hx rfl (hb hby at_35) rfl rfl ?_
    refine XS.iconst X68.here hx rfl (hb hby at_36) ?_
    show oS p e below T68 m 37 #[.val (.int pI1), .unset, .unset, .unset] [(.int (5 : Int32)), (.ref bR2), (.ref bR2)] _
    refine st78 _ ?_
    refine st87 _ ?_
    refine XS.dup X87.here hx rfl (hb hby at_41) rfl rfl ?_
    refine XS.bipush X87.here hx rfl (hb hby at_42) ?_
    show oS p e below T87 m 44 #[.val (.int pI1), .unset, .unset, .unset] [(.int (6 : Int32)), (.ref bR2), (.ref bR2)] _
    refine st98 _ ?_
    refine st108 _ ?_
    refine XS.dup X108.here hx rfl (hb hby at_48) rfl rfl ?_
    refine XS.bipush X108.here hx rfl (hb hby at_49) ?_
    show oS p e below T108 m 51 #[.val (.int pI1), .unset, .unset, .unset] [(.int (7 : Int32)), (.ref bR2), (.ref bR2)] _
    refine st120 _ ?_
    refine st131 _ ?_
    refine XS.dup X131.here hx rfl (hb hby at_55) rfl rfl ?_
    refine XS.bipush X131.here hx rfl (hb hby at_56) ?_
    show oS p e below T131 m 58 #[.val (.int pI1), .unset, .unset, .unset] [(.int (8 : Int32)), (.ref bR2), (.ref bR2)] _
    refine st144 _ ?_
    refine st156 _ ?_
    refine XS.dup X156.here hx rfl (hb hby at_62) rfl rfl ?_
    refine XS.bipush X156.here hx rfl (hb hby at_63) ?_
    show oS p e below T156 m 65 #[.val (.int pI1), .unset, .unset, .unset] [(.int (9 : Int32)), (.ref bR2), (.ref bR2)] _
    refine st170 _ ?_
    refine st183 _ ?_
    refine XS.dup X183.here hx rfl (hb hby at_69) rfl rfl ?_
    refine XS.bipush X183.here hx rfl (hb hby at_70) ?_
    show oS p e below T183 m 72 #[.val (.int pI1), .unset, .unset, .unset] [(.int (10 : Int32)), (.ref bR2), (.ref bR2)] _
    refine st198 _ ?_
    refine st212 _ ?_
    refine XS.astoreN X212.here hx rfl (hb hby at_76) rfl rfl (l' := #[.val (.int pI1), .val (.ref bR2), .unset, .unset]) rfl ?_
    refine XS.bipush X212.here hx rfl (hb hby at_77) ?_
    show oS p e below T212 m 79 #[.val (.int pI1), .val (.ref bR2), .unset, .unset] [(.int (11 : Int32))] _
    refine st215 _ ?_
    refine XS.dup X215.here hx rfl (hb hby at_81) rfl rfl ?_
    refine XS.iconst X215.here hx rfl (hb hby at_82) ?_
    refine XS.iconst X215.here hx rfl (hb hby at_83) ?_
    show oS p e below T215 m 84 #[.val (.int pI1), .val (.ref bR2), .unset, .unset] [(.int (0 : Int32)), (.int (0 : Int32)), (.ref bR215), (.ref bR215)] _
    refine st221 _ ?_
    refine XS.dup X221.here hx rfl (hb hby at_85) rfl rfl ?_
    refine XS.iconst X221.here hx rfl (hb hby at_86) ?_
    refine XS.iconst X221.here hx rfl (hb hby at_87) ?_
    show oS p e below T221 m 88 #[.val (.int pI1), .val (.ref bR2), .unset, .unset] [(.int (0 : Int32)), (.int (1 : Int32)), (.ref bR215), (.ref bR215)] _
    refine st226 _ ?_
    refine XS.dup X226.here hx rfl (hb hby at_89) rfl rfl ?_
    refine XS.iconst X226.here hx rfl (hb hby at_90) ?_
    refine XS.iconst X226.here hx rfl (hb hby at_91) ?_
    show oS p e below T226 m 92 #[.val (.int pI1), .val (.ref bR2), .unset, .unset] [(.int (0 : Int32)), (.int (2 : Int32)), (.ref bR215), (.ref bR215)] _
    refine st231 _ ?_
    refine XS.dup X231.here hx rfl (hb hby at_93) rfl rfl ?_
    refine XS.iconst X231.here hx rfl (hb hby at_94) ?_
    refine XS.iconst X231.here hx rfl (hb hby at_95) ?_
    show oS p e below T231 m 96 #[.val (.int pI1), .val (.ref bR2), .unset, .unset] [(.int (0 : Int32)), (.int (3 : Int32)), (.ref bR215), (.ref bR215)] _
    refine st236 _ ?_
    refine XS.dup X236.here hx rfl (hb hby at_97) rfl rfl ?_
    refine XS.iconst X236.here hx rfl (hb hby at_98) ?_
    refine XS.iconst X236.here hx rfl (hb hby at_99) ?_
    show oS p e below T236 m 100 #[.val (.int pI1), .val (.ref bR2), .unset, .unset] [(.int (0 : Int32)), (.int (4 : Int32)), (.ref bR215), (.ref bR215)] _
    refine st241 _ ?_
    refine XS.dup X241.here hx rfl (hb hby at_101) rfl rfl ?_
    refine XS.iconst X241.here hx rfl (hb hby at_102) ?_
    refine XS.iconst X241.here hx rfl (hb hby at_103) ?_
    show oS p e below T241 m 104 #[.val (.int pI1), .val (.ref bR2), .unset, .unset] [(.int (1 : Int32)), (.int (5 : Int32)), (.ref bR215), (.ref bR215)] _
    refine st246 _ ?_
    refine XS.dup X246.here hx rfl (hb hby at_105) rfl rfl ?_
    refine XS.bipush X246.here hx rfl (hb hby at_106) ?_
    refine XS.iconst X246.here hx rfl (hb hby at_108) ?_
    show oS p e below T246 m 109 #[.val (.int pI1), .val (.ref bR2), .unset, .unset] [(.int (1 : Int32)), (.int (6 : Int32)), (.ref bR215), (.ref bR215)] _
    refine st251 _ ?_
    refine XS.dup X251.here hx rfl (hb hby at_110) rfl rfl ?_
    refine XS.bipush X251.here hx rfl (hb hby at_111) ?_
    refine XS.iconst X251.here hx rfl (hb hby at_113) ?_
    show oS p e below T251 m 114 #[.val (.int pI1), .val (.ref bR2), .unset, .unset] [(.int (0 : Int32)), (.int (7 : Int32)), (.ref bR215), (.ref bR215)] _
    refine st256 _ ?_
    refine XS.dup X256.here hx rfl (hb hby at_115) rfl rfl ?_
    refine XS.bipush X256.here hx rfl (hb hby at_116) ?_
    refine XS.iconst X256.here hx rfl (hb hby at_118) ?_
    show oS p e below T256 m 119 #[.val (.int pI1), .val (.ref bR2), .unset, .unset] [(.int (0 : Int32)), (.int (8 : Int32)), (.ref bR215), (.ref bR215)] _
    refine st261 _ ?_
    refine XS.dup X261.here hx rfl (hb hby at_120) rfl rfl ?_
    refine XS.bipush X261.here hx rfl (hb hby at_121) ?_
    refine XS.iconst X261.here hx rfl (hb hby at_123) ?_
    show oS p e below T261 m 124 #[.val (.int pI1), .val (.ref bR2), .unset, .unset] [(.int (0 : Int32)), (.int (9 : Int32)), (.ref bR215), (.ref bR215)] _
    refine st266 _ ?_
    refine XS.dup X266.here hx rfl (hb hby at_125) rfl rfl ?_
    refine XS.bipush X266.here hx rfl (hb hby at_126) ?_
    refine XS.iconst X266.here hx rfl (hb hby at_128) ?_
    show oS p e below T266 m 129 #[.val (.int pI1), .val (.ref bR2), .unset, .unset] [(.int (0 : Int32)), (.int (10 : Int32)), (.ref bR215), (.ref bR215)] _
    refine st271 _ ?_
    refine XS.astoreN X271.here hx rfl (hb hby at_130) rfl rfl (l' := #[.val (.int pI1), .val (.ref bR2), .val (.ref bR215), .unset]) rfl ?_
    refine XS.iloadN X271.here hx rfl (hb hby at_131) rfl ?_
    refine X271.ldcInt hx hown (mvT hZ (ow hw 27 rfl)) (g := (mkF m 132 #[.val (.int pI1), .val (.ref bR2), .val (.ref bR215), .unset] [(.int pI1)])) rfl (hb hby at_132) _ ?_
    show oS p e below T271 m 134 #[.val (.int pI1), .val (.ref bR2), .val (.ref bR215), .unset] [(.int (2147483647 : Int32)), (.int pI1)] _
    refine XS.iand X271.here hx rfl (hb hby at_134) rfl ?_
    refine XS.bipush X271.here hx rfl (hb hby at_135) ?_
    show Steps p.tables e below (T271.setTop (mkF m 137 #[.val (.int pI1), .val (.ref bR2), .val (.ref bR215), .unset] [(.int (11 : Int32)), (.int (pI1 &&& (2147483647 : Int32)))])) _
    refine iremM (g := (mkF m 137 #[.val (.int pI1), .val (.ref bR2), .val (.ref bR215), .unset] [(.int (11 : Int32)), (.int (pI1 &&& (2147483647 : Int32)))])) X271 hx rfl (hb hby at_137) rfl (by decide) ?_
    refine XS.istoreN X271.here hx rfl (hb hby at_138) rfl (l' := #[.val (.int pI1), .val (.ref bR2), .val (.ref bR215), .val (.int ((pI1 &&& (2147483647 : Int32)) % (11 : Int32)))]) rfl ?_
    show oS p e below T271 m 139 #[.val (.int pI1), .val (.ref bR2), .val (.ref bR215), .val (.int ((pI1 &&& (2147483647 : Int32)) % (11 : Int32)))] [] _
    refine XS.aloadN X271.here hx rfl (hb hby at_139) rfl rfl ?_
    refine XS.iloadN X271.here hx rfl (hb hby at_140) rfl ?_
    refine X271.aaload hx (j := ((pI1 &&& (2147483647 : Int32)) % (11 : Int32))) (v := (.ref pR900)) (by rw [e271]; exact Arq274.1) (State.isArrayOf_alike hZ.alike Arq274.2.1) rfl Arq274.2.2 hin287 (Has.at Ahq274 hin287 hc141'') (g := (mkF m 141 #[.val (.int pI1), .val (.ref bR2), .val (.ref bR215), .val (.int ((pI1 &&& (2147483647 : Int32)) % (11 : Int32)))] [(.int ((pI1 &&& (2147483647 : Int32)) % (11 : Int32))), (.ref bR2)])) rfl rfl (hb hby at_141) _ ?_
    refine st323.trans ?_
    show oS p e below T323 m 145 #[.val (.int pI1), .val (.ref bR2), .val (.ref bR215), .val (.int ((pI1 &&& (2147483647 : Int32)) % (11 : Int32)))] [(.int (1 : Int32))] _
    refine XS.aloadN X323.here hx rfl (hb hby at_145) rfl rfl ?_
    refine XS.iloadN X323.here hx rfl (hb hby at_146) rfl ?_
    refine X323.baloadBooleans hx (j := ((pI1 &&& (2147483647 : Int32)) % (11 : Int32))) (v := (.int pI901)) (by rw [e323]; exact Arq348.1) (State.isArrayOf_alike hZ.alike Arq348.2.1) Arq348.2.2 hin349 (Has.at Ahq348 hin349 hc147) (g := (mkF m 147 #[.val (.int pI1), .val (.ref bR2), .val (.ref bR215), .val (.int ((pI1 &&& (2147483647 : Int32)) % (11 : Int32)))] [(.int ((pI1 &&& (2147483647 : Int32)) % (11 : Int32))), (.ref bR215), (.int (1 : Int32))])) rfl rfl (hb hby at_147) _ ?_
    refine XS.icmpNo X323.here hx rfl (hb hby at_148) rfl (teq hc148).2 ?_
    show oS p e below T323 m 151 #[.val (.int pI1), .val (.ref bR2), .val (.ref bR215), .val (.int ((pI1 &&& (2147483647 : Int32)) % (11 : Int32)))] [] _
    refine XS.iconst X323.here hx rfl (hb hby at_151) ?_
    refine XS.goto X323.here hx rfl (pc0 := 152) (pc' := 156) rfl (hb hby at_152) (by decide) (by decide) ?_
    exact retN X323 hx (t := .boolean) Bd.returns (by simp) (hb hby at_156) hr
  · show QlawV Z pI1 pR5 pR15 pR26 pR39 pR54 pR71 pR90 pR111 pR134 pR159 pR186 pR900 pI901 h0 n0 _ T323.heap _
    rw [e323]
    exact ⟨rfl, N323⟩
theorem ef_lawN (m : MethodId) (pI1 : Int32) : entryFrame m #[(.int pI1)] maxLocals = mkF m 0 #[.val (.int pI1), .unset, .unset, .unset] [] := by first | (simp [entryFrame, mkF, argsToLocals, Value.category, maxLocals]; done) | rfl
def QlawN (Z : State) (pI1 : Int32) (pR5 : Addr) (pR15 : Addr) (pR26 : Addr) (pR39 : Addr) (pR54 : Addr) (pR71 : Addr) (pR90 : Addr) (pR111 : Addr) (pR134 : Addr) (pR159 : Addr) (pR186 : Addr) (pR900 : Addr) (pI901 : Int32) (h0 : Heap) (n0 : Nat) (v : Option Value) (h : Heap) (L : List Loc) : Prop := v = some (.int (1 : Int32)) ∧ Fr n0 L
set_option maxRecDepth 65536 in
set_option maxHeartbeats 40000000 in
theorem lawN (l : Launch) (Z : State) (a0 : Array Value) (hw : ∀ d ∈ tables_1, d.before a0 Z = true) (ws : List Jvm.Cond) (pI1 : Int32) (pR5 : Addr) (pR15 : Addr) (pR26 : Addr) (pR39 : Addr) (pR54 : Addr) (pR71 : Addr) (pR90 : Addr) (pR111 : Addr) (pR134 : Addr) (pR159 : Addr) (pR186 : Addr) (pR900 : Addr) (pI901 : Int32) (h0 : Heap) (n0 : Nat) (Z0 : n0 ≤ h0.size) (S_Syntax_CastType_SMALLINT : Sta Z h0 "com/example/ratatoskr/ratatoskr/query/Syntax$CastType" "SMALLINT" "Lcom/example/ratatoskr/ratatoskr/query/Syntax$CastType;" (.ref pR5)) (E_pR5 : Exa Z h0 pR5 "com/example/ratatoskr/ratatoskr/query/Syntax$CastType") (S_Syntax_CastType_INTEGER : Sta Z h0 "com/example/ratatoskr/ratatoskr/query/Syntax$CastType" "INTEGER" "Lcom/example/ratatoskr/ratatoskr/query/Syntax$CastType;" (.ref pR15)) (E_pR15 : Exa Z h0 pR15 "com/example/ratatoskr/ratatoskr/query/Syntax$CastType") (S_Syntax_CastType_BIGINT : Sta Z h0 "com/example/ratatoskr/ratatoskr/query/Syntax$CastType" "BIGINT" "Lcom/example/ratatoskr/ratatoskr/query/Syntax$CastType;" (.ref pR26)) (E_pR26 : Exa Z h0 pR26 "com/example/ratatoskr/ratatoskr/query/Syntax$CastType") (S_Syntax_CastType_REAL : Sta Z h0 "com/example/ratatoskr/ratatoskr/query/Syntax$CastType" "REAL" "Lcom/example/ratatoskr/ratatoskr/query/Syntax$CastType;" (.ref pR39)) (E_pR39 : Exa Z h0 pR39 "com/example/ratatoskr/ratatoskr/query/Syntax$CastType") (S_Syntax_CastType_DOUBLE : Sta Z h0 "com/example/ratatoskr/ratatoskr/query/Syntax$CastType" "DOUBLE" "Lcom/example/ratatoskr/ratatoskr/query/Syntax$CastType;" (.ref pR54)) (E_pR54 : Exa Z h0 pR54 "com/example/ratatoskr/ratatoskr/query/Syntax$CastType") (S_Syntax_CastType_CHAR : Sta Z h0 "com/example/ratatoskr/ratatoskr/query/Syntax$CastType" "CHAR" "Lcom/example/ratatoskr/ratatoskr/query/Syntax$CastType;" (.ref pR71)) (E_pR71 : Exa Z h0 pR71 "com/example/ratatoskr/ratatoskr/query/Syntax$CastType") (S_Syntax_CastType_VARCHAR : Sta Z h0 "com/example/ratatoskr/ratatoskr/query/Syntax$CastType" "VARCHAR" "Lcom/example/ratatoskr/ratatoskr/query/Syntax$CastType;" (.ref pR90)) (E_pR90 : Exa Z h0 pR90 "com/example/ratatoskr/ratatoskr/query/Syntax$CastType") (S_Syntax_CastType_TIMESTAMP : Sta Z h0 "com/example/ratatoskr/ratatoskr/query/Syntax$CastType" "TIMESTAMP" "Lcom/example/ratatoskr/ratatoskr/query/Syntax$CastType;" (.ref pR111)) (E_pR111 : Exa Z h0 pR111 "com/example/ratatoskr/ratatoskr/query/Syntax$CastType") (S_Syntax_CastType_POINT : Sta Z h0 "com/example/ratatoskr/ratatoskr/query/Syntax$CastType" "POINT" "Lcom/example/ratatoskr/ratatoskr/query/Syntax$CastType;" (.ref pR134)) (E_pR134 : Exa Z h0 pR134 "com/example/ratatoskr/ratatoskr/query/Syntax$CastType") (S_Syntax_CastType_CIRCLE : Sta Z h0 "com/example/ratatoskr/ratatoskr/query/Syntax$CastType" "CIRCLE" "Lcom/example/ratatoskr/ratatoskr/query/Syntax$CastType;" (.ref pR159)) (E_pR159 : Exa Z h0 pR159 "com/example/ratatoskr/ratatoskr/query/Syntax$CastType") (S_Syntax_CastType_POLYGON : Sta Z h0 "com/example/ratatoskr/ratatoskr/query/Syntax$CastType" "POLYGON" "Lcom/example/ratatoskr/ratatoskr/query/Syntax$CastType;" (.ref pR186)) (E_pR186 : Exa Z h0 pR186 "com/example/ratatoskr/ratatoskr/query/Syntax$CastType") (ne_pR900_pR71 : pR900 ≠ pR71) (ne_pR900_pR90 : pR900 ≠ pR90) (E_pR900 : Exa Z h0 pR900 "com/example/ratatoskr/ratatoskr/query/Syntax$CastType") (hc141 : ¬ (((pI1 &&& (2147483647 : Int32)) % (11 : Int32)) < (0 : Int32))) (hc141' : ((pI1 &&& (2147483647 : Int32)) % (11 : Int32)) < (11 : Int32)) (hc141'' : ([(.ref pR5), (.ref pR15), (.ref pR26), (.ref pR39), (.ref pR54), (.ref pR71), (.ref pR90), (.ref pR111), (.ref pR134), (.ref pR159), (.ref pR186)] : List Value).getD (((pI1 &&& (2147483647 : Int32)) % (11 : Int32))).toNatClampNeg .null = (.ref pR900)) (hc147 : ([(.int (0 : Int32)), (.int (0 : Int32)), (.int (0 : Int32)), (.int (0 : Int32)), (.int (0 : Int32)), (.int (1 : Int32)), (.int (1 : Int32)), (.int (0 : Int32)), (.int (0 : Int32)), (.int (0 : Int32)), (.int (0 : Int32))] : List Value).getD (((pI1 &&& (2147483647 : Int32)) % (11 : Int32))).toNatClampNeg (.int (0 : Int32)) = (.int pI901)) (hc148 : (0 : Int32) = pI901) :
    MetFree l x (head1 (Jvm.Cond.code x code maxLocals ret :: ws) room_1) (fun a U => a = #[(.int pI1)] ∧ Z.Warmed39 U.vm ∧ U.heap = h0) (fun _ _ _ _ _ => True) (fun _ U o U' => ∃ v L, o = .returned v ∧ QlawN Z pI1 pR5 pR15 pR26 pR39 pR54 pR71 pR90 pR111 pR134 pR159 pR186 pR900 pI901 h0 n0 v U'.heap L ∧ FrameEnd U o U' L room_1.cells room_1.slots) := by
  refine MetFree.of_bodySF (plainFor_of_name pn_1) hisR ?_
  intro p e s m args below meth c s₁ Bd hml0 hP hK
  obtain ⟨rfl, hZ, hh⟩ := hP
  have hx := Bd.exec
  have hby := Bd.bytes
  have hml : c.maxLocals = 4 := hml0
  have hown : s.vm.findClass "com/example/ratatoskr/ratatoskr/query/CastTypeHasLengthPinLaw" = some m.cls := findClass_of_methodNamed Bd.named
  have hnm := (name_of_methodNamed Bd.named Bd.method).1
  have X0 : Stand p l e room_1 s m #[(.int pI1)] below meth c s₁ [] 0 0 := Stand.of_body Bd
  have e0 : s₁.heap = h0 := by rw [← hh, Bd.state]; rfl
  have N0 := Fr.nil n0
  have pre0 : ∀ t, Steps p.tables e below (s₁.setTop (mkF m 0 #[.val (.int pI1), .unset, .unset, .unset] [])) t → Steps p.tables e below (s₁.setTop (entryFrame m #[(.int pI1)] maxLocals)) t := fun t k => castTop (ef_lawN m pI1) k
  obtain ⟨T2, h2, k2, X2, e2, E2, A2, O2, st2⟩ := newR X0 hx hZ hown (ow hw 0 rfl) (ow hw 1 rfl) e0 (g := (mkF m 2 #[.val (.int pI1), .unset, .unset, .unset] [(.int (11 : Int32))])) rfl (hb hby at_2) rfl (by decide) (cap := 11) (by decide) (by decide) (by decide) (by decide)
  obtain ⟨bR2, g2⟩ : ∃ z, z = h0.size := ⟨_, rfl⟩
  rw [← g2] at A2 st2
  have Z4 : n0 ≤ h2.size := (Nat.le_trans Z0 E2.1)
  have V2 : Arv Z h2 bR2 k2 (.object "com/example/ratatoskr/ratatoskr/query/Syntax$CastType") (11 : Int32) [.null, .null, .null, .null, .null, .null, .null, .null, .null, .null, .null] .null := (Arv.new A2 (by decide)).pad (pad_rep [] .null 11)
  have c6 : Sta Z h2 "com/example/ratatoskr/ratatoskr/query/Syntax$CastType" "SMALLINT" "Lcom/example/ratatoskr/ratatoskr/query/Syntax$CastType;" (.ref pR5) := S_Syntax_CastType_SMALLINT.ext E2
  obtain ⟨T7, X7, e7, st7⟩ := getS2 X2 hx hZ hown (host := "") (Or.inl (ow hw 2 rfl)) Via.refl e2 c6 (g := (mkF m 7 #[.val (.int pI1), .unset, .unset, .unset] [(.int (0 : Int32)), (.ref bR2), (.ref bR2)])) rfl (hb hby at_7)
  have g8 : n0 ≤ bR2 := Nat.le_trans Z0 (Nat.le_of_eq g2.symm)
  obtain ⟨clq9, Arq9, Akq9, Asq9, Anq9, Ahq9, Agq9⟩ := V2
  have hin10 : ¬ ((0 : Int32) < 0 ∨ clq9.slots.size ≤ ((0 : Int32)).toNatClampNeg) := inb_of Asq9 ⟨by decide, by decide⟩
  have c11 : Exa Z h2 pR5 "com/example/ratatoskr/ratatoskr/query/Syntax$CastType" := E_pR5.ext E2
  obtain ⟨T12, h12, X12, e12, W12, st12⟩ := stR X7 hx hZ e7 Arq9 (j := (0 : Int32)) hin10 rfl (Sto.ofV Arq9 Akq9 O2 (Ins.self c11)) (g := (mkF m 10 #[.val (.int pI1), .unset, .unset, .unset] [(.ref pR5), (.int (0 : Int32)), (.ref bR2), (.ref bR2)])) rfl rfl (hb hby at_10)
  have Z14 : n0 ≤ h12.size := (Nat.le_trans Z4 (Keep.of_wr W12).1)
  have N12 := Fr.snoc X12 N0 g8
  obtain ⟨Lh12, X12, N12⟩ := own_hide X12 N12
  have V12 : Arv Z h12 bR2 k2 (.object "com/example/ratatoskr/ratatoskr/query/Syntax$CastType") (11 : Int32) [(.ref pR5), .null, .null, .null, .null, .null, .null, .null, .null, .null, .null] .null := Arv.set Arq9 Akq9 Asq9 Anq9 Ahq9 Agq9 rfl W12 0 rfl (Nat.le_of_ble_eq_true rfl)
  have c16 : Sta Z h2 "com/example/ratatoskr/ratatoskr/query/Syntax$CastType" "INTEGER" "Lcom/example/ratatoskr/ratatoskr/query/Syntax$CastType;" (.ref pR15) := S_Syntax_CastType_INTEGER.ext E2
  have c17 : Sta Z h12 "com/example/ratatoskr/ratatoskr/query/Syntax$CastType" "INTEGER" "Lcom/example/ratatoskr/ratatoskr/query/Syntax$CastType;" (.ref pR15) := c16.wr W12
  obtain ⟨T18, X18, e18, st18⟩ := getS2 X12 hx hZ hown (host := "") (Or.inl (ow hw 6 rfl)) Via.refl e12 c17 (g := (mkF m 13 #[.val (.int pI1), .unset, .unset, .unset] [(.int (1 : Int32)), (.ref bR2), (.ref bR2)])) rfl (hb hby at_13)
  obtain ⟨clq19, Arq19, Akq19, Asq19, Anq19, Ahq19, Agq19⟩ := V12
  have hin20 : ¬ ((1 : Int32) < 0 ∨ clq19.slots.size ≤ ((1 : Int32)).toNatClampNeg) := inb_of Asq19 ⟨by decide, by decide⟩
  have c21 : Exa Z h2 pR15 "com/example/ratatoskr/ratatoskr/query/Syntax$CastType" := E_pR15.ext E2
  have c22 : Exa Z h12 pR15 "com/example/ratatoskr/ratatoskr/query/Syntax$CastType" := c21.wr W12
  obtain ⟨T23, h23, X23, e23, W23, st23⟩ := stR X18 hx hZ e18 Arq19 (j := (1 : Int32)) hin20 rfl (Sto.ofV Arq19 Akq19 O2 (Ins.self c22)) (g := (mkF m 16 #[.val (.int pI1), .unset, .unset, .unset] [(.ref pR15), (.int (1 : Int32)), (.ref bR2), (.ref bR2)])) rfl rfl (hb hby at_16)
  have Z25 : n0 ≤ h23.size := (Nat.le_trans Z14 (Keep.of_wr W23).1)
  have N23 := Fr.snoc X23 N12 g8
  obtain ⟨Lh23, X23, N23⟩ := own_hide X23 N23
  have V23 : Arv Z h23 bR2 k2 (.object "com/example/ratatoskr/ratatoskr/query/Syntax$CastType") (11 : Int32) [(.ref pR5), (.ref pR15), .null, .null, .null, .null, .null, .null, .null, .null, .null] .null := Arv.set Arq19 Akq19 Asq19 Anq19 Ahq19 Agq19 rfl W23 1 rfl (Nat.le_of_ble_eq_true rfl)
  have c27 : Sta Z h2 "com/example/ratatoskr/ratatoskr/query/Syntax$CastType" "BIGINT" "Lcom/example/ratatoskr/ratatoskr/query/Syntax$CastType;" (.ref pR26) := S_Syntax_CastType_BIGINT.ext E2
  have c28 : Sta Z h12 "com/example/ratatoskr/ratatoskr/query/Syntax$CastType" "BIGINT" "Lcom/example/ratatoskr/ratatoskr/query/Syntax$CastType;" (.ref pR26) := c27.wr W12
  have c29 : Sta Z h23 "com/example/ratatoskr/ratatoskr/query/Syntax$CastType" "BIGINT" "Lcom/example/ratatoskr/ratatoskr/query/Syntax$CastType;" (.ref pR26) := c28.wr W23
  obtain ⟨T30, X30, e30, st30⟩ := getS2 X23 hx hZ hown (host := "") (Or.inl (ow hw 8 rfl)) Via.refl e23 c29 (g := (mkF m 19 #[.val (.int pI1), .unset, .unset, .unset] [(.int (2 : Int32)), (.ref bR2), (.ref bR2)])) rfl (hb hby at_19)
  obtain ⟨clq31, Arq31, Akq31, Asq31, Anq31, Ahq31, Agq31⟩ := V23
  have hin32 : ¬ ((2 : Int32) < 0 ∨ clq31.slots.size ≤ ((2 : Int32)).toNatClampNeg) := inb_of Asq31 ⟨by decide, by decide⟩
  have c33 : Exa Z h2 pR26 "com/example/ratatoskr/ratatoskr/query/Syntax$CastType" := E_pR26.ext E2
  have c34 : Exa Z h12 pR26 "com/example/ratatoskr/ratatoskr/query/Syntax$CastType" := c33.wr W12
  have c35 : Exa Z h23 pR26 "com/example/ratatoskr/ratatoskr/query/Syntax$CastType" := c34.wr W23
  obtain ⟨T36, h36, X36, e36, W36, st36⟩ := stR X30 hx hZ e30 Arq31 (j := (2 : Int32)) hin32 rfl (Sto.ofV Arq31 Akq31 O2 (Ins.self c35)) (g := (mkF m 22 #[.val (.int pI1), .unset, .unset, .unset] [(.ref pR26), (.int (2 : Int32)), (.ref bR2), (.ref bR2)])) rfl rfl (hb hby at_22)
  have Z38 : n0 ≤ h36.size := (Nat.le_trans Z25 (Keep.of_wr W36).1)
  have N36 := Fr.snoc X36 N23 g8
  obtain ⟨Lh36, X36, N36⟩ := own_hide X36 N36
  have V36 : Arv Z h36 bR2 k2 (.object "com/example/ratatoskr/ratatoskr/query/Syntax$CastType") (11 : Int32) [(.ref pR5), (.ref pR15), (.ref pR26), .null, .null, .null, .null, .null, .null, .null, .null] .null := Arv.set Arq31 Akq31 Asq31 Anq31 Ahq31 Agq31 rfl W36 2 rfl (Nat.le_of_ble_eq_true rfl)
  have c40 : Sta Z h2 "com/example/ratatoskr/ratatoskr/query/Syntax$CastType" "REAL" "Lcom/example/ratatoskr/ratatoskr/query/Syntax$CastType;" (.ref pR39) := S_Syntax_CastType_REAL.ext E2
  have c41 : Sta Z h12 "com/example/ratatoskr/ratatoskr/query/Syntax$CastType" "REAL" "Lcom/example/ratatoskr/ratatoskr/query/Syntax$CastType;" (.ref pR39) := c40.wr W12
  have c42 : Sta Z h23 "com/example/ratatoskr/ratatoskr/query/Syntax$CastType" "REAL" "Lcom/example/ratatoskr/ratatoskr/query/Syntax$CastType;" (.ref pR39) := c41.wr W23
  have c43 : Sta Z h36 "com/example/ratatoskr/ratatoskr/query/Syntax$CastType" "REAL" "Lcom/example/ratatoskr/ratatoskr/query/Syntax$CastType;" (.ref pR39) := c42.wr W36
  obtain ⟨T44, X44, e44, st44⟩ := getS2 X36 hx hZ hown (host := "") (Or.inl (ow hw 10 rfl)) Via.refl e36 c43 (g := (mkF m 25 #[.val (.int pI1), .unset, .unset, .unset] [(.int (3 : Int32)), (.ref bR2), (.ref bR2)])) rfl (hb hby at_25)
  obtain ⟨clq45, Arq45, Akq45, Asq45, Anq45, Ahq45, Agq45⟩ := V36
  have hin46 : ¬ ((3 : Int32) < 0 ∨ clq45.slots.size ≤ ((3 : Int32)).toNatClampNeg) := inb_of Asq45 ⟨by decide, by decide⟩
  have c47 : Exa Z h2 pR39 "com/example/ratatoskr/ratatoskr/query/Syntax$CastType" := E_pR39.ext E2
  have c48 : Exa Z h12 pR39 "com/example/ratatoskr/ratatoskr/query/Syntax$CastType" := c47.wr W12
  have c49 : Exa Z h23 pR39 "com/example/ratatoskr/ratatoskr/query/Syntax$CastType" := c48.wr W23
  have c50 : Exa Z h36 pR39 "com/example/ratatoskr/ratatoskr/query/Syntax$CastType" := c49.wr W36
  obtain ⟨T51, h51, X51, e51, W51, st51⟩ := stR X44 hx hZ e44 Arq45 (j := (3 : Int32)) hin46 rfl (Sto.ofV Arq45 Akq45 O2 (Ins.self c50)) (g := (mkF m 28 #[.val (.int pI1), .unset, .unset, .unset] [(.ref pR39), (.int (3 : Int32)), (.ref bR2), (.ref bR2)])) rfl rfl (hb hby at_28)
  have Z53 : n0 ≤ h51.size := (Nat.le_trans Z38 (Keep.of_wr W51).1)
  have N51 := Fr.snoc X51 N36 g8
  obtain ⟨Lh51, X51, N51⟩ := own_hide X51 N51
  have V51 : Arv Z h51 bR2 k2 (.object "com/example/ratatoskr/ratatoskr/query/Syntax$CastType") (11 : Int32) [(.ref pR5), (.ref pR15), (.ref pR26), (.ref pR39), .null, .null, .null, .null, .null, .null, .null] .null := Arv.set Arq45 Akq45 Asq45 Anq45 Ahq45 Agq45 rfl W51 3 rfl (Nat.le_of_ble_eq_true rfl)
  have c55 : Sta Z h2 "com/example/ratatoskr/ratatoskr/query/Syntax$CastType" "DOUBLE" "Lcom/example/ratatoskr/ratatoskr/query/Syntax$CastType;" (.ref pR54) := S_Syntax_CastType_DOUBLE.ext E2
  have c56 : Sta Z h12 "com/example/ratatoskr/ratatoskr/query/Syntax$CastType" "DOUBLE" "Lcom/example/ratatoskr/ratatoskr/query/Syntax$CastType;" (.ref pR54) := c55.wr W12
  have c57 : Sta Z h23 "com/example/ratatoskr/ratatoskr/query/Syntax$CastType" "DOUBLE" "Lcom/example/ratatoskr/ratatoskr/query/Syntax$CastType;" (.ref pR54) := c56.wr W23
  have c58 : Sta Z h36 "com/example/ratatoskr/ratatoskr/query/Syntax$CastType" "DOUBLE" "Lcom/example/ratatoskr/ratatoskr/query/Syntax$CastType;" (.ref pR54) := c57.wr W36
  have c59 : Sta Z h51 "com/example/ratatoskr/ratatoskr/query/Syntax$CastType" "DOUBLE" "Lcom/example/ratatoskr/ratatoskr/query/Syntax$CastType;" (.ref pR54) := c58.wr W51
  obtain ⟨T60, X60, e60, st60⟩ := getS2 X51 hx hZ hown (host := "") (Or.inl (ow hw 12 rfl)) Via.refl e51 c59 (g := (mkF m 31 #[.val (.int pI1), .unset, .unset, .unset] [(.int (4 : Int32)), (.ref bR2), (.ref bR2)])) rfl (hb hby at_31)
  obtain ⟨clq61, Arq61, Akq61, Asq61, Anq61, Ahq61, Agq61⟩ := V51
  have hin62 : ¬ ((4 : Int32) < 0 ∨ clq61.slots.size ≤ ((4 : Int32)).toNatClampNeg) := inb_of Asq61 ⟨by decide, by decide⟩
  have c63 : Exa Z h2 pR54 "com/example/ratatoskr/ratatoskr/query/Syntax$CastType" := E_pR54.ext E2
  have c64 : Exa Z h12 pR54 "com/example/ratatoskr/ratatoskr/query/Syntax$CastType" := c63.wr W12
  have c65 : Exa Z h23 pR54 "com/example/ratatoskr/ratatoskr/query/Syntax$CastType" := c64.wr W23
  have c66 : Exa Z h36 pR54 "com/example/ratatoskr/ratatoskr/query/Syntax$CastType" := c65.wr W36
  have c67 : Exa Z h51 pR54 "com/example/ratatoskr/ratatoskr/query/Syntax$CastType" := c66.wr W51
  obtain ⟨T68, h68, X68, e68, W68, st68⟩ := stR X60 hx hZ e60 Arq61 (j := (4 : Int32)) hin62 rfl (Sto.ofV Arq61 Akq61 O2 (Ins.self c67)) (g := (mkF m 34 #[.val (.int pI1), .unset, .unset, .unset] [(.ref pR54), (.int (4 : Int32)), (.ref bR2), (.ref bR2)])) rfl rfl (hb hby at_34)
  have Z70 : n0 ≤ h68.size := (Nat.le_trans Z53 (Keep.of_wr W68).1)
  have N68 := Fr.snoc X68 N51 g8
  obtain ⟨Lh68, X68, N68⟩ := own_hide X68 N68
  have V68 : Arv Z h68 bR2 k2 (.object "com/example/ratatoskr/ratatoskr/query/Syntax$CastType") (11 : Int32) [(.ref pR5), (.ref pR15), (.ref pR26), (.ref pR39), (.ref pR54), .null, .null, .null, .null, .null, .null] .null := Arv.set Arq61 Akq61 Asq61 Anq61 Ahq61 Agq61 rfl W68 4 rfl (Nat.le_of_ble_eq_true rfl)
  have c72 : Sta Z h2 "com/example/ratatoskr/ratatoskr/query/Syntax$CastType" "CHAR" "Lcom/example/ratatoskr/ratatoskr/query/Syntax$CastType;" (.ref pR71) := S_Syntax_CastType_CHAR.ext E2
  have c73 : Sta Z h12 "com/example/ratatoskr/ratatoskr/query/Syntax$CastType" "CHAR" "Lcom/example/ratatoskr/ratatoskr/query/Syntax$CastType;" (.ref pR71) := c72.wr W12
  have c74 : Sta Z h23 "com/example/ratatoskr/ratatoskr/query/Syntax$CastType" "CHAR" "Lcom/example/ratatoskr/ratatoskr/query/Syntax$CastType;" (.ref pR71) := c73.wr W23
  have c75 : Sta Z h36 "com/example/ratatoskr/ratatoskr/query/Syntax$CastType" "CHAR" "Lcom/example/ratatoskr/ratatoskr/query/Syntax$CastType;" (.ref pR71) := c74.wr W36
  have c76 : Sta Z h51 "com/example/ratatoskr/ratatoskr/query/Syntax$CastType" "CHAR" "Lcom/example/ratatoskr/ratatoskr/query/Syntax$CastType;" (.ref pR71) := c75.wr W51
  have c77 : Sta Z h68 "com/example/ratatoskr/ratatoskr/query/Syntax$CastType" "CHAR" "Lcom/example/ratatoskr/ratatoskr/query/Syntax$CastType;" (.ref pR71) := c76.wr W68
  obtain ⟨T78, X78, e78, st78⟩ := getS2 X68 hx hZ hown (host := "") (Or.inl (ow hw 14 rfl)) Via.refl e68 c77 (g := (mkF m 37 #[.val (.int pI1), .unset, .unset, .unset] [(.int (5 : Int32)), (.ref bR2), (.ref bR2)])) rfl (hb hby at_37)
  obtain ⟨clq79, Arq79, Akq79, Asq79, Anq79, Ahq79, Agq79⟩ := V68
  have hin80 : ¬ ((5 : Int32) < 0 ∨ clq79.slots.size ≤ ((5 : Int32)).toNatClampNeg) := inb_of Asq79 ⟨by decide, by decide⟩
  have c81 : Exa Z h2 pR71 "com/example/ratatoskr/ratatoskr/query/Syntax$CastType" := E_pR71.ext E2
  have c82 : Exa Z h12 pR71 "com/example/ratatoskr/ratatoskr/query/Syntax$CastType" := c81.wr W12
  have c83 : Exa Z h23 pR71 "com/example/ratatoskr/ratatoskr/query/Syntax$CastType" := c82.wr W23
  have c84 : Exa Z h36 pR71 "com/example/ratatoskr/ratatoskr/query/Syntax$CastType" := c83.wr W36
  have c85 : Exa Z h51 pR71 "com/example/ratatoskr/ratatoskr/query/Syntax$CastType" := c84.wr W51
  have c86 : Exa Z h68 pR71 "com/example/ratatoskr/ratatoskr/query/Syntax$CastType" := c85.wr W68
  obtain ⟨T87, h87, X87, e87, W87, st87⟩ := stR X78 hx hZ e78 Arq79 (j := (5 : Int32)) hin80 rfl (Sto.ofV Arq79 Akq79 O2 (Ins.self c86)) (g := (mkF m 40 #[.val (.int pI1), .unset, .unset, .unset] [(.ref pR71), (.int (5 : Int32)), (.ref bR2), (.ref bR2)])) rfl rfl (hb hby at_40)
  have Z89 : n0 ≤ h87.size := (Nat.le_trans Z70 (Keep.of_wr W87).1)
  have N87 := Fr.snoc X87 N68 g8
  obtain ⟨Lh87, X87, N87⟩ := own_hide X87 N87
  have V87 : Arv Z h87 bR2 k2 (.object "com/example/ratatoskr/ratatoskr/query/Syntax$CastType") (11 : Int32) [(.ref pR5), (.ref pR15), (.ref pR26), (.ref pR39), (.ref pR54), (.ref pR71), .null, .null, .null, .null, .null] .null := Arv.set Arq79 Akq79 Asq79 Anq79 Ahq79 Agq79 rfl W87 5 rfl (Nat.le_of_ble_eq_true rfl)
  have c91 : Sta Z h2 "com/example/ratatoskr/ratatoskr/query/Syntax$CastType" "VARCHAR" "Lcom/example/ratatoskr/ratatoskr/query/Syntax$CastType;" (.ref pR90) := S_Syntax_CastType_VARCHAR.ext E2
  have c92 : Sta Z h12 "com/example/ratatoskr/ratatoskr/query/Syntax$CastType" "VARCHAR" "Lcom/example/ratatoskr/ratatoskr/query/Syntax$CastType;" (.ref pR90) := c91.wr W12
  have c93 : Sta Z h23 "com/example/ratatoskr/ratatoskr/query/Syntax$CastType" "VARCHAR" "Lcom/example/ratatoskr/ratatoskr/query/Syntax$CastType;" (.ref pR90) := c92.wr W23
  have c94 : Sta Z h36 "com/example/ratatoskr/ratatoskr/query/Syntax$CastType" "VARCHAR" "Lcom/example/ratatoskr/ratatoskr/query/Syntax$CastType;" (.ref pR90) := c93.wr W36
  have c95 : Sta Z h51 "com/example/ratatoskr/ratatoskr/query/Syntax$CastType" "VARCHAR" "Lcom/example/ratatoskr/ratatoskr/query/Syntax$CastType;" (.ref pR90) := c94.wr W51
  have c96 : Sta Z h68 "com/example/ratatoskr/ratatoskr/query/Syntax$CastType" "VARCHAR" "Lcom/example/ratatoskr/ratatoskr/query/Syntax$CastType;" (.ref pR90) := c95.wr W68
  have c97 : Sta Z h87 "com/example/ratatoskr/ratatoskr/query/Syntax$CastType" "VARCHAR" "Lcom/example/ratatoskr/ratatoskr/query/Syntax$CastType;" (.ref pR90) := c96.wr W87
  obtain ⟨T98, X98, e98, st98⟩ := getS2 X87 hx hZ hown (host := "") (Or.inl (ow hw 16 rfl)) Via.refl e87 c97 (g := (mkF m 44 #[.val (.int pI1), .unset, .unset, .unset] [(.int (6 : Int32)), (.ref bR2), (.ref bR2)])) rfl (hb hby at_44)
  obtain ⟨clq99, Arq99, Akq99, Asq99, Anq99, Ahq99, Agq99⟩ := V87
  have hin100 : ¬ ((6 : Int32) < 0 ∨ clq99.slots.size ≤ ((6 : Int32)).toNatClampNeg) := inb_of Asq99 ⟨by decide, by decide⟩
  have c101 : Exa Z h2 pR90 "com/example/ratatoskr/ratatoskr/query/Syntax$CastType" := E_pR90.ext E2
  have c102 : Exa Z h12 pR90 "com/example/ratatoskr/ratatoskr/query/Syntax$CastType" := c101.wr W12
  have c103 : Exa Z h23 pR90 "com/example/ratatoskr/ratatoskr/query/Syntax$CastType" := c102.wr W23
  have c104 : Exa Z h36 pR90 "com/example/ratatoskr/ratatoskr/query/Syntax$CastType" := c103.wr W36
  have c105 : Exa Z h51 pR90 "com/example/ratatoskr/ratatoskr/query/Syntax$CastType" := c104.wr W51
  have c106 : Exa Z h68 pR90 "com/example/ratatoskr/ratatoskr/query/Syntax$CastType" := c105.wr W68
  have c107 : Exa Z h87 pR90 "com/example/ratatoskr/ratatoskr/query/Syntax$CastType" := c106.wr W87
  obtain ⟨T108, h108, X108, e108, W108, st108⟩ := stR X98 hx hZ e98 Arq99 (j := (6 : Int32)) hin100 rfl (Sto.ofV Arq99 Akq99 O2 (Ins.self c107)) (g := (mkF m 47 #[.val (.int pI1), .unset, .unset, .unset] [(.ref pR90), (.int (6 : Int32)), (.ref bR2), (.ref bR2)])) rfl rfl (hb hby at_47)
  have Z110 : n0 ≤ h108.size := (Nat.le_trans Z89 (Keep.of_wr W108).1)
  have N108 := Fr.snoc X108 N87 g8
  obtain ⟨Lh108, X108, N108⟩ := own_hide X108 N108
  have V108 : Arv Z h108 bR2 k2 (.object "com/example/ratatoskr/ratatoskr/query/Syntax$CastType") (11 : Int32) [(.ref pR5), (.ref pR15), (.ref pR26), (.ref pR39), (.ref pR54), (.ref pR71), (.ref pR90), .null, .null, .null, .null] .null := Arv.set Arq99 Akq99 Asq99 Anq99 Ahq99 Agq99 rfl W108 6 rfl (Nat.le_of_ble_eq_true rfl)
  have c112 : Sta Z h2 "com/example/ratatoskr/ratatoskr/query/Syntax$CastType" "TIMESTAMP" "Lcom/example/ratatoskr/ratatoskr/query/Syntax$CastType;" (.ref pR111) := S_Syntax_CastType_TIMESTAMP.ext E2
  have c113 : Sta Z h12 "com/example/ratatoskr/ratatoskr/query/Syntax$CastType" "TIMESTAMP" "Lcom/example/ratatoskr/ratatoskr/query/Syntax$CastType;" (.ref pR111) := c112.wr W12
  have c114 : Sta Z h23 "com/example/ratatoskr/ratatoskr/query/Syntax$CastType" "TIMESTAMP" "Lcom/example/ratatoskr/ratatoskr/query/Syntax$CastType;" (.ref pR111) := c113.wr W23
  have c115 : Sta Z h36 "com/example/ratatoskr/ratatoskr/query/Syntax$CastType" "TIMESTAMP" "Lcom/example/ratatoskr/ratatoskr/query/Syntax$CastType;" (.ref pR111) := c114.wr W36
  have c116 : Sta Z h51 "com/example/ratatoskr/ratatoskr/query/Syntax$CastType" "TIMESTAMP" "Lcom/example/ratatoskr/ratatoskr/query/Syntax$CastType;" (.ref pR111) := c115.wr W51
  have c117 : Sta Z h68 "com/example/ratatoskr/ratatoskr/query/Syntax$CastType" "TIMESTAMP" "Lcom/example/ratatoskr/ratatoskr/query/Syntax$CastType;" (.ref pR111) := c116.wr W68
  have c118 : Sta Z h87 "com/example/ratatoskr/ratatoskr/query/Syntax$CastType" "TIMESTAMP" "Lcom/example/ratatoskr/ratatoskr/query/Syntax$CastType;" (.ref pR111) := c117.wr W87
  have c119 : Sta Z h108 "com/example/ratatoskr/ratatoskr/query/Syntax$CastType" "TIMESTAMP" "Lcom/example/ratatoskr/ratatoskr/query/Syntax$CastType;" (.ref pR111) := c118.wr W108
  obtain ⟨T120, X120, e120, st120⟩ := getS2 X108 hx hZ hown (host := "") (Or.inl (ow hw 18 rfl)) Via.refl e108 c119 (g := (mkF m 51 #[.val (.int pI1), .unset, .unset, .unset] [(.int (7 : Int32)), (.ref bR2), (.ref bR2)])) rfl (hb hby at_51)
  obtain ⟨clq121, Arq121, Akq121, Asq121, Anq121, Ahq121, Agq121⟩ := V108
  have hin122 : ¬ ((7 : Int32) < 0 ∨ clq121.slots.size ≤ ((7 : Int32)).toNatClampNeg) := inb_of Asq121 ⟨by decide, by decide⟩
  have c123 : Exa Z h2 pR111 "com/example/ratatoskr/ratatoskr/query/Syntax$CastType" := E_pR111.ext E2
  have c124 : Exa Z h12 pR111 "com/example/ratatoskr/ratatoskr/query/Syntax$CastType" := c123.wr W12
  have c125 : Exa Z h23 pR111 "com/example/ratatoskr/ratatoskr/query/Syntax$CastType" := c124.wr W23
  have c126 : Exa Z h36 pR111 "com/example/ratatoskr/ratatoskr/query/Syntax$CastType" := c125.wr W36
  have c127 : Exa Z h51 pR111 "com/example/ratatoskr/ratatoskr/query/Syntax$CastType" := c126.wr W51
  have c128 : Exa Z h68 pR111 "com/example/ratatoskr/ratatoskr/query/Syntax$CastType" := c127.wr W68
  have c129 : Exa Z h87 pR111 "com/example/ratatoskr/ratatoskr/query/Syntax$CastType" := c128.wr W87
  have c130 : Exa Z h108 pR111 "com/example/ratatoskr/ratatoskr/query/Syntax$CastType" := c129.wr W108
  obtain ⟨T131, h131, X131, e131, W131, st131⟩ := stR X120 hx hZ e120 Arq121 (j := (7 : Int32)) hin122 rfl (Sto.ofV Arq121 Akq121 O2 (Ins.self c130)) (g := (mkF m 54 #[.val (.int pI1), .unset, .unset, .unset] [(.ref pR111), (.int (7 : Int32)), (.ref bR2), (.ref bR2)])) rfl rfl (hb hby at_54)
  have Z133 : n0 ≤ h131.size := (Nat.le_trans Z110 (Keep.of_wr W131).1)
  have N131 := Fr.snoc X131 N108 g8
  obtain ⟨Lh131, X131, N131⟩ := own_hide X131 N131
  have V131 : Arv Z h131 bR2 k2 (.object "com/example/ratatoskr/ratatoskr/query/Syntax$CastType") (11 : Int32) [(.ref pR5), (.ref pR15), (.ref pR26), (.ref pR39), (.ref pR54), (.ref pR71), (.ref pR90), (.ref pR111), .null, .null, .null] .null := Arv.set Arq121 Akq121 Asq121 Anq121 Ahq121 Agq121 rfl W131 7 rfl (Nat.le_of_ble_eq_true rfl)
  have c135 : Sta Z h2 "com/example/ratatoskr/ratatoskr/query/Syntax$CastType" "POINT" "Lcom/example/ratatoskr/ratatoskr/query/Syntax$CastType;" (.ref pR134) := S_Syntax_CastType_POINT.ext E2
  have c136 : Sta Z h12 "com/example/ratatoskr/ratatoskr/query/Syntax$CastType" "POINT" "Lcom/example/ratatoskr/ratatoskr/query/Syntax$CastType;" (.ref pR134) := c135.wr W12
  have c137 : Sta Z h23 "com/example/ratatoskr/ratatoskr/query/Syntax$CastType" "POINT" "Lcom/example/ratatoskr/ratatoskr/query/Syntax$CastType;" (.ref pR134) := c136.wr W23
  have c138 : Sta Z h36 "com/example/ratatoskr/ratatoskr/query/Syntax$CastType" "POINT" "Lcom/example/ratatoskr/ratatoskr/query/Syntax$CastType;" (.ref pR134) := c137.wr W36
  have c139 : Sta Z h51 "com/example/ratatoskr/ratatoskr/query/Syntax$CastType" "POINT" "Lcom/example/ratatoskr/ratatoskr/query/Syntax$CastType;" (.ref pR134) := c138.wr W51
  have c140 : Sta Z h68 "com/example/ratatoskr/ratatoskr/query/Syntax$CastType" "POINT" "Lcom/example/ratatoskr/ratatoskr/query/Syntax$CastType;" (.ref pR134) := c139.wr W68
  have c141 : Sta Z h87 "com/example/ratatoskr/ratatoskr/query/Syntax$CastType" "POINT" "Lcom/example/ratatoskr/ratatoskr/query/Syntax$CastType;" (.ref pR134) := c140.wr W87
  have c142 : Sta Z h108 "com/example/ratatoskr/ratatoskr/query/Syntax$CastType" "POINT" "Lcom/example/ratatoskr/ratatoskr/query/Syntax$CastType;" (.ref pR134) := c141.wr W108
  have c143 : Sta Z h131 "com/example/ratatoskr/ratatoskr/query/Syntax$CastType" "POINT" "Lcom/example/ratatoskr/ratatoskr/query/Syntax$CastType;" (.ref pR134) := c142.wr W131
  obtain ⟨T144, X144, e144, st144⟩ := getS2 X131 hx hZ hown (host := "") (Or.inl (ow hw 20 rfl)) Via.refl e131 c143 (g := (mkF m 58 #[.val (.int pI1), .unset, .unset, .unset] [(.int (8 : Int32)), (.ref bR2), (.ref bR2)])) rfl (hb hby at_58)
  obtain ⟨clq145, Arq145, Akq145, Asq145, Anq145, Ahq145, Agq145⟩ := V131
  have hin146 : ¬ ((8 : Int32) < 0 ∨ clq145.slots.size ≤ ((8 : Int32)).toNatClampNeg) := inb_of Asq145 ⟨by decide, by decide⟩
  have c147 : Exa Z h2 pR134 "com/example/ratatoskr/ratatoskr/query/Syntax$CastType" := E_pR134.ext E2
  have c148 : Exa Z h12 pR134 "com/example/ratatoskr/ratatoskr/query/Syntax$CastType" := c147.wr W12
  have c149 : Exa Z h23 pR134 "com/example/ratatoskr/ratatoskr/query/Syntax$CastType" := c148.wr W23
  have c150 : Exa Z h36 pR134 "com/example/ratatoskr/ratatoskr/query/Syntax$CastType" := c149.wr W36
  have c151 : Exa Z h51 pR134 "com/example/ratatoskr/ratatoskr/query/Syntax$CastType" := c150.wr W51
  have c152 : Exa Z h68 pR134 "com/example/ratatoskr/ratatoskr/query/Syntax$CastType" := c151.wr W68
  have c153 : Exa Z h87 pR134 "com/example/ratatoskr/ratatoskr/query/Syntax$CastType" := c152.wr W87
  have c154 : Exa Z h108 pR134 "com/example/ratatoskr/ratatoskr/query/Syntax$CastType" := c153.wr W108
  have c155 : Exa Z h131 pR134 "com/example/ratatoskr/ratatoskr/query/Syntax$CastType" := c154.wr W131
  obtain ⟨T156, h156, X156, e156, W156, st156⟩ := stR X144 hx hZ e144 Arq145 (j := (8 : Int32)) hin146 rfl (Sto.ofV Arq145 Akq145 O2 (Ins.self c155)) (g := (mkF m 61 #[.val (.int pI1), .unset, .unset, .unset] [(.ref pR134), (.int (8 : Int32)), (.ref bR2), (.ref bR2)])) rfl rfl (hb hby at_61)
  have Z158 : n0 ≤ h156.size := (Nat.le_trans Z133 (Keep.of_wr W156).1)
  have N156 := Fr.snoc X156 N131 g8
  obtain ⟨Lh156, X156, N156⟩ := own_hide X156 N156
  have V156 : Arv Z h156 bR2 k2 (.object "com/example/ratatoskr/ratatoskr/query/Syntax$CastType") (11 : Int32) [(.ref pR5), (.ref pR15), (.ref pR26), (.ref pR39), (.ref pR54), (.ref pR71), (.ref pR90), (.ref pR111), (.ref pR134), .null, .null] .null := Arv.set Arq145 Akq145 Asq145 Anq145 Ahq145 Agq145 rfl W156 8 rfl (Nat.le_of_ble_eq_true rfl)
  have c160 : Sta Z h2 "com/example/ratatoskr/ratatoskr/query/Syntax$CastType" "CIRCLE" "Lcom/example/ratatoskr/ratatoskr/query/Syntax$CastType;" (.ref pR159) := S_Syntax_CastType_CIRCLE.ext E2
  have c161 : Sta Z h12 "com/example/ratatoskr/ratatoskr/query/Syntax$CastType" "CIRCLE" "Lcom/example/ratatoskr/ratatoskr/query/Syntax$CastType;" (.ref pR159) := c160.wr W12
  have c162 : Sta Z h23 "com/example/ratatoskr/ratatoskr/query/Syntax$CastType" "CIRCLE" "Lcom/example/ratatoskr/ratatoskr/query/Syntax$CastType;" (.ref pR159) := c161.wr W23
  have c163 : Sta Z h36 "com/example/ratatoskr/ratatoskr/query/Syntax$CastType" "CIRCLE" "Lcom/example/ratatoskr/ratatoskr/query/Syntax$CastType;" (.ref pR159) := c162.wr W36
  have c164 : Sta Z h51 "com/example/ratatoskr/ratatoskr/query/Syntax$CastType" "CIRCLE" "Lcom/example/ratatoskr/ratatoskr/query/Syntax$CastType;" (.ref pR159) := c163.wr W51
  have c165 : Sta Z h68 "com/example/ratatoskr/ratatoskr/query/Syntax$CastType" "CIRCLE" "Lcom/example/ratatoskr/ratatoskr/query/Syntax$CastType;" (.ref pR159) := c164.wr W68
  have c166 : Sta Z h87 "com/example/ratatoskr/ratatoskr/query/Syntax$CastType" "CIRCLE" "Lcom/example/ratatoskr/ratatoskr/query/Syntax$CastType;" (.ref pR159) := c165.wr W87
  have c167 : Sta Z h108 "com/example/ratatoskr/ratatoskr/query/Syntax$CastType" "CIRCLE" "Lcom/example/ratatoskr/ratatoskr/query/Syntax$CastType;" (.ref pR159) := c166.wr W108
  have c168 : Sta Z h131 "com/example/ratatoskr/ratatoskr/query/Syntax$CastType" "CIRCLE" "Lcom/example/ratatoskr/ratatoskr/query/Syntax$CastType;" (.ref pR159) := c167.wr W131
  have c169 : Sta Z h156 "com/example/ratatoskr/ratatoskr/query/Syntax$CastType" "CIRCLE" "Lcom/example/ratatoskr/ratatoskr/query/Syntax$CastType;" (.ref pR159) := c168.wr W156
  obtain ⟨T170, X170, e170, st170⟩ := getS2 X156 hx hZ hown (host := "") (Or.inl (ow hw 22 rfl)) Via.refl e156 c169 (g := (mkF m 65 #[.val (.int pI1), .unset, .unset, .unset] [(.int (9 : Int32)), (.ref bR2), (.ref bR2)])) rfl (hb hby at_65)
  obtain ⟨clq171, Arq171, Akq171, Asq171, Anq171, Ahq171, Agq171⟩ := V156
  have hin172 : ¬ ((9 : Int32) < 0 ∨ clq171.slots.size ≤ ((9 : Int32)).toNatClampNeg) := inb_of Asq171 ⟨by decide, by decide⟩
  have c173 : Exa Z h2 pR159 "com/example/ratatoskr/ratatoskr/query/Syntax$CastType" := E_pR159.ext E2
  have c174 : Exa Z h12 pR159 "com/example/ratatoskr/ratatoskr/query/Syntax$CastType" := c173.wr W12
  have c175 : Exa Z h23 pR159 "com/example/ratatoskr/ratatoskr/query/Syntax$CastType" := c174.wr W23
  have c176 : Exa Z h36 pR159 "com/example/ratatoskr/ratatoskr/query/Syntax$CastType" := c175.wr W36
  have c177 : Exa Z h51 pR159 "com/example/ratatoskr/ratatoskr/query/Syntax$CastType" := c176.wr W51
  have c178 : Exa Z h68 pR159 "com/example/ratatoskr/ratatoskr/query/Syntax$CastType" := c177.wr W68
  have c179 : Exa Z h87 pR159 "com/example/ratatoskr/ratatoskr/query/Syntax$CastType" := c178.wr W87
  have c180 : Exa Z h108 pR159 "com/example/ratatoskr/ratatoskr/query/Syntax$CastType" := c179.wr W108
  have c181 : Exa Z h131 pR159 "com/example/ratatoskr/ratatoskr/query/Syntax$CastType" := c180.wr W131
  have c182 : Exa Z h156 pR159 "com/example/ratatoskr/ratatoskr/query/Syntax$CastType" := c181.wr W156
  obtain ⟨T183, h183, X183, e183, W183, st183⟩ := stR X170 hx hZ e170 Arq171 (j := (9 : Int32)) hin172 rfl (Sto.ofV Arq171 Akq171 O2 (Ins.self c182)) (g := (mkF m 68 #[.val (.int pI1), .unset, .unset, .unset] [(.ref pR159), (.int (9 : Int32)), (.ref bR2), (.ref bR2)])) rfl rfl (hb hby at_68)
  have Z185 : n0 ≤ h183.size := (Nat.le_trans Z158 (Keep.of_wr W183).1)
  have N183 := Fr.snoc X183 N156 g8
  obtain ⟨Lh183, X183, N183⟩ := own_hide X183 N183
  have V183 : Arv Z h183 bR2 k2 (.object "com/example/ratatoskr/ratatoskr/query/Syntax$CastType") (11 : Int32) [(.ref pR5), (.ref pR15), (.ref pR26), (.ref pR39), (.ref pR54), (.ref pR71), (.ref pR90), (.ref pR111), (.ref pR134), (.ref pR159), .null] .null := Arv.set Arq171 Akq171 Asq171 Anq171 Ahq171 Agq171 rfl W183 9 rfl (Nat.le_of_ble_eq_true rfl)
  have c187 : Sta Z h2 "com/example/ratatoskr/ratatoskr/query/Syntax$CastType" "POLYGON" "Lcom/example/ratatoskr/ratatoskr/query/Syntax$CastType;" (.ref pR186) := S_Syntax_CastType_POLYGON.ext E2
  have c188 : Sta Z h12 "com/example/ratatoskr/ratatoskr/query/Syntax$CastType" "POLYGON" "Lcom/example/ratatoskr/ratatoskr/query/Syntax$CastType;" (.ref pR186) := c187.wr W12
  have c189 : Sta Z h23 "com/example/ratatoskr/ratatoskr/query/Syntax$CastType" "POLYGON" "Lcom/example/ratatoskr/ratatoskr/query/Syntax$CastType;" (.ref pR186) := c188.wr W23
  have c190 : Sta Z h36 "com/example/ratatoskr/ratatoskr/query/Syntax$CastType" "POLYGON" "Lcom/example/ratatoskr/ratatoskr/query/Syntax$CastType;" (.ref pR186) := c189.wr W36
  have c191 : Sta Z h51 "com/example/ratatoskr/ratatoskr/query/Syntax$CastType" "POLYGON" "Lcom/example/ratatoskr/ratatoskr/query/Syntax$CastType;" (.ref pR186) := c190.wr W51
  have c192 : Sta Z h68 "com/example/ratatoskr/ratatoskr/query/Syntax$CastType" "POLYGON" "Lcom/example/ratatoskr/ratatoskr/query/Syntax$CastType;" (.ref pR186) := c191.wr W68
  have c193 : Sta Z h87 "com/example/ratatoskr/ratatoskr/query/Syntax$CastType" "POLYGON" "Lcom/example/ratatoskr/ratatoskr/query/Syntax$CastType;" (.ref pR186) := c192.wr W87
  have c194 : Sta Z h108 "com/example/ratatoskr/ratatoskr/query/Syntax$CastType" "POLYGON" "Lcom/example/ratatoskr/ratatoskr/query/Syntax$CastType;" (.ref pR186) := c193.wr W108
  have c195 : Sta Z h131 "com/example/ratatoskr/ratatoskr/query/Syntax$CastType" "POLYGON" "Lcom/example/ratatoskr/ratatoskr/query/Syntax$CastType;" (.ref pR186) := c194.wr W131
  have c196 : Sta Z h156 "com/example/ratatoskr/ratatoskr/query/Syntax$CastType" "POLYGON" "Lcom/example/ratatoskr/ratatoskr/query/Syntax$CastType;" (.ref pR186) := c195.wr W156
  have c197 : Sta Z h183 "com/example/ratatoskr/ratatoskr/query/Syntax$CastType" "POLYGON" "Lcom/example/ratatoskr/ratatoskr/query/Syntax$CastType;" (.ref pR186) := c196.wr W183
  obtain ⟨T198, X198, e198, st198⟩ := getS2 X183 hx hZ hown (host := "") (Or.inl (ow hw 24 rfl)) Via.refl e183 c197 (g := (mkF m 72 #[.val (.int pI1), .unset, .unset, .unset] [(.int (10 : Int32)), (.ref bR2), (.ref bR2)])) rfl (hb hby at_72)
  obtain ⟨clq199, Arq199, Akq199, Asq199, Anq199, Ahq199, Agq199⟩ := V183
  have hin200 : ¬ ((10 : Int32) < 0 ∨ clq199.slots.size ≤ ((10 : Int32)).toNatClampNeg) := inb_of Asq199 ⟨by decide, by decide⟩
  have c201 : Exa Z h2 pR186 "com/example/ratatoskr/ratatoskr/query/Syntax$CastType" := E_pR186.ext E2
  have c202 : Exa Z h12 pR186 "com/example/ratatoskr/ratatoskr/query/Syntax$CastType" := c201.wr W12
  have c203 : Exa Z h23 pR186 "com/example/ratatoskr/ratatoskr/query/Syntax$CastType" := c202.wr W23
  have c204 : Exa Z h36 pR186 "com/example/ratatoskr/ratatoskr/query/Syntax$CastType" := c203.wr W36
  have c205 : Exa Z h51 pR186 "com/example/ratatoskr/ratatoskr/query/Syntax$CastType" := c204.wr W51
  have c206 : Exa Z h68 pR186 "com/example/ratatoskr/ratatoskr/query/Syntax$CastType" := c205.wr W68
  have c207 : Exa Z h87 pR186 "com/example/ratatoskr/ratatoskr/query/Syntax$CastType" := c206.wr W87
  have c208 : Exa Z h108 pR186 "com/example/ratatoskr/ratatoskr/query/Syntax$CastType" := c207.wr W108
  have c209 : Exa Z h131 pR186 "com/example/ratatoskr/ratatoskr/query/Syntax$CastType" := c208.wr W131
  have c210 : Exa Z h156 pR186 "com/example/ratatoskr/ratatoskr/query/Syntax$CastType" := c209.wr W156
  have c211 : Exa Z h183 pR186 "com/example/ratatoskr/ratatoskr/query/Syntax$CastType" := c210.wr W183
  obtain ⟨T212, h212, X212, e212, W212, st212⟩ := stR X198 hx hZ e198 Arq199 (j := (10 : Int32)) hin200 rfl (Sto.ofV Arq199 Akq199 O2 (Ins.self c211)) (g := (mkF m 75 #[.val (.int pI1), .unset, .unset, .unset] [(.ref pR186), (.int (10 : Int32)), (.ref bR2), (.ref bR2)])) rfl rfl (hb hby at_75)
  have Z214 : n0 ≤ h212.size := (Nat.le_trans Z185 (Keep.of_wr W212).1)
  have N212 := Fr.snoc X212 N183 g8
  obtain ⟨Lh212, X212, N212⟩ := own_hide X212 N212
  have V212 : Arv Z h212 bR2 k2 (.object "com/example/ratatoskr/ratatoskr/query/Syntax$CastType") (11 : Int32) [(.ref pR5), (.ref pR15), (.ref pR26), (.ref pR39), (.ref pR54), (.ref pR71), (.ref pR90), (.ref pR111), (.ref pR134), (.ref pR159), (.ref pR186)] .null := Arv.set Arq199 Akq199 Asq199 Anq199 Ahq199 Agq199 rfl W212 10 rfl (Nat.le_of_ble_eq_true rfl)
  obtain ⟨T215, h215, k215, X215, e215, E215, A215, st215⟩ := newP X212 hx hZ (ow hw 26 rfl) e212 (g := (mkF m 79 #[.val (.int pI1), .val (.ref bR2), .unset, .unset] [(.int (11 : Int32))])) rfl (hb hby at_79) rfl (by decide) (cap := 11) (by decide) (by decide) (by decide) (by decide)
  obtain ⟨bR215, g215⟩ : ∃ z, z = h212.size := ⟨_, rfl⟩
  rw [← g215] at A215 st215
  have Z217 : n0 ≤ h215.size := (Nat.le_trans Z214 E215.1)
  have V215 : Arv Z h215 bR215 k215 .boolean (11 : Int32) [(.int (0 : Int32)), (.int (0 : Int32)), (.int (0 : Int32)), (.int (0 : Int32)), (.int (0 : Int32)), (.int (0 : Int32)), (.int (0 : Int32)), (.int (0 : Int32)), (.int (0 : Int32)), (.int (0 : Int32)), (.int (0 : Int32))] (.int (0 : Int32)) := (Arv.new A215 (by decide)).pad (pad_rep [] (.int (0 : Int32)) 11)
  have g218 : n0 ≤ bR215 := Nat.le_trans Z214 (Nat.le_of_eq g215.symm)
  obtain ⟨clq219, Arq219, Akq219, Asq219, Anq219, Ahq219, Agq219⟩ := V215
  have hin220 : ¬ ((0 : Int32) < 0 ∨ clq219.slots.size ≤ ((0 : Int32)).toNatClampNeg) := inb_of Asq219 ⟨by decide, by decide⟩
  obtain ⟨T221, h221, X221, e221, W221, st221⟩ := stZ X215 hx hZ e215 Arq219 (j := (0 : Int32)) hin220 (g := (mkF m 84 #[.val (.int pI1), .val (.ref bR2), .unset, .unset] [(.int (0 : Int32)), (.int (0 : Int32)), (.ref bR215), (.ref bR215)])) rfl rfl (hb hby at_84)
  have Z223 : n0 ≤ h221.size := (Nat.le_trans Z217 (Keep.of_wr W221).1)
  have N221 := Fr.snoc X221 N212 g218
  obtain ⟨Lh221, X221, N221⟩ := own_hide X221 N221
  have V221 : Arv Z h221 bR215 k215 .boolean (11 : Int32) [(.int (0 : Int32)), (.int (0 : Int32)), (.int (0 : Int32)), (.int (0 : Int32)), (.int (0 : Int32)), (.int (0 : Int32)), (.int (0 : Int32)), (.int (0 : Int32)), (.int (0 : Int32)), (.int (0 : Int32)), (.int (0 : Int32))] (.int (0 : Int32)) := Arv.set Arq219 Akq219 Asq219 Anq219 Ahq219 Agq219 (by first | rfl | exact fits_nar_bool _) W221 0 rfl (Nat.le_of_ble_eq_true rfl)
  obtain ⟨clq224, Arq224, Akq224, Asq224, Anq224, Ahq224, Agq224⟩ := V221
  have hin225 : ¬ ((1 : Int32) < 0 ∨ clq224.slots.size ≤ ((1 : Int32)).toNatClampNeg) := inb_of Asq224 ⟨by decide, by decide⟩
  obtain ⟨T226, h226, X226, e226, W226, st226⟩ := stZ X221 hx hZ e221 Arq224 (j := (1 : Int32)) hin225 (g := (mkF m 88 #[.val (.int pI1), .val (.ref bR2), .unset, .unset] [(.int (0 : Int32)), (.int (1 : Int32)), (.ref bR215), (.ref bR215)])) rfl rfl (hb hby at_88)
  have Z228 : n0 ≤ h226.size := (Nat.le_trans Z223 (Keep.of_wr W226).1)
  have N226 := Fr.snoc X226 N221 g218
  obtain ⟨Lh226, X226, N226⟩ := own_hide X226 N226
  have V226 : Arv Z h226 bR215 k215 .boolean (11 : Int32) [(.int (0 : Int32)), (.int (0 : Int32)), (.int (0 : Int32)), (.int (0 : Int32)), (.int (0 : Int32)), (.int (0 : Int32)), (.int (0 : Int32)), (.int (0 : Int32)), (.int (0 : Int32)), (.int (0 : Int32)), (.int (0 : Int32))] (.int (0 : Int32)) := Arv.set Arq224 Akq224 Asq224 Anq224 Ahq224 Agq224 (by first | rfl | exact fits_nar_bool _) W226 1 rfl (Nat.le_of_ble_eq_true rfl)
  obtain ⟨clq229, Arq229, Akq229, Asq229, Anq229, Ahq229, Agq229⟩ := V226
  have hin230 : ¬ ((2 : Int32) < 0 ∨ clq229.slots.size ≤ ((2 : Int32)).toNatClampNeg) := inb_of Asq229 ⟨by decide, by decide⟩
  obtain ⟨T231, h231, X231, e231, W231, st231⟩ := stZ X226 hx hZ e226 Arq229 (j := (2 : Int32)) hin230 (g := (mkF m 92 #[.val (.int pI1), .val (.ref bR2), .unset, .unset] [(.int (0 : Int32)), (.int (2 : Int32)), (.ref bR215), (.ref bR215)])) rfl rfl (hb hby at_92)
  have Z233 : n0 ≤ h231.size := (Nat.le_trans Z228 (Keep.of_wr W231).1)
  have N231 := Fr.snoc X231 N226 g218
  obtain ⟨Lh231, X231, N231⟩ := own_hide X231 N231
  have V231 : Arv Z h231 bR215 k215 .boolean (11 : Int32) [(.int (0 : Int32)), (.int (0 : Int32)), (.int (0 : Int32)), (.int (0 : Int32)), (.int (0 : Int32)), (.int (0 : Int32)), (.int (0 : Int32)), (.int (0 : Int32)), (.int (0 : Int32)), (.int (0 : Int32)), (.int (0 : Int32))] (.int (0 : Int32)) := Arv.set Arq229 Akq229 Asq229 Anq229 Ahq229 Agq229 (by first | rfl | exact fits_nar_bool _) W231 2 rfl (Nat.le_of_ble_eq_true rfl)
  obtain ⟨clq234, Arq234, Akq234, Asq234, Anq234, Ahq234, Agq234⟩ := V231
  have hin235 : ¬ ((3 : Int32) < 0 ∨ clq234.slots.size ≤ ((3 : Int32)).toNatClampNeg) := inb_of Asq234 ⟨by decide, by decide⟩
  obtain ⟨T236, h236, X236, e236, W236, st236⟩ := stZ X231 hx hZ e231 Arq234 (j := (3 : Int32)) hin235 (g := (mkF m 96 #[.val (.int pI1), .val (.ref bR2), .unset, .unset] [(.int (0 : Int32)), (.int (3 : Int32)), (.ref bR215), (.ref bR215)])) rfl rfl (hb hby at_96)
  have Z238 : n0 ≤ h236.size := (Nat.le_trans Z233 (Keep.of_wr W236).1)
  have N236 := Fr.snoc X236 N231 g218
  obtain ⟨Lh236, X236, N236⟩ := own_hide X236 N236
  have V236 : Arv Z h236 bR215 k215 .boolean (11 : Int32) [(.int (0 : Int32)), (.int (0 : Int32)), (.int (0 : Int32)), (.int (0 : Int32)), (.int (0 : Int32)), (.int (0 : Int32)), (.int (0 : Int32)), (.int (0 : Int32)), (.int (0 : Int32)), (.int (0 : Int32)), (.int (0 : Int32))] (.int (0 : Int32)) := Arv.set Arq234 Akq234 Asq234 Anq234 Ahq234 Agq234 (by first | rfl | exact fits_nar_bool _) W236 3 rfl (Nat.le_of_ble_eq_true rfl)
  obtain ⟨clq239, Arq239, Akq239, Asq239, Anq239, Ahq239, Agq239⟩ := V236
  have hin240 : ¬ ((4 : Int32) < 0 ∨ clq239.slots.size ≤ ((4 : Int32)).toNatClampNeg) := inb_of Asq239 ⟨by decide, by decide⟩
  obtain ⟨T241, h241, X241, e241, W241, st241⟩ := stZ X236 hx hZ e236 Arq239 (j := (4 : Int32)) hin240 (g := (mkF m 100 #[.val (.int pI1), .val (.ref bR2), .unset, .unset] [(.int (0 : Int32)), (.int (4 : Int32)), (.ref bR215), (.ref bR215)])) rfl rfl (hb hby at_100)
  have Z243 : n0 ≤ h241.size := (Nat.le_trans Z238 (Keep.of_wr W241).1)
  have N241 := Fr.snoc X241 N236 g218
  obtain ⟨Lh241, X241, N241⟩ := own_hide X241 N241
  have V241 : Arv Z h241 bR215 k215 .boolean (11 : Int32) [(.int (0 : Int32)), (.int (0 : Int32)), (.int (0 : Int32)), (.int (0 : Int32)), (.int (0 : Int32)), (.int (0 : Int32)), (.int (0 : Int32)), (.int (0 : Int32)), (.int (0 : Int32)), (.int (0 : Int32)), (.int (0 : Int32))] (.int (0 : Int32)) := Arv.set Arq239 Akq239 Asq239 Anq239 Ahq239 Agq239 (by first | rfl | exact fits_nar_bool _) W241 4 rfl (Nat.le_of_ble_eq_true rfl)
  obtain ⟨clq244, Arq244, Akq244, Asq244, Anq244, Ahq244, Agq244⟩ := V241
  have hin245 : ¬ ((5 : Int32) < 0 ∨ clq244.slots.size ≤ ((5 : Int32)).toNatClampNeg) := inb_of Asq244 ⟨by decide, by decide⟩
  obtain ⟨T246, h246, X246, e246, W246, st246⟩ := stZ X241 hx hZ e241 Arq244 (j := (5 : Int32)) hin245 (g := (mkF m 104 #[.val (.int pI1), .val (.ref bR2), .unset, .unset] [(.int (1 : Int32)), (.int (5 : Int32)), (.ref bR215), (.ref bR215)])) rfl rfl (hb hby at_104)
  have Z248 : n0 ≤ h246.size := (Nat.le_trans Z243 (Keep.of_wr W246).1)
  have N246 := Fr.snoc X246 N241 g218
  obtain ⟨Lh246, X246, N246⟩ := own_hide X246 N246
  have V246 : Arv Z h246 bR215 k215 .boolean (11 : Int32) [(.int (0 : Int32)), (.int (0 : Int32)), (.int (0 : Int32)), (.int (0 : Int32)), (.int (0 : Int32)), (.int (1 : Int32)), (.int (0 : Int32)), (.int (0 : Int32)), (.int (0 : Int32)), (.int (0 : Int32)), (.int (0 : Int32))] (.int (0 : Int32)) := Arv.set Arq244 Akq244 Asq244 Anq244 Ahq244 Agq244 (by first | rfl | exact fits_nar_bool _) W246 5 rfl (Nat.le_of_ble_eq_true rfl)
  obtain ⟨clq249, Arq249, Akq249, Asq249, Anq249, Ahq249, Agq249⟩ := V246
  have hin250 : ¬ ((6 : Int32) < 0 ∨ clq249.slots.size ≤ ((6 : Int32)).toNatClampNeg) := inb_of Asq249 ⟨by decide, by decide⟩
  obtain ⟨T251, h251, X251, e251, W251, st251⟩ := stZ X246 hx hZ e246 Arq249 (j := (6 : Int32)) hin250 (g := (mkF m 109 #[.val (.int pI1), .val (.ref bR2), .unset, .unset] [(.int (1 : Int32)), (.int (6 : Int32)), (.ref bR215), (.ref bR215)])) rfl rfl (hb hby at_109)
  have Z253 : n0 ≤ h251.size := (Nat.le_trans Z248 (Keep.of_wr W251).1)
  have N251 := Fr.snoc X251 N246 g218
  obtain ⟨Lh251, X251, N251⟩ := own_hide X251 N251
  have V251 : Arv Z h251 bR215 k215 .boolean (11 : Int32) [(.int (0 : Int32)), (.int (0 : Int32)), (.int (0 : Int32)), (.int (0 : Int32)), (.int (0 : Int32)), (.int (1 : Int32)), (.int (1 : Int32)), (.int (0 : Int32)), (.int (0 : Int32)), (.int (0 : Int32)), (.int (0 : Int32))] (.int (0 : Int32)) := Arv.set Arq249 Akq249 Asq249 Anq249 Ahq249 Agq249 (by first | rfl | exact fits_nar_bool _) W251 6 rfl (Nat.le_of_ble_eq_true rfl)
  obtain ⟨clq254, Arq254, Akq254, Asq254, Anq254, Ahq254, Agq254⟩ := V251
  have hin255 : ¬ ((7 : Int32) < 0 ∨ clq254.slots.size ≤ ((7 : Int32)).toNatClampNeg) := inb_of Asq254 ⟨by decide, by decide⟩
  obtain ⟨T256, h256, X256, e256, W256, st256⟩ := stZ X251 hx hZ e251 Arq254 (j := (7 : Int32)) hin255 (g := (mkF m 114 #[.val (.int pI1), .val (.ref bR2), .unset, .unset] [(.int (0 : Int32)), (.int (7 : Int32)), (.ref bR215), (.ref bR215)])) rfl rfl (hb hby at_114)
  have Z258 : n0 ≤ h256.size := (Nat.le_trans Z253 (Keep.of_wr W256).1)
  have N256 := Fr.snoc X256 N251 g218
  obtain ⟨Lh256, X256, N256⟩ := own_hide X256 N256
  have V256 : Arv Z h256 bR215 k215 .boolean (11 : Int32) [(.int (0 : Int32)), (.int (0 : Int32)), (.int (0 : Int32)), (.int (0 : Int32)), (.int (0 : Int32)), (.int (1 : Int32)), (.int (1 : Int32)), (.int (0 : Int32)), (.int (0 : Int32)), (.int (0 : Int32)), (.int (0 : Int32))] (.int (0 : Int32)) := Arv.set Arq254 Akq254 Asq254 Anq254 Ahq254 Agq254 (by first | rfl | exact fits_nar_bool _) W256 7 rfl (Nat.le_of_ble_eq_true rfl)
  obtain ⟨clq259, Arq259, Akq259, Asq259, Anq259, Ahq259, Agq259⟩ := V256
  have hin260 : ¬ ((8 : Int32) < 0 ∨ clq259.slots.size ≤ ((8 : Int32)).toNatClampNeg) := inb_of Asq259 ⟨by decide, by decide⟩
  obtain ⟨T261, h261, X261, e261, W261, st261⟩ := stZ X256 hx hZ e256 Arq259 (j := (8 : Int32)) hin260 (g := (mkF m 119 #[.val (.int pI1), .val (.ref bR2), .unset, .unset] [(.int (0 : Int32)), (.int (8 : Int32)), (.ref bR215), (.ref bR215)])) rfl rfl (hb hby at_119)
  have Z263 : n0 ≤ h261.size := (Nat.le_trans Z258 (Keep.of_wr W261).1)
  have N261 := Fr.snoc X261 N256 g218
  obtain ⟨Lh261, X261, N261⟩ := own_hide X261 N261
  have V261 : Arv Z h261 bR215 k215 .boolean (11 : Int32) [(.int (0 : Int32)), (.int (0 : Int32)), (.int (0 : Int32)), (.int (0 : Int32)), (.int (0 : Int32)), (.int (1 : Int32)), (.int (1 : Int32)), (.int (0 : Int32)), (.int (0 : Int32)), (.int (0 : Int32)), (.int (0 : Int32))] (.int (0 : Int32)) := Arv.set Arq259 Akq259 Asq259 Anq259 Ahq259 Agq259 (by first | rfl | exact fits_nar_bool _) W261 8 rfl (Nat.le_of_ble_eq_true rfl)
  obtain ⟨clq264, Arq264, Akq264, Asq264, Anq264, Ahq264, Agq264⟩ := V261
  have hin265 : ¬ ((9 : Int32) < 0 ∨ clq264.slots.size ≤ ((9 : Int32)).toNatClampNeg) := inb_of Asq264 ⟨by decide, by decide⟩
  obtain ⟨T266, h266, X266, e266, W266, st266⟩ := stZ X261 hx hZ e261 Arq264 (j := (9 : Int32)) hin265 (g := (mkF m 124 #[.val (.int pI1), .val (.ref bR2), .unset, .unset] [(.int (0 : Int32)), (.int (9 : Int32)), (.ref bR215), (.ref bR215)])) rfl rfl (hb hby at_124)
  have Z268 : n0 ≤ h266.size := (Nat.le_trans Z263 (Keep.of_wr W266).1)
  have N266 := Fr.snoc X266 N261 g218
  obtain ⟨Lh266, X266, N266⟩ := own_hide X266 N266
  have V266 : Arv Z h266 bR215 k215 .boolean (11 : Int32) [(.int (0 : Int32)), (.int (0 : Int32)), (.int (0 : Int32)), (.int (0 : Int32)), (.int (0 : Int32)), (.int (1 : Int32)), (.int (1 : Int32)), (.int (0 : Int32)), (.int (0 : Int32)), (.int (0 : Int32)), (.int (0 : Int32))] (.int (0 : Int32)) := Arv.set Arq264 Akq264 Asq264 Anq264 Ahq264 Agq264 (by first | rfl | exact fits_nar_bool _) W266 9 rfl (Nat.le_of_ble_eq_true rfl)
  obtain ⟨clq269, Arq269, Akq269, Asq269, Anq269, Ahq269, Agq269⟩ := V266
  have hin270 : ¬ ((10 : Int32) < 0 ∨ clq269.slots.size ≤ ((10 : Int32)).toNatClampNeg) := inb_of Asq269 ⟨by decide, by decide⟩
  obtain ⟨T271, h271, X271, e271, W271, st271⟩ := stZ X266 hx hZ e266 Arq269 (j := (10 : Int32)) hin270 (g := (mkF m 129 #[.val (.int pI1), .val (.ref bR2), .unset, .unset] [(.int (0 : Int32)), (.int (10 : Int32)), (.ref bR215), (.ref bR215)])) rfl rfl (hb hby at_129)
  have Z273 : n0 ≤ h271.size := (Nat.le_trans Z268 (Keep.of_wr W271).1)
  have N271 := Fr.snoc X271 N266 g218
  obtain ⟨Lh271, X271, N271⟩ := own_hide X271 N271
  have V271 : Arv Z h271 bR215 k215 .boolean (11 : Int32) [(.int (0 : Int32)), (.int (0 : Int32)), (.int (0 : Int32)), (.int (0 : Int32)), (.int (0 : Int32)), (.int (1 : Int32)), (.int (1 : Int32)), (.int (0 : Int32)), (.int (0 : Int32)), (.int (0 : Int32)), (.int (0 : Int32))] (.int (0 : Int32)) := Arv.set Arq269 Akq269 Asq269 Anq269 Ahq269 Agq269 (by first | rfl | exact fits_nar_bool _) W271 10 rfl (Nat.le_of_ble_eq_true rfl)
  have c275 : Arv Z h215 bR2 k2 (.object "com/example/ratatoskr/ratatoskr/query/Syntax$CastType") (11 : Int32) [(.ref pR5), (.ref pR15), (.ref pR26), (.ref pR39), (.ref pR54), (.ref pR71), (.ref pR90), (.ref pR111), (.ref pR134), (.ref pR159), (.ref pR186)] .null := V212.ext E215
  have c276 : Arv Z h221 bR2 k2 (.object "com/example/ratatoskr/ratatoskr/query/Syntax$CastType") (11 : Int32) [(.ref pR5), (.ref pR15), (.ref pR26), (.ref pR39), (.ref pR54), (.ref pR71), (.ref pR90), (.ref pR111), (.ref pR134), (.ref pR159), (.ref pR186)] .null := c275.other W221 (Nat.ne_of_lt (Nat.lt_of_lt_of_le V212.lt (Nat.le_of_eq g215.symm)))
  have c277 : Arv Z h226 bR2 k2 (.object "com/example/ratatoskr/ratatoskr/query/Syntax$CastType") (11 : Int32) [(.ref pR5), (.ref pR15), (.ref pR26), (.ref pR39), (.ref pR54), (.ref pR71), (.ref pR90), (.ref pR111), (.ref pR134), (.ref pR159), (.ref pR186)] .null := c276.other W226 (Nat.ne_of_lt (Nat.lt_of_lt_of_le V212.lt (Nat.le_of_eq g215.symm)))
  have c278 : Arv Z h231 bR2 k2 (.object "com/example/ratatoskr/ratatoskr/query/Syntax$CastType") (11 : Int32) [(.ref pR5), (.ref pR15), (.ref pR26), (.ref pR39), (.ref pR54), (.ref pR71), (.ref pR90), (.ref pR111), (.ref pR134), (.ref pR159), (.ref pR186)] .null := c277.other W231 (Nat.ne_of_lt (Nat.lt_of_lt_of_le V212.lt (Nat.le_of_eq g215.symm)))
  have c279 : Arv Z h236 bR2 k2 (.object "com/example/ratatoskr/ratatoskr/query/Syntax$CastType") (11 : Int32) [(.ref pR5), (.ref pR15), (.ref pR26), (.ref pR39), (.ref pR54), (.ref pR71), (.ref pR90), (.ref pR111), (.ref pR134), (.ref pR159), (.ref pR186)] .null := c278.other W236 (Nat.ne_of_lt (Nat.lt_of_lt_of_le V212.lt (Nat.le_of_eq g215.symm)))
  have c280 : Arv Z h241 bR2 k2 (.object "com/example/ratatoskr/ratatoskr/query/Syntax$CastType") (11 : Int32) [(.ref pR5), (.ref pR15), (.ref pR26), (.ref pR39), (.ref pR54), (.ref pR71), (.ref pR90), (.ref pR111), (.ref pR134), (.ref pR159), (.ref pR186)] .null := c279.other W241 (Nat.ne_of_lt (Nat.lt_of_lt_of_le V212.lt (Nat.le_of_eq g215.symm)))
  have c281 : Arv Z h246 bR2 k2 (.object "com/example/ratatoskr/ratatoskr/query/Syntax$CastType") (11 : Int32) [(.ref pR5), (.ref pR15), (.ref pR26), (.ref pR39), (.ref pR54), (.ref pR71), (.ref pR90), (.ref pR111), (.ref pR134), (.ref pR159), (.ref pR186)] .null := c280.other W246 (Nat.ne_of_lt (Nat.lt_of_lt_of_le V212.lt (Nat.le_of_eq g215.symm)))
  have c282 : Arv Z h251 bR2 k2 (.object "com/example/ratatoskr/ratatoskr/query/Syntax$CastType") (11 : Int32) [(.ref pR5), (.ref pR15), (.ref pR26), (.ref pR39), (.ref pR54), (.ref pR71), (.ref pR90), (.ref pR111), (.ref pR134), (.ref pR159), (.ref pR186)] .null := c281.other W251 (Nat.ne_of_lt (Nat.lt_of_lt_of_le V212.lt (Nat.le_of_eq g215.symm)))
  have c283 : Arv Z h256 bR2 k2 (.object "com/example/ratatoskr/ratatoskr/query/Syntax$CastType") (11 : Int32) [(.ref pR5), (.ref pR15), (.ref pR26), (.ref pR39), (.ref pR54), (.ref pR71), (.ref pR90), (.ref pR111), (.ref pR134), (.ref pR159), (.ref pR186)] .null := c282.other W256 (Nat.ne_of_lt (Nat.lt_of_lt_of_le V212.lt (Nat.le_of_eq g215.symm)))
  have c284 : Arv Z h261 bR2 k2 (.object "com/example/ratatoskr/ratatoskr/query/Syntax$CastType") (11 : Int32) [(.ref pR5), (.ref pR15), (.ref pR26), (.ref pR39), (.ref pR54), (.ref pR71), (.ref pR90), (.ref pR111), (.ref pR134), (.ref pR159), (.ref pR186)] .null := c283.other W261 (Nat.ne_of_lt (Nat.lt_of_lt_of_le V212.lt (Nat.le_of_eq g215.symm)))
  have c285 : Arv Z h266 bR2 k2 (.object "com/example/ratatoskr/ratatoskr/query/Syntax$CastType") (11 : Int32) [(.ref pR5), (.ref pR15), (.ref pR26), (.ref pR39), (.ref pR54), (.ref pR71), (.ref pR90), (.ref pR111), (.ref pR134), (.ref pR159), (.ref pR186)] .null := c284.other W266 (Nat.ne_of_lt (Nat.lt_of_lt_of_le V212.lt (Nat.le_of_eq g215.symm)))
  have c286 : Arv Z h271 bR2 k2 (.object "com/example/ratatoskr/ratatoskr/query/Syntax$CastType") (11 : Int32) [(.ref pR5), (.ref pR15), (.ref pR26), (.ref pR39), (.ref pR54), (.ref pR71), (.ref pR90), (.ref pR111), (.ref pR134), (.ref pR159), (.ref pR186)] .null := c285.other W271 (Nat.ne_of_lt (Nat.lt_of_lt_of_le V212.lt (Nat.le_of_eq g215.symm)))
  obtain ⟨clq274, Arq274, Akq274, Asq274, Anq274, Ahq274, Agq274⟩ := c286
  have hin287 : ¬ (((pI1 &&& (2147483647 : Int32)) % (11 : Int32)) < 0 ∨ clq274.slots.size ≤ (((pI1 &&& (2147483647 : Int32)) % (11 : Int32))).toNatClampNeg) := inb_of Asq274 ⟨hc141, hc141'⟩
  have c288 : Sta Z h87 "com/example/ratatoskr/ratatoskr/query/Syntax$CastType" "CHAR" "Lcom/example/ratatoskr/ratatoskr/query/Syntax$CastType;" (.ref pR71) := c77.wr W87
  have c289 : Sta Z h108 "com/example/ratatoskr/ratatoskr/query/Syntax$CastType" "CHAR" "Lcom/example/ratatoskr/ratatoskr/query/Syntax$CastType;" (.ref pR71) := c288.wr W108
  have c290 : Sta Z h131 "com/example/ratatoskr/ratatoskr/query/Syntax$CastType" "CHAR" "Lcom/example/ratatoskr/ratatoskr/query/Syntax$CastType;" (.ref pR71) := c289.wr W131
  have c291 : Sta Z h156 "com/example/ratatoskr/ratatoskr/query/Syntax$CastType" "CHAR" "Lcom/example/ratatoskr/ratatoskr/query/Syntax$CastType;" (.ref pR71) := c290.wr W156
  have c292 : Sta Z h183 "com/example/ratatoskr/ratatoskr/query/Syntax$CastType" "CHAR" "Lcom/example/ratatoskr/ratatoskr/query/Syntax$CastType;" (.ref pR71) := c291.wr W183
  have c293 : Sta Z h212 "com/example/ratatoskr/ratatoskr/query/Syntax$CastType" "CHAR" "Lcom/example/ratatoskr/ratatoskr/query/Syntax$CastType;" (.ref pR71) := c292.wr W212
  have c294 : Sta Z h215 "com/example/ratatoskr/ratatoskr/query/Syntax$CastType" "CHAR" "Lcom/example/ratatoskr/ratatoskr/query/Syntax$CastType;" (.ref pR71) := c293.ext E215
  have c295 : Sta Z h221 "com/example/ratatoskr/ratatoskr/query/Syntax$CastType" "CHAR" "Lcom/example/ratatoskr/ratatoskr/query/Syntax$CastType;" (.ref pR71) := c294.wr W221
  have c296 : Sta Z h226 "com/example/ratatoskr/ratatoskr/query/Syntax$CastType" "CHAR" "Lcom/example/ratatoskr/ratatoskr/query/Syntax$CastType;" (.ref pR71) := c295.wr W226
  have c297 : Sta Z h231 "com/example/ratatoskr/ratatoskr/query/Syntax$CastType" "CHAR" "Lcom/example/ratatoskr/ratatoskr/query/Syntax$CastType;" (.ref pR71) := c296.wr W231
  have c298 : Sta Z h236 "com/example/ratatoskr/ratatoskr/query/Syntax$CastType" "CHAR" "Lcom/example/ratatoskr/ratatoskr/query/Syntax$CastType;" (.ref pR71) := c297.wr W236
  have c299 : Sta Z h241 "com/example/ratatoskr/ratatoskr/query/Syntax$CastType" "CHAR" "Lcom/example/ratatoskr/ratatoskr/query/Syntax$CastType;" (.ref pR71) := c298.wr W241
  have c300 : Sta Z h246 "com/example/ratatoskr/ratatoskr/query/Syntax$CastType" "CHAR" "Lcom/example/ratatoskr/ratatoskr/query/Syntax$CastType;" (.ref pR71) := c299.wr W246
  have c301 : Sta Z h251 "com/example/ratatoskr/ratatoskr/query/Syntax$CastType" "CHAR" "Lcom/example/ratatoskr/ratatoskr/query/Syntax$CastType;" (.ref pR71) := c300.wr W251
  have c302 : Sta Z h256 "com/example/ratatoskr/ratatoskr/query/Syntax$CastType" "CHAR" "Lcom/example/ratatoskr/ratatoskr/query/Syntax$CastType;" (.ref pR71) := c301.wr W256
  have c303 : Sta Z h261 "com/example/ratatoskr/ratatoskr/query/Syntax$CastType" "CHAR" "Lcom/example/ratatoskr/ratatoskr/query/Syntax$CastType;" (.ref pR71) := c302.wr W261
  have c304 : Sta Z h266 "com/example/ratatoskr/ratatoskr/query/Syntax$CastType" "CHAR" "Lcom/example/ratatoskr/ratatoskr/query/Syntax$CastType;" (.ref pR71) := c303.wr W266
  have c305 : Sta Z h271 "com/example/ratatoskr/ratatoskr/query/Syntax$CastType" "CHAR" "Lcom/example/ratatoskr/ratatoskr/query/Syntax$CastType;" (.ref pR71) := c304.wr W271
  have c306 : Sta Z h108 "com/example/ratatoskr/ratatoskr/query/Syntax$CastType" "VARCHAR" "Lcom/example/ratatoskr/ratatoskr/query/Syntax$CastType;" (.ref pR90) := c97.wr W108
  have c307 : Sta Z h131 "com/example/ratatoskr/ratatoskr/query/Syntax$CastType" "VARCHAR" "Lcom/example/ratatoskr/ratatoskr/query/Syntax$CastType;" (.ref pR90) := c306.wr W131
  have c308 : Sta Z h156 "com/example/ratatoskr/ratatoskr/query/Syntax$CastType" "VARCHAR" "Lcom/example/ratatoskr/ratatoskr/query/Syntax$CastType;" (.ref pR90) := c307.wr W156
  have c309 : Sta Z h183 "com/example/ratatoskr/ratatoskr/query/Syntax$CastType" "VARCHAR" "Lcom/example/ratatoskr/ratatoskr/query/Syntax$CastType;" (.ref pR90) := c308.wr W183
  have c310 : Sta Z h212 "com/example/ratatoskr/ratatoskr/query/Syntax$CastType" "VARCHAR" "Lcom/example/ratatoskr/ratatoskr/query/Syntax$CastType;" (.ref pR90) := c309.wr W212
  have c311 : Sta Z h215 "com/example/ratatoskr/ratatoskr/query/Syntax$CastType" "VARCHAR" "Lcom/example/ratatoskr/ratatoskr/query/Syntax$CastType;" (.ref pR90) := c310.ext E215
  have c312 : Sta Z h221 "com/example/ratatoskr/ratatoskr/query/Syntax$CastType" "VARCHAR" "Lcom/example/ratatoskr/ratatoskr/query/Syntax$CastType;" (.ref pR90) := c311.wr W221
  have c313 : Sta Z h226 "com/example/ratatoskr/ratatoskr/query/Syntax$CastType" "VARCHAR" "Lcom/example/ratatoskr/ratatoskr/query/Syntax$CastType;" (.ref pR90) := c312.wr W226
  have c314 : Sta Z h231 "com/example/ratatoskr/ratatoskr/query/Syntax$CastType" "VARCHAR" "Lcom/example/ratatoskr/ratatoskr/query/Syntax$CastType;" (.ref pR90) := c313.wr W231
  have c315 : Sta Z h236 "com/example/ratatoskr/ratatoskr/query/Syntax$CastType" "VARCHAR" "Lcom/example/ratatoskr/ratatoskr/query/Syntax$CastType;" (.ref pR90) := c314.wr W236
  have c316 : Sta Z h241 "com/example/ratatoskr/ratatoskr/query/Syntax$CastType" "VARCHAR" "Lcom/example/ratatoskr/ratatoskr/query/Syntax$CastType;" (.ref pR90) := c315.wr W241
  have c317 : Sta Z h246 "com/example/ratatoskr/ratatoskr/query/Syntax$CastType" "VARCHAR" "Lcom/example/ratatoskr/ratatoskr/query/Syntax$CastType;" (.ref pR90) := c316.wr W246
  have c318 : Sta Z h251 "com/example/ratatoskr/ratatoskr/query/Syntax$CastType" "VARCHAR" "Lcom/example/ratatoskr/ratatoskr/query/Syntax$CastType;" (.ref pR90) := c317.wr W251
  have c319 : Sta Z h256 "com/example/ratatoskr/ratatoskr/query/Syntax$CastType" "VARCHAR" "Lcom/example/ratatoskr/ratatoskr/query/Syntax$CastType;" (.ref pR90) := c318.wr W256
  have c320 : Sta Z h261 "com/example/ratatoskr/ratatoskr/query/Syntax$CastType" "VARCHAR" "Lcom/example/ratatoskr/ratatoskr/query/Syntax$CastType;" (.ref pR90) := c319.wr W261
  have c321 : Sta Z h266 "com/example/ratatoskr/ratatoskr/query/Syntax$CastType" "VARCHAR" "Lcom/example/ratatoskr/ratatoskr/query/Syntax$CastType;" (.ref pR90) := c320.wr W266
  have c322 : Sta Z h271 "com/example/ratatoskr/ratatoskr/query/Syntax$CastType" "VARCHAR" "Lcom/example/ratatoskr/ratatoskr/query/Syntax$CastType;" (.ref pR90) := c321.wr W271
  have c324 : Exa Z h2 pR900 "com/example/ratatoskr/ratatoskr/query/Syntax$CastType" := E_pR900.ext E2
  have c325 : Exa Z h12 pR900 "com/example/ratatoskr/ratatoskr/query/Syntax$CastType" := c324.wr W12
  have c326 : Exa Z h23 pR900 "com/example/ratatoskr/ratatoskr/query/Syntax$CastType" := c325.wr W23
  have c327 : Exa Z h36 pR900 "com/example/ratatoskr/ratatoskr/query/Syntax$CastType" := c326.wr W36
  have c328 : Exa Z h51 pR900 "com/example/ratatoskr/ratatoskr/query/Syntax$CastType" := c327.wr W51
  have c329 : Exa Z h68 pR900 "com/example/ratatoskr/ratatoskr/query/Syntax$CastType" := c328.wr W68
  have c330 : Exa Z h87 pR900 "com/example/ratatoskr/ratatoskr/query/Syntax$CastType" := c329.wr W87
  have c331 : Exa Z h108 pR900 "com/example/ratatoskr/ratatoskr/query/Syntax$CastType" := c330.wr W108
  have c332 : Exa Z h131 pR900 "com/example/ratatoskr/ratatoskr/query/Syntax$CastType" := c331.wr W131
  have c333 : Exa Z h156 pR900 "com/example/ratatoskr/ratatoskr/query/Syntax$CastType" := c332.wr W156
  have c334 : Exa Z h183 pR900 "com/example/ratatoskr/ratatoskr/query/Syntax$CastType" := c333.wr W183
  have c335 : Exa Z h212 pR900 "com/example/ratatoskr/ratatoskr/query/Syntax$CastType" := c334.wr W212
  have c336 : Exa Z h215 pR900 "com/example/ratatoskr/ratatoskr/query/Syntax$CastType" := c335.ext E215
  have c337 : Exa Z h221 pR900 "com/example/ratatoskr/ratatoskr/query/Syntax$CastType" := c336.wr W221
  have c338 : Exa Z h226 pR900 "com/example/ratatoskr/ratatoskr/query/Syntax$CastType" := c337.wr W226
  have c339 : Exa Z h231 pR900 "com/example/ratatoskr/ratatoskr/query/Syntax$CastType" := c338.wr W231
  have c340 : Exa Z h236 pR900 "com/example/ratatoskr/ratatoskr/query/Syntax$CastType" := c339.wr W236
  have c341 : Exa Z h241 pR900 "com/example/ratatoskr/ratatoskr/query/Syntax$CastType" := c340.wr W241
  have c342 : Exa Z h246 pR900 "com/example/ratatoskr/ratatoskr/query/Syntax$CastType" := c341.wr W246
  have c343 : Exa Z h251 pR900 "com/example/ratatoskr/ratatoskr/query/Syntax$CastType" := c342.wr W251
  have c344 : Exa Z h256 pR900 "com/example/ratatoskr/ratatoskr/query/Syntax$CastType" := c343.wr W256
  have c345 : Exa Z h261 pR900 "com/example/ratatoskr/ratatoskr/query/Syntax$CastType" := c344.wr W261
  have c346 : Exa Z h266 pR900 "com/example/ratatoskr/ratatoskr/query/Syntax$CastType" := c345.wr W266
  have c347 : Exa Z h271 pR900 "com/example/ratatoskr/ratatoskr/query/Syntax$CastType" := c346.wr W271
  obtain ⟨cq323, kq323, q323a, q323b, q323c⟩ := isOf hZ e271 c347
  obtain ⟨_, _, ⟨T323, L323, k323, n323⟩, -, X323, ⟨Lc323, hQ323, l323, y323, z323⟩, st323⟩ := X271.virtualBack hx (y := yN0) (z := yN0) hown (mvT hZ (ow hw 28 rfl)) (mvT hZ (ow hw 29 rfl)) (notFace_of_selects (args := #[]) (mvT hZ (ow hw 31 rfl))) (mvT hZ (ow hw 31 rfl)) (mvT hZ (ow hw 30 rfl)) (by decide) (backOf (W := 0) (hlN l Z a0 hw [] pR900 pR71 pR90 h271 n0 Z273 c305 c322 ne_pR900_pR71 ne_pR900_pR90) hZ (ow hw 32 rfl) (ow hw 3 rfl) (by decide) (by decide)) q323a q323c (g := (mkF m 142 #[.val (.int pI1), .val (.ref bR2), .val (.ref bR215), .val (.int ((pI1 &&& (2147483647 : Int32)) % (11 : Int32)))] [(.ref pR900)])) rfl (by rw [hml]; rfl) (Steps.refl _) (argsL := []) (rest := []) (lenOf pd_0 rfl) rfl (by show 2 * 0 + _ ≤ _; exact Nat.le_of_eq rfl) (hb hby at_142) (fun _ _ => ⟨rfl, e271, (by decide : 2 + 0 ≤ _), (by decide : 22 + 0 ≤ _)⟩)
  dsimp only [Pt.U, Pt.locs, Pt.cells, Pt.slots] at X323 l323 y323 z323 st323 hQ323
  subst l323 y323 z323
  obtain ⟨rfl, Nq323, e323⟩ := hQ323
  have N323 := Fr.app N271 Nq323
  obtain ⟨clq348, Arq348, Akq348, Asq348, Anq348, Ahq348, Agq348⟩ := V271
  have hin349 : ¬ (((pI1 &&& (2147483647 : Int32)) % (11 : Int32)) < 0 ∨ clq348.slots.size ≤ (((pI1 &&& (2147483647 : Int32)) % (11 : Int32))).toNatClampNeg) := inb_of Asq348 ⟨hc141, hc141'⟩
  obtain ⟨fs, hr, hrun, hended, hW, hsame⟩ := X323.leave (v := some (.int (1 : Int32))) (fun h => by rw [Bd.returns] at h; cases h)
  refine ⟨_, _, pre0 _ ?_, hrun, hended, _, _, rfl, ?_, ⟨_, rfl⟩, hW, hsame.mono (by decide) (by decide)⟩
  · show oS p e below s₁ m 0 #[.val (.int pI1), .unset, .unset, .unset] [] _
    refine XS.bipush X0.here hx rfl (hb hby at_0) ?_
    refine st2 _ ?_
    refine XS.dup X2.here hx rfl (hb hby at_5) rfl rfl ?_
    refine XS.iconst X2.here hx rfl (hb hby at_6) ?_
    show oS p e below T2 m 7 #[.val (.int pI1), .unset, .unset, .unset] [(.int (0 : Int32)), (.ref bR2), (.ref bR2)] _
    refine st7 _ ?_
    refine st12 _ ?_
    refine XS.dup X12.here hx rfl (hb hby at_11) rfl rfl ?_
    refine XS.iconst X12.here hx rfl (hb hby at_12) ?_
    show oS p e below T12 m 13 #[.val (.int pI1), .unset, .unset, .unset] [(.int (1 : Int32)), (.ref bR2), (.ref bR2)] _
    refine st18 _ ?_
    refine st23 _ ?_
    refine XS.dup X23.here hx rfl (hb hby at_17) rfl rfl ?_
    refine XS.iconst X23.here hx rfl (hb hby at_18) ?_
    show oS p e below T23 m 19 #[.val (.int pI1), .unset, .unset, .unset] [(.int (2 : Int32)), (.ref bR2), (.ref bR2)] _
    refine st30 _ ?_
    refine st36 _ ?_
    refine XS.dup X36.here hx rfl (hb hby at_23) rfl rfl ?_
    refine XS.iconst X36.here hx rfl (hb hby at_24) ?_
    show oS p e below T36 m 25 #[.val (.int pI1), .unset, .unset, .unset] [(.int (3 : Int32)), (.ref bR2), (.ref bR2)] _
    refine st44 _ ?_
    refine st51 _ ?_
    refine XS.dup X51.here hx rfl (hb hby at_29) rfl rfl ?_
    refine XS.iconst X51.here hx rfl (hb hby at_30) ?_
    show oS p e below T51 m 31 #[.val (.int pI1), .unset, .unset, .unset] [(.int (4 : Int32)), (.ref bR2), (.ref bR2)] _
    refine st60 _ ?_
    refine st68 _ ?_
    refine XS.dup X68.here hx rfl (hb hby at_35) rfl rfl ?_
    refine XS.iconst X68.here hx rfl (hb hby at_36) ?_
    show oS p e below T68 m 37 #[.val (.int pI1), .unset, .unset, .unset] [(.int (5 : Int32)), (.ref bR2), (.ref bR2)] _
    refine st78 _ ?_
    refine st87 _ ?_
    refine XS.dup X87.here hx rfl (hb hby at_41) rfl rfl ?_
    refine XS.bipush X87.here hx rfl (hb hby at_42) ?_
    show oS p e below T87 m 44 #[.val (.int pI1), .unset, .unset, .unset] [(.int (6 : Int32)), (.ref bR2), (.ref bR2)] _
    refine st98 _ ?_
    refine st108 _ ?_
    refine XS.dup X108.here hx rfl (hb hby at_48) rfl rfl ?_
    refine XS.bipush X108.here hx rfl (hb hby at_49) ?_
    show oS p e below T108 m 51 #[.val (.int pI1), .unset, .unset, .unset] [(.int (7 : Int32)), (.ref bR2), (.ref bR2)] _
    refine st120 _ ?_
    refine st131 _ ?_
    refine XS.dup X131.here hx rfl (hb hby at_55) rfl rfl ?_
    refine XS.bipush X131.here hx rfl (hb hby at_56) ?_
    show oS p e below T131 m 58 #[.val (.int pI1), .unset, .unset, .unset] [(.int (8 : Int32)), (.ref bR2), (.ref bR2)] _
    refine st144 _ ?_
    refine st156 _ ?_
    refine XS.dup X156.here hx rfl (hb hby at_62) rfl rfl ?_
    refine XS.bipush X156.here hx rfl (hb hby at_63) ?_
    show oS p e below T156 m 65 #[.val (.int pI1), .unset, .unset, .unset] [(.int (9 : Int32)), (.ref bR2), (.ref bR2)] _
    refine st170 _ ?_
    refine st183 _ ?_
    refine XS.dup X183.here hx rfl (hb hby at_69) rfl rfl ?_
    refine XS.bipush X183.here hx rfl (hb hby at_70) ?_
    show oS p e below T183 m 72 #[.val (.int pI1), .unset, .unset, .unset] [(.int (10 : Int32)), (.ref bR2), (.ref bR2)] _
    refine st198 _ ?_
    refine st212 _ ?_
    refine XS.astoreN X212.here hx rfl (hb hby at_76) rfl rfl (l' := #[.val (.int pI1), .val (.ref bR2), .unset, .unset]) rfl ?_
    refine XS.bipush X212.here hx rfl (hb hby at_77) ?_
    show oS p e below T212 m 79 #[.val (.int pI1), .val (.ref bR2), .unset, .unset] [(.int (11 : Int32))] _
    refine st215 _ ?_
    refine XS.dup X215.here hx rfl (hb hby at_81) rfl rfl ?_
    refine XS.iconst X215.here hx rfl (hb hby at_82) ?_
    refine XS.iconst X215.here hx rfl (hb hby at_83) ?_
    show oS p e below T215 m 84 #[.val (.int pI1), .val (.ref bR2), .unset, .unset] [(.int (0 : Int32)), (.int (0 : Int32)), (.ref bR215), (.ref bR215)] _
    refine st221 _ ?_
    refine XS.dup X221.here hx rfl (hb hby at_85) rfl rfl ?_
    refine XS.iconst X221.here hx rfl (hb hby at_86) ?_
    refine XS.iconst X221.here hx rfl (hb hby at_87) ?_
    show oS p e below T221 m 88 #[.val (.int pI1), .val (.ref bR2), .unset, .unset] [(.int (0 : Int32)), (.int (1 : Int32)), (.ref bR215), (.ref bR215)] _
    refine st226 _ ?_
    refine XS.dup X226.here hx rfl (hb hby at_89) rfl rfl ?_
    refine XS.iconst X226.here hx rfl (hb hby at_90) ?_
    refine XS.iconst X226.here hx rfl (hb hby at_91) ?_
    show oS p e below T226 m 92 #[.val (.int pI1), .val (.ref bR2), .unset, .unset] [(.int (0 : Int32)), (.int (2 : Int32)), (.ref bR215), (.ref bR215)] _
    refine st231 _ ?_
    refine XS.dup X231.here hx rfl (hb hby at_93) rfl rfl ?_
    refine XS.iconst X231.here hx rfl (hb hby at_94) ?_
    refine XS.iconst X231.here hx rfl (hb hby at_95) ?_
    show oS p e below T231 m 96 #[.val (.int pI1), .val (.ref bR2), .unset, .unset] [(.int (0 : Int32)), (.int (3 : Int32)), (.ref bR215), (.ref bR215)] _
    refine st236 _ ?_
    refine XS.dup X236.here hx rfl (hb hby at_97) rfl rfl ?_
    refine XS.iconst X236.here hx rfl (hb hby at_98) ?_
    refine XS.iconst X236.here hx rfl (hb hby at_99) ?_
    show oS p e below T236 m 100 #[.val (.int pI1), .val (.ref bR2), .unset, .unset] [(.int (0 : Int32)), (.int (4 : Int32)), (.ref bR215), (.ref bR215)] _
    refine st241 _ ?_
    refine XS.dup X241.here hx rfl (hb hby at_101) rfl rfl ?_
    refine XS.iconst X241.here hx rfl (hb hby at_102) ?_
    refine XS.iconst X241.here hx rfl (hb hby at_103) ?_
    show oS p e below T241 m 104 #[.val (.int pI1), .val (.ref bR2), .unset, .unset] [(.int (1 : Int32)), (.int (5 : Int32)), (.ref bR215), (.ref bR215)] _
    refine st246 _ ?_
    refine XS.dup X246.here hx rfl (hb hby at_105) rfl rfl ?_
    refine XS.bipush X246.here hx rfl (hb hby at_106) ?_
    refine XS.iconst X246.here hx rfl (hb hby at_108) ?_
    show oS p e below T246 m 109 #[.val (.int pI1), .val (.ref bR2), .unset, .unset] [(.int (1 : Int32)), (.int (6 : Int32)), (.ref bR215), (.ref bR215)] _
    refine st251 _ ?_
    refine XS.dup X251.here hx rfl (hb hby at_110) rfl rfl ?_
    refine XS.bipush X251.here hx rfl (hb hby at_111) ?_
    refine XS.iconst X251.here hx rfl (hb hby at_113) ?_
    show oS p e below T251 m 114 #[.val (.int pI1), .val (.ref bR2), .unset, .unset] [(.int (0 : Int32)), (.int (7 : Int32)), (.ref bR215), (.ref bR215)] _
    refine st256 _ ?_
    refine XS.dup X256.here hx rfl (hb hby at_115) rfl rfl ?_
    refine XS.bipush X256.here hx rfl (hb hby at_116) ?_
    refine XS.iconst X256.here hx rfl (hb hby at_118) ?_
    show oS p e below T256 m 119 #[.val (.int pI1), .val (.ref bR2), .unset, .unset] [(.int (0 : Int32)), (.int (8 : Int32)), (.ref bR215), (.ref bR215)] _
    refine st261 _ ?_
    refine XS.dup X261.here hx rfl (hb hby at_120) rfl rfl ?_
    refine XS.bipush X261.here hx rfl (hb hby at_121) ?_
    refine XS.iconst X261.here hx rfl (hb hby at_123) ?_
    show oS p e below T261 m 124 #[.val (.int pI1), .val (.ref bR2), .unset, .unset] [(.int (0 : Int32)), (.int (9 : Int32)), (.ref bR215), (.ref bR215)] _
    refine st266 _ ?_
    refine XS.dup X266.here hx rfl (hb hby at_125) rfl rfl ?_
    refine XS.bipush X266.here hx rfl (hb hby at_126) ?_
    refine XS.iconst X266.here hx rfl (hb hby at_128) ?_
    show oS p e below T266 m 129 #[.val (.int pI1), .val (.ref bR2), .unset, .unset] [(.int (0 : Int32)), (.int (10 : Int32)), (.ref bR215), (.ref bR215)] _
    refine st271 _ ?_
    refine XS.astoreN X271.here hx rfl (hb hby at_130) rfl rfl (l' := #[.val (.int pI1), .val (.ref bR2), .val (.ref bR215), .unset]) rfl ?_
    refine XS.iloadN X271.here hx rfl (hb hby at_131) rfl ?_
    refine X271.ldcInt hx hown (mvT hZ (ow hw 27 rfl)) (g := (mkF m 132 #[.val (.int pI1), .val (.ref bR2), .val (.ref bR215), .unset] [(.int pI1)])) rfl (hb hby at_132) _ ?_
    show oS p e below T271 m 134 #[.val (.int pI1), .val (.ref bR2), .val (.ref bR215), .unset] [(.int (2147483647 : Int32)), (.int pI1)] _
    refine XS.iand X271.here hx rfl (hb hby at_134) rfl ?_
    refine XS.bipush X271.here hx rfl (hb hby at_135) ?_
    show Steps p.tables e below (T271.setTop (mkF m 137 #[.val (.int pI1), .val (.ref bR2), .val (.ref bR215), .unset] [(.int (11 : Int32)), (.int (pI1 &&& (2147483647 : Int32)))])) _
    refine iremM (g := (mkF m 137 #[.val (.int pI1), .val (.ref bR2), .val (.ref bR215), .unset] [(.int (11 : Int32)), (.int (pI1 &&& (2147483647 : Int32)))])) X271 hx rfl (hb hby at_137) rfl (by decide) ?_
    refine XS.istoreN X271.here hx rfl (hb hby at_138) rfl (l' := #[.val (.int pI1), .val (.ref bR2), .val (.ref bR215), .val (.int ((pI1 &&& (2147483647 : Int32)) % (11 : Int32)))]) rfl ?_
    show oS p e below T271 m 139 #[.val (.int pI1), .val (.ref bR2), .val (.ref bR215), .val (.int ((pI1 &&& (2147483647 : Int32)) % (11 : Int32)))] [] _
    refine XS.aloadN X271.here hx rfl (hb hby at_139) rfl rfl ?_
    refine XS.iloadN X271.here hx rfl (hb hby at_140) rfl ?_
    refine X271.aaload hx (j := ((pI1 &&& (2147483647 : Int32)) % (11 : Int32))) (v := (.ref pR900)) (by rw [e271]; exact Arq274.1) (State.isArrayOf_alike hZ.alike Arq274.2.1) rfl Arq274.2.2 hin287 (Has.at Ahq274 hin287 hc141'') (g := (mkF m 141 #[.val (.int pI1), .val (.ref bR2), .val (.ref bR215), .val (.int ((pI1 &&& (2147483647 : Int32)) % (11 : Int32)))] [(.int ((pI1 &&& (2147483647 : Int32)) % (11 : Int32))), (.ref bR2)])) rfl rfl (hb hby at_141) _ ?_
    refine st323.trans ?_
    show oS p e below T323 m 145 #[.val (.int pI1), .val (.ref bR2), .val (.ref bR215), .val (.int ((pI1 &&& (2147483647 : Int32)) % (11 : Int32)))] [(.int (0 : Int32))] _
    refine XS.aloadN X323.here hx rfl (hb hby at_145) rfl rfl ?_
    refine XS.iloadN X323.here hx rfl (hb hby at_146) rfl ?_
    refine X323.baloadBooleans hx (j := ((pI1 &&& (2147483647 : Int32)) % (11 : Int32))) (v := (.int pI901)) (by rw [e323]; exact Arq348.1) (State.isArrayOf_alike hZ.alike Arq348.2.1) Arq348.2.2 hin349 (Has.at Ahq348 hin349 hc147) (g := (mkF m 147 #[.val (.int pI1), .val (.ref bR2), .val (.ref bR215), .val (.int ((pI1 &&& (2147483647 : Int32)) % (11 : Int32)))] [(.int ((pI1 &&& (2147483647 : Int32)) % (11 : Int32))), (.ref bR215), (.int (0 : Int32))])) rfl rfl (hb hby at_147) _ ?_
    refine XS.icmpNo X323.here hx rfl (hb hby at_148) rfl (teq hc148).2 ?_
    show oS p e below T323 m 151 #[.val (.int pI1), .val (.ref bR2), .val (.ref bR215), .val (.int ((pI1 &&& (2147483647 : Int32)) % (11 : Int32)))] [] _
    refine XS.iconst X323.here hx rfl (hb hby at_151) ?_
    refine XS.goto X323.here hx rfl (pc0 := 152) (pc' := 156) rfl (hb hby at_152) (by decide) (by decide) ?_
    exact retN X323 hx (t := .boolean) Bd.returns (by simp) (hb hby at_156) hr
  · show QlawN Z pI1 pR5 pR15 pR26 pR39 pR54 pR71 pR90 pR111 pR134 pR159 pR186 pR900 pI901 h0 n0 _ T323.heap _
    rw [e323]
    exact ⟨rfl, N323⟩
set_option maxRecDepth 65536 in
set_option maxHeartbeats 40000000 in
theorem comes_1 {Post : Tables → Env → Array Value → State → Outcome → State → Prop} (hpost : ∀ tb e args s v u, (limb_1_1.after args s (.returned v) u = true ∧ limb_1_2.after args s (.returned v) u = true ∧ True) → FrameEnd s (.returned v) u (Jvm.fieldLocs frame_1_writes args s ++ Jvm.arrayLocs frame_1_arrays args s ++ Jvm.staticLocs frame_1_statics s) 16 128 → Post tb e args s (.returned v) u) :
    ArmFor flags0 classFile x code maxLocals ret World_1 tables_1 room_1 Calls_1 rest_1 Pre_1 Post := by
  intro l hfl _ _ p e ha hc hk s m args below hf hA hF happ hP
  obtain ⟨hcalls, hrest, hpre⟩ := hP
  obtain ⟨-, -, -, hnamed, -, -, -, hat⟩ := (Spec.applies_iff hf).mp happ
  obtain ⟨hg, hn⟩ := and_e (Cond.before_iff.mp (show (Jvm.Cond.and given_1 narrow_1).before args s = true from hpre))
  obtain ⟨w1, w2⟩ := and_e hg
  obtain ⟨w3, w4⟩ := and_e hn
  obtain ⟨w5, w6⟩ := and_e w4
  obtain ⟨w7, w8⟩ := and_e w6
  obtain ⟨w9, w10⟩ := and_e w8
  obtain ⟨w11, w12⟩ := and_e w10
  obtain ⟨w13, w14⟩ := and_e w12
  obtain ⟨w15, w16⟩ := and_e w14
  obtain ⟨w17, w18⟩ := and_e w16
  obtain ⟨w19, w20⟩ := and_e w18
  obtain ⟨w21, w22⟩ := and_e w20
  obtain ⟨w23, w24⟩ := and_e w22
  obtain ⟨w25, w26⟩ := and_e w24
  obtain ⟨w27, w28⟩ := and_e w26
  obtain ⟨w29, w30⟩ := and_e w28
  obtain ⟨w31, w32⟩ := and_e w30
  obtain ⟨w33, w34⟩ := and_e w32
  obtain ⟨w35, w36⟩ := and_e w34
  obtain ⟨w37, w38⟩ := and_e w36
  obtain ⟨w39, w40⟩ := and_e w38
  obtain ⟨w41, w42⟩ := and_e w40
  obtain ⟨w43, w44⟩ := and_e w42
  obtain ⟨v0, rfl⟩ : ∃ v0 : Value, args = #[v0] := by
    have hs : args.size = 1 := by simpa [Cond.value, given_1] using w1
    obtain ⟨L⟩ := args
    match L, hs with
    | [v0], _ => exact ⟨v0, rfl⟩
  have hw := fun d (hd : d ∈ tables_1) => atoms_spec (ws := Jvm.Cond.code x code maxLocals ret :: tables_1) hat d (List.mem_cons_of_mem _ hd)
  have hfit : Fit s := fun {y c} hc i hi => by
    obtain ⟨ha, rfl⟩ := Array.getElem?_eq_some_iff.mp hc
    have q := List.all_eq_true.mp ((Array.all_eq_true_iff_forall_mem.mp hF) _ (Array.getElem_mem ha)) i (List.mem_range.mpr hi)
    simpa [Array.getElem?_eq_getElem hi] using q
  obtain ⟨i0, ei0⟩ := is_v w2
  obtain rfl : v0 = (.int i0) := Option.some.inj ei0
  obtain ⟨bR45, ev46⟩ := exa_v w3
  have S47 : Sta s s.heap "com/example/ratatoskr/ratatoskr/query/Syntax$CastType" "SMALLINT" "Lcom/example/ratatoskr/ratatoskr/query/Syntax$CastType;" (.ref bR45) := Sta.start ev46 (Or.inr ⟨(ow hw 3 rfl), (ow hw 4 rfl)⟩)
  have E48 : Exa s s.heap bR45 "com/example/ratatoskr/ratatoskr/query/Syntax$CastType" := Exa.start ev46 w3
  obtain ⟨bR49, ev50⟩ := exa_v w5
  have S51 : Sta s s.heap "com/example/ratatoskr/ratatoskr/query/Syntax$CastType" "INTEGER" "Lcom/example/ratatoskr/ratatoskr/query/Syntax$CastType;" (.ref bR49) := Sta.start ev50 (Or.inr ⟨(ow hw 3 rfl), (ow hw 7 rfl)⟩)
  have E52 : Exa s s.heap bR49 "com/example/ratatoskr/ratatoskr/query/Syntax$CastType" := Exa.start ev50 w5
  obtain ⟨bR53, ev54⟩ := exa_v w7
  have S55 : Sta s s.heap "com/example/ratatoskr/ratatoskr/query/Syntax$CastType" "BIGINT" "Lcom/example/ratatoskr/ratatoskr/query/Syntax$CastType;" (.ref bR53) := Sta.start ev54 (Or.inr ⟨(ow hw 3 rfl), (ow hw 9 rfl)⟩)
  have E56 : Exa s s.heap bR53 "com/example/ratatoskr/ratatoskr/query/Syntax$CastType" := Exa.start ev54 w7
  obtain ⟨bR57, ev58⟩ := exa_v w9
  have S59 : Sta s s.heap "com/example/ratatoskr/ratatoskr/query/Syntax$CastType" "REAL" "Lcom/example/ratatoskr/ratatoskr/query/Syntax$CastType;" (.ref bR57) := Sta.start ev58 (Or.inr ⟨(ow hw 3 rfl), (ow hw 11 rfl)⟩)
  have E60 : Exa s s.heap bR57 "com/example/ratatoskr/ratatoskr/query/Syntax$CastType" := Exa.start ev58 w9
  obtain ⟨bR61, ev62⟩ := exa_v w11
  have S63 : Sta s s.heap "com/example/ratatoskr/ratatoskr/query/Syntax$CastType" "DOUBLE" "Lcom/example/ratatoskr/ratatoskr/query/Syntax$CastType;" (.ref bR61) := Sta.start ev62 (Or.inr ⟨(ow hw 3 rfl), (ow hw 13 rfl)⟩)
  have E64 : Exa s s.heap bR61 "com/example/ratatoskr/ratatoskr/query/Syntax$CastType" := Exa.start ev62 w11
  obtain ⟨bR65, ev66⟩ := exa_v w13
  have S67 : Sta s s.heap "com/example/ratatoskr/ratatoskr/query/Syntax$CastType" "CHAR" "Lcom/example/ratatoskr/ratatoskr/query/Syntax$CastType;" (.ref bR65) := Sta.start ev66 (Or.inr ⟨(ow hw 3 rfl), (ow hw 15 rfl)⟩)
  have E68 : Exa s s.heap bR65 "com/example/ratatoskr/ratatoskr/query/Syntax$CastType" := Exa.start ev66 w13
  obtain ⟨bR69, ev70⟩ := exa_v w15
  have S71 : Sta s s.heap "com/example/ratatoskr/ratatoskr/query/Syntax$CastType" "VARCHAR" "Lcom/example/ratatoskr/ratatoskr/query/Syntax$CastType;" (.ref bR69) := Sta.start ev70 (Or.inr ⟨(ow hw 3 rfl), (ow hw 17 rfl)⟩)
  have E72 : Exa s s.heap bR69 "com/example/ratatoskr/ratatoskr/query/Syntax$CastType" := Exa.start ev70 w15
  obtain ⟨bR73, ev74⟩ := exa_v w17
  have S75 : Sta s s.heap "com/example/ratatoskr/ratatoskr/query/Syntax$CastType" "TIMESTAMP" "Lcom/example/ratatoskr/ratatoskr/query/Syntax$CastType;" (.ref bR73) := Sta.start ev74 (Or.inr ⟨(ow hw 3 rfl), (ow hw 19 rfl)⟩)
  have E76 : Exa s s.heap bR73 "com/example/ratatoskr/ratatoskr/query/Syntax$CastType" := Exa.start ev74 w17
  obtain ⟨bR77, ev78⟩ := exa_v w19
  have S79 : Sta s s.heap "com/example/ratatoskr/ratatoskr/query/Syntax$CastType" "POINT" "Lcom/example/ratatoskr/ratatoskr/query/Syntax$CastType;" (.ref bR77) := Sta.start ev78 (Or.inr ⟨(ow hw 3 rfl), (ow hw 21 rfl)⟩)
  have E80 : Exa s s.heap bR77 "com/example/ratatoskr/ratatoskr/query/Syntax$CastType" := Exa.start ev78 w19
  obtain ⟨bR81, ev82⟩ := exa_v w21
  have S83 : Sta s s.heap "com/example/ratatoskr/ratatoskr/query/Syntax$CastType" "CIRCLE" "Lcom/example/ratatoskr/ratatoskr/query/Syntax$CastType;" (.ref bR81) := Sta.start ev82 (Or.inr ⟨(ow hw 3 rfl), (ow hw 23 rfl)⟩)
  have E84 : Exa s s.heap bR81 "com/example/ratatoskr/ratatoskr/query/Syntax$CastType" := Exa.start ev82 w21
  obtain ⟨bR85, ev86⟩ := exa_v w23
  have S87 : Sta s s.heap "com/example/ratatoskr/ratatoskr/query/Syntax$CastType" "POLYGON" "Lcom/example/ratatoskr/ratatoskr/query/Syntax$CastType;" (.ref bR85) := Sta.start ev86 (Or.inr ⟨(ow hw 3 rfl), (ow hw 25 rfl)⟩)
  have E88 : Exa s s.heap bR85 "com/example/ratatoskr/ratatoskr/query/Syntax$CastType" := Exa.start ev86 w23
  have ev89 := Cond.eq_int (Cond.before_iff.mpr w25) rfl
  have F90 : Fld s s.heap bR45 "java/lang/Enum" "ordinal" "I" (.int (0 : Int32)) := Fld.start ((fld_at ev46).symm.trans ev89)
  have ev91 := Cond.eq_int (Cond.before_iff.mpr w27) rfl
  have F92 : Fld s s.heap bR65 "java/lang/Enum" "ordinal" "I" (.int (5 : Int32)) := Fld.start ((fld_at ev66).symm.trans ev91)
  have ev93 := Cond.eq_int (Cond.before_iff.mpr w29) rfl
  have F94 : Fld s s.heap bR69 "java/lang/Enum" "ordinal" "I" (.int (6 : Int32)) := Fld.start ((fld_at ev70).symm.trans ev93)
  have ev95 := Cond.eq_int (Cond.before_iff.mpr w31) rfl
  have F96 : Fld s s.heap bR57 "java/lang/Enum" "ordinal" "I" (.int (3 : Int32)) := Fld.start ((fld_at ev58).symm.trans ev95)
  have ev97 := Cond.eq_int (Cond.before_iff.mpr w33) rfl
  have F98 : Fld s s.heap bR73 "java/lang/Enum" "ordinal" "I" (.int (7 : Int32)) := Fld.start ((fld_at ev74).symm.trans ev97)
  have ev99 := Cond.eq_int (Cond.before_iff.mpr w35) rfl
  have F100 : Fld s s.heap bR77 "java/lang/Enum" "ordinal" "I" (.int (8 : Int32)) := Fld.start ((fld_at ev78).symm.trans ev99)
  have ev101 := Cond.eq_int (Cond.before_iff.mpr w37) rfl
  have F102 : Fld s s.heap bR53 "java/lang/Enum" "ordinal" "I" (.int (2 : Int32)) := Fld.start ((fld_at ev54).symm.trans ev101)
  have ev103 := Cond.eq_int (Cond.before_iff.mpr w39) rfl
  have F104 : Fld s s.heap bR85 "java/lang/Enum" "ordinal" "I" (.int (10 : Int32)) := Fld.start ((fld_at ev86).symm.trans ev103)
  have ev105 := Cond.eq_int (Cond.before_iff.mpr w41) rfl
  have F106 : Fld s s.heap bR49 "java/lang/Enum" "ordinal" "I" (.int (1 : Int32)) := Fld.start ((fld_at ev50).symm.trans ev105)
  have ev107 := Cond.eq_int (Cond.before_iff.mpr w43) rfl
  have F108 : Fld s s.heap bR81 "java/lang/Enum" "ordinal" "I" (.int (9 : Int32)) := Fld.start ((fld_at ev82).symm.trans ev107)
  have ev109 := Cond.eq_int (Cond.before_iff.mpr w44) rfl
  have F110 : Fld s s.heap bR61 "java/lang/Enum" "ordinal" "I" (.int (4 : Int32)) := Fld.start ((fld_at ev62).symm.trans ev109)
  obtain ⟨hm0, hm1⟩ := own_mod i0 (11 : Int32) 11 (by decide) (by decide)
  rcases own_in11 hm0 hm1 with hcs | hcs | hcs | hcs | hcs | hcs | hcs | hcs | hcs | hcs | hcs
  · obtain ⟨n, o, h1, h2, h3, _, L, rfl, ⟨rfl, N⟩, hq⟩ := lawN l s _ hw tables_1 i0 bR45 bR49 bR53 bR57 bR61 bR65 bR69 bR73 bR77 bR81 bR85 bR45 (0 : Int32) s.heap s.heap.size (Nat.le_refl _) S47 E48 S51 E52 S55 E56 S59 E60 S63 E64 S67 E68 S71 E72 S75 E76 S79 E80 S83 E84 S87 E88 (Fld.ne F90 F92 (fun q => absurd (Value.int.inj q) (by decide))) (Fld.ne F90 F94 (fun q => absurd (Value.int.inj q) (by decide))) E48 (by rw [hcs]; decide) (by rw [hcs]; decide) (by rw [hcs]; rfl) (by rw [hcs]; rfl) rfl p e ha hc hk s m _ below hf ((Spec.applies_iff_loose hf).mp happ).1 ⟨rfl, State.Warmed39.refl s, rfl⟩ trivial
    exact ⟨n, _, h1, h2, h3, hpost _ _ _ _ _ _ ⟨Cond.after_iff.mpr rfl, Cond.after_iff.mpr (eq_i res_at (Term.int_eval (1)) rfl), trivial⟩ ⟨hq.1, hq.2.1, (hq.2.2.sift fun y hy => Or.inr (N y hy)).mono (by decide) (by decide)⟩⟩
  · obtain ⟨n, o, h1, h2, h3, _, L, rfl, ⟨rfl, N⟩, hq⟩ := lawN l s _ hw tables_1 i0 bR45 bR49 bR53 bR57 bR61 bR65 bR69 bR73 bR77 bR81 bR85 bR49 (0 : Int32) s.heap s.heap.size (Nat.le_refl _) S47 E48 S51 E52 S55 E56 S59 E60 S63 E64 S67 E68 S71 E72 S75 E76 S79 E80 S83 E84 S87 E88 (Fld.ne F106 F92 (fun q => absurd (Value.int.inj q) (by decide))) (Fld.ne F106 F94 (fun q => absurd (Value.int.inj q) (by decide))) E52 (by rw [hcs]; decide) (by rw [hcs]; decide) (by rw [hcs]; rfl) (by rw [hcs]; rfl) rfl p e ha hc hk s m _ below hf ((Spec.applies_iff_loose hf).mp happ).1 ⟨rfl, State.Warmed39.refl s, rfl⟩ trivial
    exact ⟨n, _, h1, h2, h3, hpost _ _ _ _ _ _ ⟨Cond.after_iff.mpr rfl, Cond.after_iff.mpr (eq_i res_at (Term.int_eval (1)) rfl), trivial⟩ ⟨hq.1, hq.2.1, (hq.2.2.sift fun y hy => Or.inr (N y hy)).mono (by decide) (by decide)⟩⟩
  · obtain ⟨n, o, h1, h2, h3, _, L, rfl, ⟨rfl, N⟩, hq⟩ := lawN l s _ hw tables_1 i0 bR45 bR49 bR53 bR57 bR61 bR65 bR69 bR73 bR77 bR81 bR85 bR53 (0 : Int32) s.heap s.heap.size (Nat.le_refl _) S47 E48 S51 E52 S55 E56 S59 E60 S63 E64 S67 E68 S71 E72 S75 E76 S79 E80 S83 E84 S87 E88 (Fld.ne F102 F92 (fun q => absurd (Value.int.inj q) (by decide))) (Fld.ne F102 F94 (fun q => absurd (Value.int.inj q) (by decide))) E56 (by rw [hcs]; decide) (by rw [hcs]; decide) (by rw [hcs]; rfl) (by rw [hcs]; rfl) rfl p e ha hc hk s m _ below hf ((Spec.applies_iff_loose hf).mp happ).1 ⟨rfl, State.Warmed39.refl s, rfl⟩ trivial
    exact ⟨n, _, h1, h2, h3, hpost _ _ _ _ _ _ ⟨Cond.after_iff.mpr rfl, Cond.after_iff.mpr (eq_i res_at (Term.int_eval (1)) rfl), trivial⟩ ⟨hq.1, hq.2.1, (hq.2.2.sift fun y hy => Or.inr (N y hy)).mono (by decide) (by decide)⟩⟩
  · obtain ⟨n, o, h1, h2, h3, _, L, rfl, ⟨rfl, N⟩, hq⟩ := lawN l s _ hw tables_1 i0 bR45 bR49 bR53 bR57 bR61 bR65 bR69 bR73 bR77 bR81 bR85 bR57 (0 : Int32) s.heap s.heap.size (Nat.le_refl _) S47 E48 S51 E52 S55 E56 S59 E60 S63 E64 S67 E68 S71 E72 S75 E76 S79 E80 S83 E84 S87 E88 (Fld.ne F96 F92 (fun q => absurd (Value.int.inj q) (by decide))) (Fld.ne F96 F94 (fun q => absurd (Value.int.inj q) (by decide))) E60 (by rw [hcs]; decide) (by rw [hcs]; decide) (by rw [hcs]; rfl) (by rw [hcs]; rfl) rfl p e ha hc hk s m _ below hf ((Spec.applies_iff_loose hf).mp happ).1 ⟨rfl, State.Warmed39.refl s, rfl⟩ trivial
    exact ⟨n, _, h1, h2, h3, hpost _ _ _ _ _ _ ⟨Cond.after_iff.mpr rfl, Cond.after_iff.mpr (eq_i res_at (Term.int_eval (1)) rfl), trivial⟩ ⟨hq.1, hq.2.1, (hq.2.2.sift fun y hy => Or.inr (N y hy)).mono (by decide) (by decide)⟩⟩
  · obtain ⟨n, o, h1, h2, h3, _, L, rfl, ⟨rfl, N⟩, hq⟩ := lawN l s _ hw tables_1 i0 bR45 bR49 bR53 bR57 bR61 bR65 bR69 bR73 bR77 bR81 bR85 bR61 (0 : Int32) s.heap s.heap.size (Nat.le_refl _) S47 E48 S51 E52 S55 E56 S59 E60 S63 E64 S67 E68 S71 E72 S75 E76 S79 E80 S83 E84 S87 E88 (Fld.ne F110 F92 (fun q => absurd (Value.int.inj q) (by decide))) (Fld.ne F110 F94 (fun q => absurd (Value.int.inj q) (by decide))) E64 (by rw [hcs]; decide) (by rw [hcs]; decide) (by rw [hcs]; rfl) (by rw [hcs]; rfl) rfl p e ha hc hk s m _ below hf ((Spec.applies_iff_loose hf).mp happ).1 ⟨rfl, State.Warmed39.refl s, rfl⟩ trivial
    exact ⟨n, _, h1, h2, h3, hpost _ _ _ _ _ _ ⟨Cond.after_iff.mpr rfl, Cond.after_iff.mpr (eq_i res_at (Term.int_eval (1)) rfl), trivial⟩ ⟨hq.1, hq.2.1, (hq.2.2.sift fun y hy => Or.inr (N y hy)).mono (by decide) (by decide)⟩⟩
  · obtain ⟨n, o, h1, h2, h3, _, L, rfl, ⟨rfl, N⟩, hq⟩ := lawC l s _ hw tables_1 i0 bR45 bR49 bR53 bR57 bR61 bR65 bR69 bR73 bR77 bR81 bR85 bR65 (1 : Int32) s.heap s.heap.size (Nat.le_refl _) S47 E48 S51 E52 S55 E56 S59 E60 S63 E64 S67 E68 S71 E72 S75 E76 S79 E80 S83 E84 S87 E88 E68 (by rw [hcs]; decide) (by rw [hcs]; decide) (by rw [hcs]; rfl) rfl (by rw [hcs]; rfl) rfl p e ha hc hk s m _ below hf ((Spec.applies_iff_loose hf).mp happ).1 ⟨rfl, State.Warmed39.refl s, rfl⟩ trivial
    exact ⟨n, _, h1, h2, h3, hpost _ _ _ _ _ _ ⟨Cond.after_iff.mpr rfl, Cond.after_iff.mpr (eq_i res_at (Term.int_eval (1)) rfl), trivial⟩ ⟨hq.1, hq.2.1, (hq.2.2.sift fun y hy => Or.inr (N y hy)).mono (by decide) (by decide)⟩⟩
  · obtain ⟨n, o, h1, h2, h3, _, L, rfl, ⟨rfl, N⟩, hq⟩ := lawV l s _ hw tables_1 i0 bR45 bR49 bR53 bR57 bR61 bR65 bR69 bR73 bR77 bR81 bR85 bR69 (1 : Int32) s.heap s.heap.size (Nat.le_refl _) S47 E48 S51 E52 S55 E56 S59 E60 S63 E64 S67 E68 S71 E72 S75 E76 S79 E80 S83 E84 S87 E88 (Fld.ne F94 F92 (fun q => absurd (Value.int.inj q) (by decide))) E72 (by rw [hcs]; decide) (by rw [hcs]; decide) (by rw [hcs]; rfl) rfl (by rw [hcs]; rfl) rfl p e ha hc hk s m _ below hf ((Spec.applies_iff_loose hf).mp happ).1 ⟨rfl, State.Warmed39.refl s, rfl⟩ trivial
    exact ⟨n, _, h1, h2, h3, hpost _ _ _ _ _ _ ⟨Cond.after_iff.mpr rfl, Cond.after_iff.mpr (eq_i res_at (Term.int_eval (1)) rfl), trivial⟩ ⟨hq.1, hq.2.1, (hq.2.2.sift fun y hy => Or.inr (N y hy)).mono (by decide) (by decide)⟩⟩
  · obtain ⟨n, o, h1, h2, h3, _, L, rfl, ⟨rfl, N⟩, hq⟩ := lawN l s _ hw tables_1 i0 bR45 bR49 bR53 bR57 bR61 bR65 bR69 bR73 bR77 bR81 bR85 bR73 (0 : Int32) s.heap s.heap.size (Nat.le_refl _) S47 E48 S51 E52 S55 E56 S59 E60 S63 E64 S67 E68 S71 E72 S75 E76 S79 E80 S83 E84 S87 E88 (Fld.ne F98 F92 (fun q => absurd (Value.int.inj q) (by decide))) (Fld.ne F98 F94 (fun q => absurd (Value.int.inj q) (by decide))) E76 (by rw [hcs]; decide) (by rw [hcs]; decide) (by rw [hcs]; rfl) (by rw [hcs]; rfl) rfl p e ha hc hk s m _ below hf ((Spec.applies_iff_loose hf).mp happ).1 ⟨rfl, State.Warmed39.refl s, rfl⟩ trivial
    exact ⟨n, _, h1, h2, h3, hpost _ _ _ _ _ _ ⟨Cond.after_iff.mpr rfl, Cond.after_iff.mpr (eq_i res_at (Term.int_eval (1)) rfl), trivial⟩ ⟨hq.1, hq.2.1, (hq.2.2.sift fun y hy => Or.inr (N y hy)).mono (by decide) (by decide)⟩⟩
  · obtain ⟨n, o, h1, h2, h3, _, L, rfl, ⟨rfl, N⟩, hq⟩ := lawN l s _ hw tables_1 i0 bR45 bR49 bR53 bR57 bR61 bR65 bR69 bR73 bR77 bR81 bR85 bR77 (0 : Int32) s.heap s.heap.size (Nat.le_refl _) S47 E48 S51 E52 S55 E56 S59 E60 S63 E64 S67 E68 S71 E72 S75 E76 S79 E80 S83 E84 S87 E88 (Fld.ne F100 F92 (fun q => absurd (Value.int.inj q) (by decide))) (Fld.ne F100 F94 (fun q => absurd (Value.int.inj q) (by decide))) E80 (by rw [hcs]; decide) (by rw [hcs]; decide) (by rw [hcs]; rfl) (by rw [hcs]; rfl) rfl p e ha hc hk s m _ below hf ((Spec.applies_iff_loose hf).mp happ).1 ⟨rfl, State.Warmed39.refl s, rfl⟩ trivial
    exact ⟨n, _, h1, h2, h3, hpost _ _ _ _ _ _ ⟨Cond.after_iff.mpr rfl, Cond.after_iff.mpr (eq_i res_at (Term.int_eval (1)) rfl), trivial⟩ ⟨hq.1, hq.2.1, (hq.2.2.sift fun y hy => Or.inr (N y hy)).mono (by decide) (by decide)⟩⟩
  · obtain ⟨n, o, h1, h2, h3, _, L, rfl, ⟨rfl, N⟩, hq⟩ := lawN l s _ hw tables_1 i0 bR45 bR49 bR53 bR57 bR61 bR65 bR69 bR73 bR77 bR81 bR85 bR81 (0 : Int32) s.heap s.heap.size (Nat.le_refl _) S47 E48 S51 E52 S55 E56 S59 E60 S63 E64 S67 E68 S71 E72 S75 E76 S79 E80 S83 E84 S87 E88 (Fld.ne F108 F92 (fun q => absurd (Value.int.inj q) (by decide))) (Fld.ne F108 F94 (fun q => absurd (Value.int.inj q) (by decide))) E84 (by rw [hcs]; decide) (by rw [hcs]; decide) (by rw [hcs]; rfl) (by rw [hcs]; rfl) rfl p e ha hc hk s m _ below hf ((Spec.applies_iff_loose hf).mp happ).1 ⟨rfl, State.Warmed39.refl s, rfl⟩ trivial
    exact ⟨n, _, h1, h2, h3, hpost _ _ _ _ _ _ ⟨Cond.after_iff.mpr rfl, Cond.after_iff.mpr (eq_i res_at (Term.int_eval (1)) rfl), trivial⟩ ⟨hq.1, hq.2.1, (hq.2.2.sift fun y hy => Or.inr (N y hy)).mono (by decide) (by decide)⟩⟩
  · obtain ⟨n, o, h1, h2, h3, _, L, rfl, ⟨rfl, N⟩, hq⟩ := lawN l s _ hw tables_1 i0 bR45 bR49 bR53 bR57 bR61 bR65 bR69 bR73 bR77 bR81 bR85 bR85 (0 : Int32) s.heap s.heap.size (Nat.le_refl _) S47 E48 S51 E52 S55 E56 S59 E60 S63 E64 S67 E68 S71 E72 S75 E76 S79 E80 S83 E84 S87 E88 (Fld.ne F104 F92 (fun q => absurd (Value.int.inj q) (by decide))) (Fld.ne F104 F94 (fun q => absurd (Value.int.inj q) (by decide))) E88 (by rw [hcs]; decide) (by rw [hcs]; decide) (by rw [hcs]; rfl) (by rw [hcs]; rfl) rfl p e ha hc hk s m _ below hf ((Spec.applies_iff_loose hf).mp happ).1 ⟨rfl, State.Warmed39.refl s, rfl⟩ trivial
    exact ⟨n, _, h1, h2, h3, hpost _ _ _ _ _ _ ⟨Cond.after_iff.mpr rfl, Cond.after_iff.mpr (eq_i res_at (Term.int_eval (1)) rfl), trivial⟩ ⟨hq.1, hq.2.1, (hq.2.2.sift fun y hy => Or.inr (N y hy)).mono (by decide) (by decide)⟩⟩
theorem main_1_1 : Claimed_1_1 := comes_1 fun _ _ _ _ _ _ h hF => ⟨h.1, hF⟩
theorem main_1_2 : Claimed_1_2 := comes_1 fun _ _ _ _ _ _ h hF => ⟨h.2.1, hF⟩
end Jvm.Pilot.@@N@@
namespace Jvm.Pilot.@@N@@
open Jvm Jvm.ClassFile Sem Op Lib Jvm.Free Jvm.Stand Jvm.Pilot.@@N@@.Jvm.D
/-! MADE BY PROGRAM (witnessworld.py) out of the Statement's table words and the real class files: 15 classes; the members and pool entries that the words name. The judged class is class 1, her method 1. -/
namespace start1
open Jvm.ClassFile
def u (s : String) : CpInfo := .utf8 (stringToUtf16 s)
/-- a pool by its gaps: so many unusable entries, then the entry; so many at the end -/
def gap : Nat → List CpInfo → List CpInfo
  | 0, r => r
  | n + 1, r => .unusable :: gap n r
def poolList (es : List (Nat × CpInfo)) (last : Nat) : List CpInfo := es.foldr (fun e r => gap e.1 (e.2 :: r)) (gap last [])
def pool (es : List (Nat × CpInfo)) (last : Nat) : Array CpInfo := ⟨poolList es last⟩
def fileOf (pool : Array CpInfo) (this : Nat) (attrs : Array Attribute := #[]) (ms : Array MethodInfo := #[]) (fl : Nat := 33) (sup : Nat := 0) (ifs : Array Nat := #[]) (fds : Array FieldInfo := #[]) : ClassFile where
  minorVersion := 0
  majorVersion := 65
  constantPool := pool
  accessFlags := fl
  thisClass := this
  superClass := sup
  interfaces := ifs
  fields := fds
  methods := ms
  attributes := attrs
def plain (name : String) (sup : Option ClassId) : Class where
  name := name
  kind := .ordinary
  loader := none
  accessFlags := 33
  super := sup
  interfaces := #[]
  cf := none
  fields := #[]
  methods := #[]
  instanceTypes := #[]
  staticTypes := #[]
  resolved := #[]
  callSites := []
  init := .initialized
  statics := none
  mirror := none

def pool0 : Array CpInfo := pool [(5, u "<init>"), (0, u "()V"), (1, .class_ 10), (1, u "java/lang/Object")] 113

def k0m0 : Method := { name := "<init>", desc := "()V", sig := { parameters := [], returnType := none }, accessFlags := 1, code := none }
/-- java/lang/Object -/
def k0 : Class := { plain "java/lang/Object" none with
  accessFlags := 33
  interfaces := #[]
  cf := some (fileOf pool0 8 #[] #[{ accessFlags := 1, nameIndex := 5, descriptorIndex := 6, attributes := #[] }] 33 0 #[] #[])
  fields := #[]
  methods := #[k0m0]
  instanceTypes := #[]
  staticTypes := #[]
  resolved := Array.replicate 124 none
  statics := none }

def pool1 : Array CpInfo := pool [(2, .class_ 4), (1, u "java/lang/Object"), (0, u "<init>"), (0, u "()V"), (0, .class_ 8), (0, u "com/example/ratatoskr/ratatoskr/query/Syntax$CastType"), (0, .fieldref 7 10), (0, .nameAndType 11 12), (0, u "SMALLINT"), (0, u "Lcom/example/ratatoskr/ratatoskr/query/Syntax$CastType;"), (0, .fieldref 7 14), (0, .nameAndType 15 12), (0, u "INTEGER"), (0, .fieldref 7 17), (0, .nameAndType 18 12), (0, u "BIGINT"), (0, .fieldref 7 20), (0, .nameAndType 21 12), (0, u "REAL"), (0, .fieldref 7 23), (0, .nameAndType 24 12), (0, u "DOUBLE"), (0, .fieldref 7 26), (0, .nameAndType 27 12), (0, u "CHAR"), (0, .fieldref 7 29), (0, .nameAndType 30 12), (0, u "VARCHAR"), (0, .fieldref 7 32), (0, .nameAndType 33 12), (0, u "TIMESTAMP"), (0, .fieldref 7 35), (0, .nameAndType 36 12), (0, u "POINT"), (0, .fieldref 7 38), (0, .nameAndType 39 12), (0, u "CIRCLE"), (0, .fieldref 7 41), (0, .nameAndType 42 12), (0, u "POLYGON"), (0, .integer 2147483647), (0, .methodref 7 45), (0, .nameAndType 46 47), (0, u "hasLength"), (0, u "()Z"), (0, .class_ 49), (0, u "com/example/ratatoskr/ratatoskr/query/CastTypeHasLengthPinLaw"), (2, u "law"), (0, u "(I)Z")] 11

def k1m0 : Method := { name := "<init>", desc := "()V", sig := { parameters := [], returnType := none }, accessFlags := 2, code := none }
def k1c1 : Code := { maxStack := 4, maxLocals := 4, code := code, exceptionTable := #[], attributes := #[] }
def k1m1 : Method := { name := "law", desc := "(I)Z", sig := { parameters := [.int], returnType := some .boolean }, accessFlags := 9, code := some k1c1 }
/-- com/example/ratatoskr/ratatoskr/query/CastTypeHasLengthPinLaw -/
def k1 : Class := { plain "com/example/ratatoskr/ratatoskr/query/CastTypeHasLengthPinLaw" (some 0) with
  accessFlags := 49
  interfaces := #[]
  cf := some (fileOf pool1 48 #[] #[{ accessFlags := 2, nameIndex := 5, descriptorIndex := 6, attributes := #[] }, { accessFlags := 9, nameIndex := 52, descriptorIndex := 53, attributes := #[] }] 49 2 #[] #[])
  fields := #[]
  methods := #[k1m0, k1m1]
  instanceTypes := #[]
  staticTypes := #[]
  resolved := Array.replicate 65 none
  statics := none }

def pool2 : Array CpInfo := pool [(1, .class_ 2), (0, u "java/lang/constant/Constable"), (0, .class_ 4), (0, u "java/lang/Object")] 6

/-- java/lang/constant/Constable -/
def k2 : Class := { plain "java/lang/constant/Constable" (some 0) with
  accessFlags := 1537
  interfaces := #[]
  cf := some (fileOf pool2 1 #[] #[] 1537 3 #[] #[])
  fields := #[]
  methods := #[]
  instanceTypes := #[]
  staticTypes := #[]
  resolved := Array.replicate 11 none
  statics := none }

def pool3 : Array CpInfo := pool [(1, .class_ 2), (0, u "java/lang/Comparable"), (0, .class_ 4), (0, u "java/lang/Object")] 7

/-- java/lang/Comparable -/
def k3 : Class := { plain "java/lang/Comparable" (some 0) with
  accessFlags := 1537
  interfaces := #[]
  cf := some (fileOf pool3 1 #[] #[] 1537 3 #[] #[])
  fields := #[]
  methods := #[]
  instanceTypes := #[]
  staticTypes := #[]
  resolved := Array.replicate 12 none
  statics := none }

def pool4 : Array CpInfo := pool [(1, .class_ 2), (0, u "java/io/Serializable"), (0, .class_ 4), (0, u "java/lang/Object")] 2

/-- java/io/Serializable -/
def k4 : Class := { plain "java/io/Serializable" (some 0) with
  accessFlags := 1537
  interfaces := #[]
  cf := some (fileOf pool4 1 #[] #[] 1537 3 #[] #[])
  fields := #[]
  methods := #[]
  instanceTypes := #[]
  staticTypes := #[]
  resolved := Array.replicate 7 none
  statics := none }

def pool5 : Array CpInfo := pool [(2, .class_ 4), (1, u "java/lang/Enum"), (0, u "name"), (0, u "Ljava/lang/String;"), (2, u "ordinal"), (0, u "I"), (1, .class_ 14), (1, u "java/lang/Object"), (4, u "hash"), (86, .class_ 108), (1, u "java/lang/Enum$EnumDesc"), (2, .class_ 112), (0, u "java/lang/constant/Constable"), (0, .class_ 114), (0, u "java/lang/Comparable"), (0, .class_ 116), (0, u "java/io/Serializable")] 87

/-- java/lang/Enum -/
def k5 : Class := { plain "java/lang/Enum" (some 0) with
  accessFlags := 1057
  interfaces := #[2, 3, 4]
  cf := some (fileOf pool5 2 #[.nestMembers #[106]] #[] 1057 12 #[111, 113, 115] #[{ accessFlags := 18, nameIndex := 5, descriptorIndex := 6, attributes := #[] }, { accessFlags := 18, nameIndex := 9, descriptorIndex := 10, attributes := #[] }, { accessFlags := 2, nameIndex := 19, descriptorIndex := 10, attributes := #[] }])
  fields := #[{ name := "name", type := (.object "java/lang/String"), accessFlags := 18, slot := 0, constantValue := 0 }, { name := "ordinal", type := .int, accessFlags := 18, slot := 1, constantValue := 0 }, { name := "hash", type := .int, accessFlags := 2, slot := 2, constantValue := 0 }]
  methods := #[]
  instanceTypes := #[(.object "java/lang/String"), .int, .int]
  staticTypes := #[]
  resolved := Array.replicate 204 none
  statics := none }

def pool6 : Array CpInfo := pool [(1, .class_ 2), (0, u "com/example/ratatoskr/ratatoskr/query/Syntax$CastType"), (2, u "SMALLINT"), (0, u "Lcom/example/ratatoskr/ratatoskr/query/Syntax$CastType;"), (2, u "INTEGER"), (2, u "BIGINT"), (2, u "REAL"), (2, u "DOUBLE"), (0, .fieldref 1 20), (0, .nameAndType 21 6), (0, u "CHAR"), (0, .fieldref 1 23), (0, .nameAndType 24 6), (0, u "VARCHAR"), (2, u "TIMESTAMP"), (2, u "POINT"), (2, u "CIRCLE"), (2, u "POLYGON"), (2, u "$VALUES"), (0, u "[Lcom/example/ratatoskr/ratatoskr/query/Syntax$CastType;"), (6, .class_ 49), (1, u "java/lang/Enum"), (8, u "written"), (0, u "Ljava/lang/String;"), (28, u "hasLength"), (0, u "()Z"), (7, .class_ 98), (0, u "com/example/ratatoskr/ratatoskr/query/Syntax")] 2

def k6c0 : Code := { maxStack := 2, maxLocals := 1, code := prog_78_method_5_code, exceptionTable := #[], attributes := #[] }
def k6m0 : Method := { name := "hasLength", desc := "()Z", sig := { parameters := [], returnType := some .boolean }, accessFlags := 0, code := some k6c0 }
/-- com/example/ratatoskr/ratatoskr/query/Syntax$CastType -/
def k6 : Class := { plain "com/example/ratatoskr/ratatoskr/query/Syntax$CastType" (some 5) with
  accessFlags := 16432
  interfaces := #[]
  cf := some (fileOf pool6 1 #[.nestHost 97] #[{ accessFlags := 0, nameIndex := 88, descriptorIndex := 89, attributes := #[] }] 16432 47 #[] #[{ accessFlags := 16409, nameIndex := 5, descriptorIndex := 6, attributes := #[] }, { accessFlags := 16409, nameIndex := 9, descriptorIndex := 6, attributes := #[] }, { accessFlags := 16409, nameIndex := 12, descriptorIndex := 6, attributes := #[] }, { accessFlags := 16409, nameIndex := 15, descriptorIndex := 6, attributes := #[] }, { accessFlags := 16409, nameIndex := 18, descriptorIndex := 6, attributes := #[] }, { accessFlags := 16409, nameIndex := 21, descriptorIndex := 6, attributes := #[] }, { accessFlags := 16409, nameIndex := 24, descriptorIndex := 6, attributes := #[] }, { accessFlags := 16409, nameIndex := 27, descriptorIndex := 6, attributes := #[] }, { accessFlags := 16409, nameIndex := 30, descriptorIndex := 6, attributes := #[] }, { accessFlags := 16409, nameIndex := 33, descriptorIndex := 6, attributes := #[] }, { accessFlags := 16409, nameIndex := 36, descriptorIndex := 6, attributes := #[] }, { accessFlags := 18, nameIndex := 58, descriptorIndex := 59, attributes := #[] }, { accessFlags := 4122, nameIndex := 39, descriptorIndex := 40, attributes := #[] }])
  fields := #[{ name := "SMALLINT", type := (.object "com/example/ratatoskr/ratatoskr/query/Syntax$CastType"), accessFlags := 16409, slot := 0, constantValue := 0 }, { name := "INTEGER", type := (.object "com/example/ratatoskr/ratatoskr/query/Syntax$CastType"), accessFlags := 16409, slot := 1, constantValue := 0 }, { name := "BIGINT", type := (.object "com/example/ratatoskr/ratatoskr/query/Syntax$CastType"), accessFlags := 16409, slot := 2, constantValue := 0 }, { name := "REAL", type := (.object "com/example/ratatoskr/ratatoskr/query/Syntax$CastType"), accessFlags := 16409, slot := 3, constantValue := 0 }, { name := "DOUBLE", type := (.object "com/example/ratatoskr/ratatoskr/query/Syntax$CastType"), accessFlags := 16409, slot := 4, constantValue := 0 }, { name := "CHAR", type := (.object "com/example/ratatoskr/ratatoskr/query/Syntax$CastType"), accessFlags := 16409, slot := 5, constantValue := 0 }, { name := "VARCHAR", type := (.object "com/example/ratatoskr/ratatoskr/query/Syntax$CastType"), accessFlags := 16409, slot := 6, constantValue := 0 }, { name := "TIMESTAMP", type := (.object "com/example/ratatoskr/ratatoskr/query/Syntax$CastType"), accessFlags := 16409, slot := 7, constantValue := 0 }, { name := "POINT", type := (.object "com/example/ratatoskr/ratatoskr/query/Syntax$CastType"), accessFlags := 16409, slot := 8, constantValue := 0 }, { name := "CIRCLE", type := (.object "com/example/ratatoskr/ratatoskr/query/Syntax$CastType"), accessFlags := 16409, slot := 9, constantValue := 0 }, { name := "POLYGON", type := (.object "com/example/ratatoskr/ratatoskr/query/Syntax$CastType"), accessFlags := 16409, slot := 10, constantValue := 0 }, { name := "written", type := (.object "java/lang/String"), accessFlags := 18, slot := 3, constantValue := 0 }, { name := "$VALUES", type := (.array (.object "com/example/ratatoskr/ratatoskr/query/Syntax$CastType")), accessFlags := 4122, slot := 11, constantValue := 0 }]
  methods := #[k6m0]
  instanceTypes := #[(.object "java/lang/String"), .int, .int, (.object "java/lang/String")]
  staticTypes := #[(.object "com/example/ratatoskr/ratatoskr/query/Syntax$CastType"), (.object "com/example/ratatoskr/ratatoskr/query/Syntax$CastType"), (.object "com/example/ratatoskr/ratatoskr/query/Syntax$CastType"), (.object "com/example/ratatoskr/ratatoskr/query/Syntax$CastType"), (.object "com/example/ratatoskr/ratatoskr/query/Syntax$CastType"), (.object "com/example/ratatoskr/ratatoskr/query/Syntax$CastType"), (.object "com/example/ratatoskr/ratatoskr/query/Syntax$CastType"), (.object "com/example/ratatoskr/ratatoskr/query/Syntax$CastType"), (.object "com/example/ratatoskr/ratatoskr/query/Syntax$CastType"), (.object "com/example/ratatoskr/ratatoskr/query/Syntax$CastType"), (.object "com/example/ratatoskr/ratatoskr/query/Syntax$CastType"), (.array (.object "com/example/ratatoskr/ratatoskr/query/Syntax$CastType"))]
  resolved := Array.replicate 101 none
  statics := some 0 }

def pool7 : Array CpInfo := pool [(1, u "java/lang/Cloneable"), (0, .class_ 1), (0, u "java/lang/Object"), (0, .class_ 3)] 3

/-- java/lang/Cloneable -/
def k7 : Class := { plain "java/lang/Cloneable" (some 0) with
  accessFlags := 1537
  interfaces := #[]
  cf := some (fileOf pool7 2 #[] #[] 1537 4 #[] #[])
  fields := #[]
  methods := #[]
  instanceTypes := #[]
  staticTypes := #[]
  resolved := Array.replicate 8 none
  statics := none }

/-- the primitive boolean -/
def k8 : Class := { plain "boolean" none with kind := .primitive 'Z', accessFlags := 0x411 }
/-- [Z -/
def k9 : Class := { plain "[Z" (some 0) with kind := .array 8 .boolean, interfaces := #[7, 4], accessFlags := 1041 }

/-- the primitive byte -/
def k10 : Class := { plain "byte" none with kind := .primitive 'B', accessFlags := 0x411 }
/-- [B -/
def k11 : Class := { plain "[B" (some 0) with kind := .array 10 .byte, interfaces := #[7, 4], accessFlags := 1041 }

/-- the primitive int -/
def k12 : Class := { plain "int" none with kind := .primitive 'I', accessFlags := 0x411 }
/-- [I -/
def k13 : Class := { plain "[I" (some 0) with kind := .array 12 .int, interfaces := #[7, 4], accessFlags := 1041 }

/-- [Lcom/example/ratatoskr/ratatoskr/query/Syntax$CastType; -/
def k14 : Class := { plain "[Lcom/example/ratatoskr/ratatoskr/query/Syntax$CastType;" (some 0) with kind := .array 6 (.object "com/example/ratatoskr/ratatoskr/query/Syntax$CastType"), interfaces := #[7, 4], accessFlags := 1041 }

def heap : Heap := #[{ cls := 6, slots := #[.ref 1, .ref 2, .ref 3, .ref 4, .ref 5, .ref 6, .ref 7, .ref 8, .ref 9, .ref 10, .ref 11, .null], vm := .statics 6 },
  { cls := 6, slots := #[.null, .int 0, .int 0, .null], vm := .none },
  { cls := 6, slots := #[.null, .int 1, .int 0, .null], vm := .none },
  { cls := 6, slots := #[.null, .int 2, .int 0, .null], vm := .none },
  { cls := 6, slots := #[.null, .int 3, .int 0, .null], vm := .none },
  { cls := 6, slots := #[.null, .int 4, .int 0, .null], vm := .none },
  { cls := 6, slots := #[.null, .int 5, .int 0, .null], vm := .none },
  { cls := 6, slots := #[.null, .int 6, .int 0, .null], vm := .none },
  { cls := 6, slots := #[.null, .int 7, .int 0, .null], vm := .none },
  { cls := 6, slots := #[.null, .int 8, .int 0, .null], vm := .none },
  { cls := 6, slots := #[.null, .int 9, .int 0, .null], vm := .none },
  { cls := 6, slots := #[.null, .int 10, .int 0, .null], vm := .none }]
def classes : Array Class := #[k0, k1, k2, k3, k4, k5, k6, k7, k8, k9, k10, k11, k12, k13, k14]
def interned : List (Array UInt16 × Addr) := []
def slotsUsed : Nat := 56
def theMethod : MethodId := ⟨1, 1⟩
def args0 : Array Value := #[.int 5]
def aboutOver (below : List Frame) : State where
  vm := { classes := classes, interned := interned.toArray }
  heap := heap
  slotsUsed := slotsUsed
  threads := #[{ frames := .invoking theMethod args0 :: below }]
def below0 : List Frame := [.native { method := ⟨0, 0⟩, args := #[] }]
def about1 : State := aboutOver below0
def p0 : Program := .bare "" "" ""
def e0 : Env := launch0.env 0 0 0
theorem w_frames : about1.frames = Frame.invoking theMethod args0 :: below0 := rfl
set_option maxRecDepth 65536 in
theorem w_args : argsFit about1.vm theMethod args0 = true := by decide +kernel
set_option maxRecDepth 65536 in
theorem w_heap : heapFits about1 = true := by decide +kernel
set_option maxRecDepth 65536 in
theorem w_runnable : about1.curStatus? = some .runnable := by decide +kernel
set_option maxRecDepth 65536 in
theorem w_alone : about1.alone = true := by decide +kernel
set_option maxRecDepth 65536 in
theorem w_named : about1.methodNamed? x = some theMethod := by decide +kernel
set_option maxRecDepth 65536 in
theorem w_hears : about1.hears theMethod below0 = true := by decide +kernel
set_option maxRecDepth 65536 in
theorem w_ripe : about1.ripe theMethod args0 below0 = true := by decide +kernel
theorem w_running : about1.status = .running := rfl
set_option maxRecDepth 65536 in
theorem w_room : about1.hasRoom e0.platform room_1 = true :=
  launch0.hasRoom_least _ room_1 (by decide +kernel) (by decide +kernel) (by decide +kernel) (by decide +kernel) (by decide +kernel) (by decide +kernel)
theorem allAtoms_all (ts : List Jvm.Cond) (a : Array Jvm.Value) (st : Jvm.State) : (allAtoms ts).before a st = ts.all (fun c => c.before a st) := by
  induction ts with
  | nil => rfl
  | cons c t ih =>
    show (Jvm.Cond.and c (allAtoms t)).before a st = _
    rw [Jvm.Cond.before_and, ih, List.all_cons]
def words1 : List Jvm.Cond := Jvm.Cond.code x code maxLocals ret :: tables_1
/-- a 'code' word, met by the world's own term for the bytes: nothing is compared byte by byte -/
theorem code_word {y : MethodName} {bytes : ByteArray} {mx : Nat} {rt : Option FieldType} {a : Array Value} {s : State} {m : MethodId} {meth : Method} {c : Code} (h1 : s.methodNamed? y = some m) (h2 : s.vm.method? m = some meth) (h3 : meth.code = some c) (h4 : c.code = bytes)
    (h5 : (c.maxLocals == mx && c.exceptionTable.isEmpty && decide (c.maxStack ≤ mostOperands) && decide (meth.sig.returnType = rt) && !meth.locks && decide (parseMethodDescriptor y.desc = some meth.sig)) = true) : (Jvm.Cond.code y bytes mx rt).before a s = true := by
  simp only [Bool.and_eq_true, beq_iff_eq, Bool.not_eq_true', decide_eq_true_eq] at h5
  obtain ⟨⟨⟨⟨⟨g1, g2⟩, g3⟩, g4⟩, g5⟩, g6⟩ := h5
  simp [Cond.before, Cond.holds, Cond.value, h1, h2, h3, h4, g1, g2, g3, g4, g5, g6]
def isCode : Jvm.Cond → Bool
  | .code _ _ _ _ => true
  | _ => false
theorem all_split {L : List Jvm.Cond} {P : Jvm.Cond → Bool} (h1 : L.all (fun c => isCode c || P c) = true) (h2 : ∀ c ∈ L.filter isCode, P c = true) : L.all P = true := by
  refine List.all_eq_true.mpr fun c hc => ?_
  have h := List.all_eq_true.mp h1 c hc
  rcases Bool.eq_false_or_eq_true (isCode c) with hi | hi
  · exact h2 c (List.mem_filter.mpr ⟨hc, hi⟩)
  · simpa [hi] using h
set_option maxRecDepth 65536 in
theorem w_c0 : (Jvm.Cond.code x code maxLocals ret).before args0 about1 = true := code_word (m := ⟨1, 1⟩) (meth := k1m1) (c := k1c1) (by decide +kernel) rfl rfl rfl (by decide +kernel)
set_option maxRecDepth 65536 in
theorem w_c1 : (Jvm.Cond.code ({ cls := "com/example/ratatoskr/ratatoskr/query/Syntax$CastType", name := "hasLength", desc := "()Z" } : Jvm.MethodName) prog_78_method_5_code (1 : Nat) (Option.some Jvm.ClassFile.FieldType.boolean)).before args0 about1 = true := code_word (m := ⟨6, 0⟩) (meth := k6m0) (c := k6c0) (by decide +kernel) rfl rfl rfl (by decide +kernel)
def codes1 : List Jvm.Cond := [Jvm.Cond.code x code maxLocals ret, Jvm.Cond.code ({ cls := "com/example/ratatoskr/ratatoskr/query/Syntax$CastType", name := "hasLength", desc := "()Z" } : Jvm.MethodName) prog_78_method_5_code (1 : Nat) (Option.some Jvm.ClassFile.FieldType.boolean)]
set_option maxRecDepth 65536 in
theorem codes_eq : words1.filter isCode = codes1 := rfl
theorem w_codes : ∀ c ∈ words1.filter isCode, c.before args0 about1 = true := by
  rw [codes_eq]
  intro c hc
  simp only [codes1, List.mem_cons, List.not_mem_nil, or_false] at hc
  rcases hc with rfl | rfl
  · exact w_c0
  · exact w_c1
set_option maxRecDepth 65536 in
theorem w_t1 : (words1.take 24).all (fun c => isCode c || c.before args0 about1) = true := by decide +kernel
set_option maxRecDepth 65536 in
theorem w_t2 : (words1.drop 24).all (fun c => isCode c || c.before args0 about1) = true := by decide +kernel
theorem w_tables : (allAtoms (Jvm.Cond.code x code maxLocals ret :: tables_1)).before args0 about1 = true := by
  rw [allAtoms_all]
  show words1.all (fun c => c.before args0 about1) = true
  refine all_split ?_ w_codes
  rw [← List.take_append_drop 24 words1, List.all_append, w_t1, w_t2]
  rfl
set_option maxRecDepth 65536 in
theorem w_case : (Jvm.Cond.and given_1 narrow_1).before args0 about1 = true := by decide +kernel
theorem w_applies : (headSpec (Jvm.Cond.code x code maxLocals ret :: tables_1) room_1).applies x e0.platform about1 = true :=
  (Spec.applies_iff w_frames).mpr ⟨w_running, w_runnable, w_alone, w_named, w_hears, w_ripe, w_room, w_tables⟩
theorem atStart : AtStart classFile x code maxLocals ret World_1 tables_1 room_1 Calls_1 rest_1 Pre_1 launch0 p0 e0 about1 theMethod args0 below0 :=
  ⟨lists_1, trivial, launch0.admits_env _ _ _, launch0.least_env, fairChoices_fair.cas, fairChoices_fair.clock, w_frames, w_args, w_heap, w_applies, trivial, trivial, w_case⟩
end start1
theorem witness_1 : WitnessClaimed_1 := ⟨start1.p0, start1.e0, start1.about1, start1.theMethod, start1.args0, start1.below0, start1.atStart⟩
end Jvm.Pilot.@@N@@
