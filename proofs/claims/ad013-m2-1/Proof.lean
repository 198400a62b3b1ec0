import JvmDerived
import JvmDerived.Pilot.@@N@@Statement
import JvmDerived.Pilot.@@N@@Code
set_option linter.unusedVariables false
set_option linter.unusedSimpArgs false
namespace Jvm.RoadKit
open Sem ClassFile Op Lib Jvm.Stand Jvm.Free Jvm.LawKit
section New
variable {p : Program} {l : Launch} {e : Env} {R : Room} {s : State} {m : MethodId} {args : Array Value} {below : List Frame} {meth : Method} {c : Code} {T : State} {locs : List Loc} {cells slots : Nat}
theorem retI (X : Stand p l e R s m args below meth c T locs cells slots) (hx : p.tables.exec = Jvm.exec) {pc : Nat} {Ls : Array Slot} {z : Int32} {rest : List Value} (hret : meth.sig.returnType = some .int) (hd : decode c.code pc = .ok (.ireturn, 1)) {fs : List Frame}
    (hl : ∀ (f : JFrame) (acts : List Action), f.method = m → f.locked = none → f.entered = [] → (doReturn e (T.setTop f) acts (some (.int z))).1 = T.setFrames fs) : Steps p.tables e below (T.setTop (mkF m pc Ls (.int z :: rest))) (T.setFrames fs) :=
  retOut X hx hret rfl (Or.inl ⟨rfl, Or.inl rfl, z, rfl⟩) hd hl
end New
end Jvm.RoadKit
namespace Jvm.Pilot.@@N@@
open Jvm Jvm.ClassFile Sem Op Lib Jvm.Free Jvm.Stand Jvm.LawKit Jvm.RoadKit Bundle Jvm.Pilot.@@N@@.Jvm.D
section Own
variable {Z : State} {h h' : Heap} {a : Addr} {C n d : String} {v : Value} {ws : List Addr}
theorem ow {a0 : Array Value} (hw : ∀ d ∈ tables_1, d.before a0 Z = true) {d : Jvm.Cond} (i : Nat) (h : tables_1[i]? = some d) : d.before a0 Z = true := hw _ (List.mem_of_getElem? h)
abbrev oS (p : Program) (e : Env) (below : List Frame) (T : State) (m : MethodId) (pc : Nat) (Ls : Array Slot) (st : List Value) (t : State) : Prop := Steps p.tables e below (T.setTop (mkF m pc Ls st)) t
def own_Plain (h : Heap) (a : Addr) : Prop := ∀ cell : Cell, h[a]? = some cell → cell.vm.isStatics = false
theorem own_plain_E (F : Exa Z h a C) : own_Plain h a := fun cell hc => by
  obtain ⟨c1, _, h1, -, -, h4, -⟩ := F
  cases hc.symm.trans h1; exact h4
theorem own_plain_F (F : Fld Z h a C n d v) : own_Plain h a := fun cell hc => by
  obtain ⟨c1, _, _, _, _, h1, -, -, -, h4, -⟩ := F
  cases hc.symm.trans h1; exact h4
theorem own_plain_V {k : ClassId} {ty : FieldType} {z : Int32} {vs : List Value} {dv : Value} (F : Arv Z h a k ty z vs dv) : own_Plain h a := fun cell hc => by
  obtain ⟨c1, A, -⟩ := F
  cases hc.symm.trans A.1; exact A.plain
theorem own_sta_keep (F : Sta Z h C n d v) (K : Keep h h' ws) (q : ∀ x ∈ ws, own_Plain h x) : Sta Z h' C n d v := by
  obtain ⟨cf, i, k, f, st, cell, h1, h2, h3, h4, h5, h6, h7⟩ := F
  exact ⟨cf, i, k, f, st, cell, h1, h2, h3, h4, K.2.1 _ _ h5 (fun hm => by rw [q _ hm _ h5] at h6; cases h6), h6, h7⟩
theorem own_ne_EV {a0 : Array Value} {j : Nat} {b : Addr} {k : ClassId} {ty : FieldType} {z : Int32} {vs : List Value} {dv : Value} (F : Exa Z h a C) (wi : (Jvm.Cond.instantiable C j).before a0 Z = true) (G : Arv Z h b k ty z vs dv) : a ≠ b := by
  obtain ⟨c, A, -⟩ := G
  exact ne_arr F wi A
theorem own_mvM {s : State} {a0 args : Array Value} {own host : String} {y : MethodName} {index : Nat} (hZ : Z.Warmed39 s.vm) (w : (Jvm.Cond.methodLinkNest own index y host).before a0 Z = true) : (Jvm.Cond.methodLinkNest own index y host).before args s = true := (Cond.methodLinkNest_wide hZ w :)
theorem own_arr_keep {c : Cell} {ty : FieldType} (F : Arr Z h a c ty) (K : Keep h h' ws) (q : a ∉ ws) : Arr Z h' a c ty := ⟨K.2.1 _ _ F.1 q, F.2⟩
theorem own_ins_keep {b : Bool} (F : Ins Z h a C b) (K : Keep h h' ws) : Ins Z h' a C b := by
  obtain ⟨cell, cT, h1, h2, h3⟩ := F
  obtain ⟨c', e1, e2, e3, -⟩ := K.2.2 _ _ h1
  exact ⟨c', cT, e1, h2, by rw [e2, e3]; exact h3⟩
end Own
abbrev yN0 : MethodName := ⟨"com/example/vaxwire/vaxwire/match/Trait", "identifies", "()Z"⟩
theorem own_mod (x y : Int32) (k : Int) (hy : y.toInt = k) (hk : 0 < k) : 0 ≤ ((x &&& (2147483647 : Int32)) % y).toInt ∧ ((x &&& (2147483647 : Int32)) % y).toInt < k := by
  have h1 := c_mask x (2147483647 : Int32) 31 (by decide) (by decide)
  have h2 : 0 ≤ (x &&& (2147483647 : Int32)).toInt := by rw [h1]; omega
  have h3 := (c_irem (x &&& (2147483647 : Int32)) y k hy).1 h2
  rw [h3]
  exact ⟨Int.emod_nonneg _ (by omega), Int.emod_lt_of_pos _ hk⟩
theorem own_mask (x m : Int32) (k : Nat) (hk : k ≤ 31) (hm : m.toBitVec.toNat = 2 ^ k - 1) : 0 ≤ (x &&& m).toInt ∧ (x &&& m).toInt < (2 ^ k : Nat) := by
  rw [c_mask x m k hk hm]
  exact ⟨Int.emod_nonneg _ (by have := Nat.two_pow_pos k; omega), Int.emod_lt_of_pos _ (by have := Nat.two_pow_pos k; omega)⟩
theorem own_in8 {y : Int32} (h0 : 0 ≤ y.toInt) (h1 : y.toInt < 8) : y = (0 : Int32) ∨ y = (1 : Int32) ∨ y = (2 : Int32) ∨ y = (3 : Int32) ∨ y = (4 : Int32) ∨ y = (5 : Int32) ∨ y = (6 : Int32) ∨ y = (7 : Int32) := by
  have h : y.toInt = 0 ∨ y.toInt = 1 ∨ y.toInt = 2 ∨ y.toInt = 3 ∨ y.toInt = 4 ∨ y.toInt = 5 ∨ y.toInt = 6 ∨ y.toInt = 7 := by omega
  rcases h with h | h | h | h | h | h | h | h
  · exact Or.inl (Int32.toInt_inj.mp (h.trans (by decide)))
  · exact Or.inr (Or.inl (Int32.toInt_inj.mp (h.trans (by decide))))
  · exact Or.inr (Or.inr (Or.inl (Int32.toInt_inj.mp (h.trans (by decide)))))
  · exact Or.inr (Or.inr (Or.inr (Or.inl (Int32.toInt_inj.mp (h.trans (by decide))))))
  · exact Or.inr (Or.inr (Or.inr (Or.inr (Or.inl (Int32.toInt_inj.mp (h.trans (by decide)))))))
  · exact Or.inr (Or.inr (Or.inr (Or.inr (Or.inr (Or.inl (Int32.toInt_inj.mp (h.trans (by decide))))))))
  · exact Or.inr (Or.inr (Or.inr (Or.inr (Or.inr (Or.inr (Or.inl (Int32.toInt_inj.mp (h.trans (by decide)))))))))
  · exact Or.inr (Or.inr (Or.inr (Or.inr (Or.inr (Or.inr (Or.inr (Int32.toInt_inj.mp (h.trans (by decide)))))))))
theorem d1_0 : decode prog_69_method_7_code 0 = .ok (.aload_n 0, 1) := by decide +kernel
theorem d1_1 : decode prog_69_method_7_code 1 = .ok (.getfield 56, 3) := by decide +kernel
theorem d1_4 : decode prog_69_method_7_code 4 = .ok (.iconst 3, 1) := by decide +kernel
theorem d1_5 : decode prog_69_method_7_code 5 = .ok (.if_icmp .ne 7, 3) := by decide +kernel
theorem d1_12 : decode prog_69_method_7_code 12 = .ok (.iconst 0, 1) := by decide +kernel
theorem d1_13 : decode prog_69_method_7_code 13 = .ok (.ireturn, 1) := by decide +kernel
theorem pn_0 : plainName "com/example/vaxwire/vaxwire/match/Trait" = true := by first | (simp [plainName, overriddenIn]; done) | decide +kernel
theorem ef_idN (m : MethodId) (pR1 : Addr) : entryFrame m #[(.ref pR1)] 1 = mkF m 0 #[.val (.ref pR1)] [] := by first | (simp [entryFrame, mkF, argsToLocals, Value.category]; done) | rfl
def QidN (Z : State) (pR1 : Addr) (pI2 : Int32) (h0 : Heap) (n0 : Nat) (v : Option Value) (h : Heap) (L : List Loc) : Prop := v = some (.int (0 : Int32)) ∧ Fr n0 L ∧ h = h0
set_option maxRecDepth 65536 in
set_option maxHeartbeats 40000000 in
theorem idN (l : Launch) (Z : State) (a0 : Array Value) (hw : ∀ d ∈ tables_1, d.before a0 Z = true) (ws : List Jvm.Cond) (pR1 : Addr) (pI2 : Int32) (h0 : Heap) (n0 : Nat) (Z0 : n0 ≤ h0.size) (F_pidField_pR1 : Fld Z h0 pR1 "com/example/vaxwire/vaxwire/match/Trait" "pidField" "I" (.int pI2)) (hc5 : ¬ (pI2 = (3 : Int32))) :
    MetFree l yN0 (head1 (Jvm.Cond.code yN0 prog_69_method_7_code 1 (some .boolean) :: ws) ({ frames := 0, cells := 0, slots := 0, locals := 0 } : Room)) (fun a U => a = #[(.ref pR1)] ∧ Z.Warmed39 U.vm ∧ U.heap = h0) (fun _ _ _ _ _ => True) (fun _ U o U' => ∃ v L, o = .returned v ∧ QidN Z pR1 pI2 h0 n0 v U'.heap L ∧ FrameEnd U o U' L ({ frames := 0, cells := 0, slots := 0, locals := 0 } : Room).cells ({ frames := 0, cells := 0, slots := 0, locals := 0 } : Room).slots) := by
  refine MetFree.of_bodySF (plainFor_of_name pn_0) hisR ?_
  intro p e s m args below meth c s₁ Bd hml0 hP hK
  obtain ⟨rfl, hZ, hh⟩ := hP
  have hx := Bd.exec
  have hby := Bd.bytes
  have hml : c.maxLocals = 1 := hml0
  have hown : s.vm.findClass "com/example/vaxwire/vaxwire/match/Trait" = some m.cls := findClass_of_methodNamed Bd.named
  have hnm := (name_of_methodNamed Bd.named Bd.method).1
  have X0 : Stand p l e ({ frames := 0, cells := 0, slots := 0, locals := 0 } : Room) s m #[(.ref pR1)] below meth c s₁ [] 0 0 := Stand.of_body Bd
  have e0 : s₁.heap = h0 := by rw [← hh, Bd.state]; rfl
  have N0 := Fr.nil n0
  have pre0 : ∀ t, Steps p.tables e below (s₁.setTop (mkF m 0 #[.val (.ref pR1)] [])) t → Steps p.tables e below (s₁.setTop (entryFrame m #[(.ref pR1)] 1)) t := fun t k => castTop (ef_idN m pR1) k
  obtain ⟨T3, X3, e3, st3⟩ := getF X0 hx hZ hown (host := "") (Or.inl (ow hw 8 rfl)) Via.refl e0 F_pidField_pR1 (g := (mkF m 1 #[.val (.ref pR1)] [(.ref pR1)])) rfl rfl (hb hby d1_1)
  obtain ⟨fs, hr, hrun, hended, hW, hsame⟩ := X3.leave (v := some (.int (0 : Int32))) (fun h => by rw [Bd.returns] at h; cases h)
  refine ⟨_, _, pre0 _ ?_, hrun, hended, _, _, rfl, ?_, ⟨_, rfl⟩, hW, hsame.mono (by decide) (by decide)⟩
  · show oS p e below s₁ m 0 #[.val (.ref pR1)] [] _
    refine XS.aloadN X0.here hx rfl (hb hby d1_0) rfl rfl ?_
    show oS p e below s₁ m 1 #[.val (.ref pR1)] [(.ref pR1)] _
    refine st3 _ ?_
    show oS p e below T3 m 4 #[.val (.ref pR1)] [(.int pI2)] _
    refine XS.iconst X3.here hx rfl (hb hby d1_4) ?_
    show oS p e below T3 m 5 #[.val (.ref pR1)] [(.int (3 : Int32)), (.int pI2)] _
    refine XS.icmpYes X3.here hx rfl (pc0 := 5) (pc' := 12) rfl (hb hby d1_5) rfl (feq hc5).2 (by decide) (by decide) ?_
    show oS p e below T3 m 12 #[.val (.ref pR1)] [] _
    refine XS.iconst X3.here hx rfl (hb hby d1_12) ?_
    show oS p e below T3 m 13 #[.val (.ref pR1)] [(.int (0 : Int32))] _
    exact retN X3 hx (t := .boolean) Bd.returns (by simp) (hb hby d1_13) hr
  · show QidN Z pR1 pI2 h0 n0 _ T3.heap _
    rw [e3]
    exact ⟨rfl, N0, rfl⟩
theorem d1_8 : decode prog_69_method_7_code 8 = .ok (.iconst 1, 1) := by decide +kernel
theorem d1_9 : decode prog_69_method_7_code 9 = .ok (.goto 4, 3) := by decide +kernel
theorem ef_idY (m : MethodId) (pR1 : Addr) : entryFrame m #[(.ref pR1)] 1 = mkF m 0 #[.val (.ref pR1)] [] := by first | (simp [entryFrame, mkF, argsToLocals, Value.category]; done) | rfl
def QidY (Z : State) (pR1 : Addr) (h0 : Heap) (n0 : Nat) (v : Option Value) (h : Heap) (L : List Loc) : Prop := v = some (.int (1 : Int32)) ∧ Fr n0 L ∧ h = h0
set_option maxRecDepth 65536 in
set_option maxHeartbeats 40000000 in
theorem idY (l : Launch) (Z : State) (a0 : Array Value) (hw : ∀ d ∈ tables_1, d.before a0 Z = true) (ws : List Jvm.Cond) (pR1 : Addr) (h0 : Heap) (n0 : Nat) (Z0 : n0 ≤ h0.size) (F_pidField_pR1 : Fld Z h0 pR1 "com/example/vaxwire/vaxwire/match/Trait" "pidField" "I" (.int (3 : Int32))) :
    MetFree l yN0 (head1 (Jvm.Cond.code yN0 prog_69_method_7_code 1 (some .boolean) :: ws) ({ frames := 0, cells := 0, slots := 0, locals := 0 } : Room)) (fun a U => a = #[(.ref pR1)] ∧ Z.Warmed39 U.vm ∧ U.heap = h0) (fun _ _ _ _ _ => True) (fun _ U o U' => ∃ v L, o = .returned v ∧ QidY Z pR1 h0 n0 v U'.heap L ∧ FrameEnd U o U' L ({ frames := 0, cells := 0, slots := 0, locals := 0 } : Room).cells ({ frames := 0, cells := 0, slots := 0, locals := 0 } : Room).slots) := by
  refine MetFree.of_bodySF (plainFor_of_name pn_0) hisR ?_
  intro p e s m args below meth c s₁ Bd hml0 hP hK
  obtain ⟨rfl, hZ, hh⟩ := hP
  have hx := Bd.exec
  have hby := Bd.bytes
  have hml : c.maxLocals = 1 := hml0
  have hown : s.vm.findClass "com/example/vaxwire/vaxwire/match/Trait" = some m.cls := findClass_of_methodNamed Bd.named
  have hnm := (name_of_methodNamed Bd.named Bd.method).1
  have X0 : Stand p l e ({ frames := 0, cells := 0, slots := 0, locals := 0 } : Room) s m #[(.ref pR1)] below meth c s₁ [] 0 0 := Stand.of_body Bd
  have e0 : s₁.heap = h0 := by rw [← hh, Bd.state]; rfl
  have N0 := Fr.nil n0
  have pre0 : ∀ t, Steps p.tables e below (s₁.setTop (mkF m 0 #[.val (.ref pR1)] [])) t → Steps p.tables e below (s₁.setTop (entryFrame m #[(.ref pR1)] 1)) t := fun t k => castTop (ef_idY m pR1) k
  obtain ⟨T2, X2, e2, st2⟩ := getF X0 hx hZ hown (host := "") (Or.inl (ow hw 8 rfl)) Via.refl e0 F_pidField_pR1 (g := (mkF m 1 #[.val (.ref pR1)] [(.ref pR1)])) rfl rfl (hb hby d1_1)
  obtain ⟨fs, hr, hrun, hended, hW, hsame⟩ := X2.leave (v := some (.int (1 : Int32))) (fun h => by rw [Bd.returns] at h; cases h)
  refine ⟨_, _, pre0 _ ?_, hrun, hended, _, _, rfl, ?_, ⟨_, rfl⟩, hW, hsame.mono (by decide) (by decide)⟩
  · show oS p e below s₁ m 0 #[.val (.ref pR1)] [] _
    refine XS.aloadN X0.here hx rfl (hb hby d1_0) rfl rfl ?_
    show oS p e below s₁ m 1 #[.val (.ref pR1)] [(.ref pR1)] _
    refine st2 _ ?_
    show oS p e below T2 m 4 #[.val (.ref pR1)] [(.int (3 : Int32))] _
    refine XS.iconst X2.here hx rfl (hb hby d1_4) ?_
    show oS p e below T2 m 5 #[.val (.ref pR1)] [(.int (3 : Int32)), (.int (3 : Int32))] _
    refine XS.icmpNo X2.here hx rfl (hb hby d1_5) rfl (teq (by decide : (3 : Int32) = (3 : Int32))).2 ?_
    show oS p e below T2 m 8 #[.val (.ref pR1)] [] _
    refine XS.iconst X2.here hx rfl (hb hby d1_8) ?_
    show oS p e below T2 m 9 #[.val (.ref pR1)] [(.int (1 : Int32))] _
    refine XS.goto X2.here hx rfl (pc0 := 9) (pc' := 13) rfl (hb hby d1_9) (by decide) (by decide) ?_
    show oS p e below T2 m 13 #[.val (.ref pR1)] [(.int (1 : Int32))] _
    exact retN X2 hx (t := .boolean) Bd.returns (by simp) (hb hby d1_13) hr
  · show QidY Z pR1 h0 n0 _ T2.heap _
    rw [e2]
    exact ⟨rfl, N0, rfl⟩
theorem pd_0 : parseMethodDescriptor "()Z" = some ⟨[], some .boolean⟩ := by decide +kernel
theorem pn_1 : plainName "com/example/vaxwire/vaxwire/match/TraitIdentifiesPinLaw" = true := by first | (simp [plainName, overriddenIn]; done) | decide +kernel
theorem ef_law0 (m : MethodId) (pI1 : Int32) : entryFrame m #[(.int pI1)] maxLocals = mkF m 0 #[.val (.int pI1), .unset, .unset, .unset] [] := by first | (simp [entryFrame, mkF, argsToLocals, Value.category, maxLocals]; done) | rfl
def Qlaw0 (Z : State) (pI1 : Int32) (pR2 : Addr) (h0 : Heap) (n0 : Nat) (v : Option Value) (h : Heap) (L : List Loc) : Prop := v = some (.int (1 : Int32)) ∧ Fr n0 L
set_option maxRecDepth 65536 in
set_option maxHeartbeats 40000000 in
theorem law0 (l : Launch) (Z : State) (a0 : Array Value) (hw : ∀ d ∈ tables_1, d.before a0 Z = true) (ws : List Jvm.Cond) (pI1 : Int32) (pR2 : Addr) (h0 : Heap) (n0 : Nat) (Z0 : n0 ≤ h0.size) (S_Trait_SOCIAL_SECURITY_NUMBER : Sta Z h0 "com/example/vaxwire/vaxwire/match/Trait" "SOCIAL_SECURITY_NUMBER" "Lcom/example/vaxwire/vaxwire/match/Trait;" (.ref pR2)) (F_pidField_pR2 : Fld Z h0 pR2 "com/example/vaxwire/vaxwire/match/Trait" "pidField" "I" (.int (3 : Int32))) (E_pR2 : Exa Z h0 pR2 "com/example/vaxwire/vaxwire/match/Trait") (hc3 : (pI1 &&& (7 : Int32)) = (0 : Int32)) :
    MetFree l x (head1 (Jvm.Cond.code x code maxLocals ret :: ws) room_1) (fun a U => a = #[(.int pI1)] ∧ Z.Warmed39 U.vm ∧ U.heap = h0) (fun _ _ _ _ _ => True) (fun _ U o U' => ∃ v L, o = .returned v ∧ Qlaw0 Z pI1 pR2 h0 n0 v U'.heap L ∧ FrameEnd U o U' L room_1.cells room_1.slots) := by
  refine MetFree.of_bodySF (plainFor_of_name pn_1) hisR ?_
  intro p e s m args below meth c s₁ Bd hml0 hP hK
  obtain ⟨rfl, hZ, hh⟩ := hP
  have hx := Bd.exec
  have hby := Bd.bytes
  have hml : c.maxLocals = 4 := hml0
  have hown : s.vm.findClass "com/example/vaxwire/vaxwire/match/TraitIdentifiesPinLaw" = some m.cls := findClass_of_methodNamed Bd.named
  have hnm := (name_of_methodNamed Bd.named Bd.method).1
  have X0 : Stand p l e room_1 s m #[(.int pI1)] below meth c s₁ [] 0 0 := Stand.of_body Bd
  have e0 : s₁.heap = h0 := by rw [← hh, Bd.state]; rfl
  have N0 := Fr.nil n0
  have pre0 : ∀ t, Steps p.tables e below (s₁.setTop (mkF m 0 #[.val (.int pI1), .unset, .unset, .unset] [])) t → Steps p.tables e below (s₁.setTop (entryFrame m #[(.int pI1)] maxLocals)) t := fun t k => castTop (ef_law0 m pI1) k
  obtain ⟨T3, X3, e3, st3⟩ := getS2 X0 hx hZ hown (host := "") (Or.inl (ow hw 0 rfl)) Via.refl e0 S_Trait_SOCIAL_SECURITY_NUMBER (g := (mkF m 9 #[.val (.int pI1), .val (.int (0 : Int32)), .unset, .unset] [])) rfl (hb hby at_9)
  obtain ⟨cq4, kq4, q4a, q4b, q4c⟩ := isOf hZ e3 E_pR2
  obtain ⟨_, _, ⟨T4, L4, k4, n4⟩, -, X4, ⟨Lc4, hQ4, l4, y4, z4⟩, st4⟩ := X3.virtualBack hx (y := yN0) (z := yN0) hown (mvT hZ (ow hw 3 rfl)) (mvT hZ (ow hw 4 rfl)) (notFace_of_selects (args := #[]) (mvT hZ (ow hw 6 rfl))) (mvT hZ (ow hw 6 rfl)) (mvT hZ (ow hw 5 rfl)) (by decide) (backOf (W := 0) (idY l Z a0 hw [] pR2 h0 n0 Z0 F_pidField_pR2) hZ (ow hw 7 rfl) (ow hw 1 rfl) (by decide) (by decide)) q4a q4c (g := (mkF m 110 #[.val (.int pI1), .val (.int (0 : Int32)), .val (.ref pR2), .val (.int (1 : Int32))] [(.ref pR2)])) rfl (by rw [hml]; rfl) (Steps.refl _) (argsL := []) (rest := []) (lenOf pd_0 rfl) rfl (by show 2 * 0 + _ ≤ _; exact Nat.le_of_eq rfl) (hb hby at_110) (fun _ _ => ⟨rfl, e3, (by decide : 0 + 0 ≤ _), (by decide : 0 + 0 ≤ _)⟩)
  dsimp only [Pt.U, Pt.locs, Pt.cells, Pt.slots] at X4 l4 y4 z4 st4 hQ4
  subst l4 y4 z4
  obtain ⟨rfl, Nq4, e4⟩ := hQ4
  have N4 := Fr.app N0 Nq4
  obtain ⟨fs, hr, hrun, hended, hW, hsame⟩ := X4.leave (v := some (.int (1 : Int32))) (fun h => by rw [Bd.returns] at h; cases h)
  refine ⟨_, _, pre0 _ ?_, hrun, hended, _, _, rfl, ?_, ⟨_, rfl⟩, hW, hsame.mono (by decide) (by decide)⟩
  · show oS p e below s₁ m 0 #[.val (.int pI1), .unset, .unset, .unset] [] _
    refine XS.iloadN X0.here hx rfl (hb hby at_0) rfl ?_
    show oS p e below s₁ m 1 #[.val (.int pI1), .unset, .unset, .unset] [(.int pI1)] _
    refine XS.bipush X0.here hx rfl (hb hby at_1) ?_
    show oS p e below s₁ m 3 #[.val (.int pI1), .unset, .unset, .unset] [(.int (7 : Int32)), (.int pI1)] _
    refine XS.iand X0.here hx rfl (hb hby at_3) rfl ?_
    show Steps p.tables e below (s₁.setTop (mkF m 4 #[.val (.int pI1), .unset, .unset, .unset] [(.int (pI1 &&& (7 : Int32)))])) _
    rw [hc3]
    show oS p e below s₁ m 4 #[.val (.int pI1), .unset, .unset, .unset] [(.int (0 : Int32))] _
    refine XS.istoreN X0.here hx rfl (hb hby at_4) rfl (l' := #[.val (.int pI1), .val (.int (0 : Int32)), .unset, .unset]) rfl ?_
    show oS p e below s₁ m 5 #[.val (.int pI1), .val (.int (0 : Int32)), .unset, .unset] [] _
    refine XS.iloadN X0.here hx rfl (hb hby at_5) rfl ?_
    show oS p e below s₁ m 6 #[.val (.int pI1), .val (.int (0 : Int32)), .unset, .unset] [(.int (0 : Int32))] _
    refine XS.ifNo X0.here hx rfl (hb hby at_6) rfl ((if0 _ _).trans (teq (by decide : (0 : Int32) = (0 : Int32))).2) ?_
    show oS p e below s₁ m 9 #[.val (.int pI1), .val (.int (0 : Int32)), .unset, .unset] [] _
    refine st3 _ ?_
    show oS p e below T3 m 12 #[.val (.int pI1), .val (.int (0 : Int32)), .unset, .unset] [(.ref pR2)] _
    refine XS.astoreN X3.here hx rfl (hb hby at_12) rfl rfl (l' := #[.val (.int pI1), .val (.int (0 : Int32)), .val (.ref pR2), .unset]) rfl ?_
    show oS p e below T3 m 13 #[.val (.int pI1), .val (.int (0 : Int32)), .val (.ref pR2), .unset] [] _
    refine XS.iconst X3.here hx rfl (hb hby at_13) ?_
    show oS p e below T3 m 14 #[.val (.int pI1), .val (.int (0 : Int32)), .val (.ref pR2), .unset] [(.int (1 : Int32))] _
    refine XS.istoreN X3.here hx rfl (hb hby at_14) rfl (l' := #[.val (.int pI1), .val (.int (0 : Int32)), .val (.ref pR2), .val (.int (1 : Int32))]) rfl ?_
    show oS p e below T3 m 15 #[.val (.int pI1), .val (.int (0 : Int32)), .val (.ref pR2), .val (.int (1 : Int32))] [] _
    refine XS.goto X3.here hx rfl (pc0 := 15) (pc' := 109) rfl (hb hby at_15) (by decide) (by decide) ?_
    show oS p e below T3 m 109 #[.val (.int pI1), .val (.int (0 : Int32)), .val (.ref pR2), .val (.int (1 : Int32))] [] _
    refine XS.aloadN X3.here hx rfl (hb hby at_109) rfl rfl ?_
    show oS p e below T3 m 110 #[.val (.int pI1), .val (.int (0 : Int32)), .val (.ref pR2), .val (.int (1 : Int32))] [(.ref pR2)] _
    refine st4.trans ?_
    show oS p e below T4 m 113 #[.val (.int pI1), .val (.int (0 : Int32)), .val (.ref pR2), .val (.int (1 : Int32))] [(.int (1 : Int32))] _
    refine XS.iloadN X4.here hx rfl (hb hby at_113) rfl ?_
    show oS p e below T4 m 114 #[.val (.int pI1), .val (.int (0 : Int32)), .val (.ref pR2), .val (.int (1 : Int32))] [(.int (1 : Int32)), (.int (1 : Int32))] _
    refine XS.icmpNo X4.here hx rfl (hb hby at_114) rfl (teq (by decide : (1 : Int32) = (1 : Int32))).2 ?_
    show oS p e below T4 m 117 #[.val (.int pI1), .val (.int (0 : Int32)), .val (.ref pR2), .val (.int (1 : Int32))] [] _
    refine XS.iconst X4.here hx rfl (hb hby at_117) ?_
    show oS p e below T4 m 118 #[.val (.int pI1), .val (.int (0 : Int32)), .val (.ref pR2), .val (.int (1 : Int32))] [(.int (1 : Int32))] _
    refine XS.goto X4.here hx rfl (pc0 := 118) (pc' := 122) rfl (hb hby at_118) (by decide) (by decide) ?_
    show oS p e below T4 m 122 #[.val (.int pI1), .val (.int (0 : Int32)), .val (.ref pR2), .val (.int (1 : Int32))] [(.int (1 : Int32))] _
    exact retN X4 hx (t := .boolean) Bd.returns (by simp) (hb hby at_122) hr
  · show Qlaw0 Z pI1 pR2 h0 n0 _ T4.heap _
    rw [e4]
    exact ⟨rfl, N4⟩
theorem ef_law1 (m : MethodId) (pI1 : Int32) : entryFrame m #[(.int pI1)] maxLocals = mkF m 0 #[.val (.int pI1), .unset, .unset, .unset] [] := by first | (simp [entryFrame, mkF, argsToLocals, Value.category, maxLocals]; done) | rfl
def Qlaw1 (Z : State) (pI1 : Int32) (pR2 : Addr) (h0 : Heap) (n0 : Nat) (v : Option Value) (h : Heap) (L : List Loc) : Prop := v = some (.int (1 : Int32)) ∧ Fr n0 L
set_option maxRecDepth 65536 in
set_option maxHeartbeats 40000000 in
theorem law1 (l : Launch) (Z : State) (a0 : Array Value) (hw : ∀ d ∈ tables_1, d.before a0 Z = true) (ws : List Jvm.Cond) (pI1 : Int32) (pR2 : Addr) (h0 : Heap) (n0 : Nat) (Z0 : n0 ≤ h0.size) (S_Trait_MEDICAL_RECORD_NUMBER : Sta Z h0 "com/example/vaxwire/vaxwire/match/Trait" "MEDICAL_RECORD_NUMBER" "Lcom/example/vaxwire/vaxwire/match/Trait;" (.ref pR2)) (F_pidField_pR2 : Fld Z h0 pR2 "com/example/vaxwire/vaxwire/match/Trait" "pidField" "I" (.int (3 : Int32))) (E_pR2 : Exa Z h0 pR2 "com/example/vaxwire/vaxwire/match/Trait") (hc3 : (pI1 &&& (7 : Int32)) = (1 : Int32)) :
    MetFree l x (head1 (Jvm.Cond.code x code maxLocals ret :: ws) room_1) (fun a U => a = #[(.int pI1)] ∧ Z.Warmed39 U.vm ∧ U.heap = h0) (fun _ _ _ _ _ => True) (fun _ U o U' => ∃ v L, o = .returned v ∧ Qlaw1 Z pI1 pR2 h0 n0 v U'.heap L ∧ FrameEnd U o U' L room_1.cells room_1.slots) := by
  refine MetFree.of_bodySF (plainFor_of_name pn_1) hisR ?_
  intro p e s m args below meth c s₁ Bd hml0 hP hK
  obtain ⟨rfl, hZ, hh⟩ := hP
  have hx := Bd.exec
  have hby := Bd.bytes
  have hml : c.maxLocals = 4 := hml0
  have hown : s.vm.findClass "com/example/vaxwire/vaxwire/match/TraitIdentifiesPinLaw" = some m.cls := findClass_of_methodNamed Bd.named
  have hnm := (name_of_methodNamed Bd.named Bd.method).1
  have X0 : Stand p l e room_1 s m #[(.int pI1)] below meth c s₁ [] 0 0 := Stand.of_body Bd
  have e0 : s₁.heap = h0 := by rw [← hh, Bd.state]; rfl
  have N0 := Fr.nil n0
  have pre0 : ∀ t, Steps p.tables e below (s₁.setTop (mkF m 0 #[.val (.int pI1), .unset, .unset, .unset] [])) t → Steps p.tables e below (s₁.setTop (entryFrame m #[(.int pI1)] maxLocals)) t := fun t k => castTop (ef_law1 m pI1) k
  obtain ⟨T3, X3, e3, st3⟩ := getS2 X0 hx hZ hown (host := "") (Or.inl (ow hw 18 rfl)) Via.refl e0 S_Trait_MEDICAL_RECORD_NUMBER (g := (mkF m 23 #[.val (.int pI1), .val (.int (1 : Int32)), .unset, .unset] [])) rfl (hb hby at_23)
  obtain ⟨cq4, kq4, q4a, q4b, q4c⟩ := isOf hZ e3 E_pR2
  obtain ⟨_, _, ⟨T4, L4, k4, n4⟩, -, X4, ⟨Lc4, hQ4, l4, y4, z4⟩, st4⟩ := X3.virtualBack hx (y := yN0) (z := yN0) hown (mvT hZ (ow hw 3 rfl)) (mvT hZ (ow hw 4 rfl)) (notFace_of_selects (args := #[]) (mvT hZ (ow hw 6 rfl))) (mvT hZ (ow hw 6 rfl)) (mvT hZ (ow hw 5 rfl)) (by decide) (backOf (W := 0) (idY l Z a0 hw [] pR2 h0 n0 Z0 F_pidField_pR2) hZ (ow hw 7 rfl) (ow hw 1 rfl) (by decide) (by decide)) q4a q4c (g := (mkF m 110 #[.val (.int pI1), .val (.int (1 : Int32)), .val (.ref pR2), .val (.int (1 : Int32))] [(.ref pR2)])) rfl (by rw [hml]; rfl) (Steps.refl _) (argsL := []) (rest := []) (lenOf pd_0 rfl) rfl (by show 2 * 0 + _ ≤ _; exact Nat.le_of_eq rfl) (hb hby at_110) (fun _ _ => ⟨rfl, e3, (by decide : 0 + 0 ≤ _), (by decide : 0 + 0 ≤ _)⟩)
  dsimp only [Pt.U, Pt.locs, Pt.cells, Pt.slots] at X4 l4 y4 z4 st4 hQ4
  subst l4 y4 z4
  obtain ⟨rfl, Nq4, e4⟩ := hQ4
  have N4 := Fr.app N0 Nq4
  obtain ⟨fs, hr, hrun, hended, hW, hsame⟩ := X4.leave (v := some (.int (1 : Int32))) (fun h => by rw [Bd.returns] at h; cases h)
  refine ⟨_, _, pre0 _ ?_, hrun, hended, _, _, rfl, ?_, ⟨_, rfl⟩, hW, hsame.mono (by decide) (by decide)⟩
  · show oS p e below s₁ m 0 #[.val (.int pI1), .unset, .unset, .unset] [] _
    refine XS.iloadN X0.here hx rfl (hb hby at_0) rfl ?_
    show oS p e below s₁ m 1 #[.val (.int pI1), .unset, .unset, .unset] [(.int pI1)] _
    refine XS.bipush X0.here hx rfl (hb hby at_1) ?_
    show oS p e below s₁ m 3 #[.val (.int pI1), .unset, .unset, .unset] [(.int (7 : Int32)), (.int pI1)] _
    refine XS.iand X0.here hx rfl (hb hby at_3) rfl ?_
    show Steps p.tables e below (s₁.setTop (mkF m 4 #[.val (.int pI1), .unset, .unset, .unset] [(.int (pI1 &&& (7 : Int32)))])) _
    rw [hc3]
    show oS p e below s₁ m 4 #[.val (.int pI1), .unset, .unset, .unset] [(.int (1 : Int32))] _
    refine XS.istoreN X0.here hx rfl (hb hby at_4) rfl (l' := #[.val (.int pI1), .val (.int (1 : Int32)), .unset, .unset]) rfl ?_
    show oS p e below s₁ m 5 #[.val (.int pI1), .val (.int (1 : Int32)), .unset, .unset] [] _
    refine XS.iloadN X0.here hx rfl (hb hby at_5) rfl ?_
    show oS p e below s₁ m 6 #[.val (.int pI1), .val (.int (1 : Int32)), .unset, .unset] [(.int (1 : Int32))] _
    refine XS.ifYes X0.here hx rfl (pc0 := 6) (pc' := 18) rfl (hb hby at_6) rfl ((if0 _ _).trans (feq (by decide : ¬ ((1 : Int32) = (0 : Int32)))).2) (by decide) (by decide) ?_
    show oS p e below s₁ m 18 #[.val (.int pI1), .val (.int (1 : Int32)), .unset, .unset] [] _
    refine XS.iloadN X0.here hx rfl (hb hby at_18) rfl ?_
    show oS p e below s₁ m 19 #[.val (.int pI1), .val (.int (1 : Int32)), .unset, .unset] [(.int (1 : Int32))] _
    refine XS.iconst X0.here hx rfl (hb hby at_19) ?_
    show oS p e below s₁ m 20 #[.val (.int pI1), .val (.int (1 : Int32)), .unset, .unset] [(.int (1 : Int32)), (.int (1 : Int32))] _
    refine XS.icmpNo X0.here hx rfl (hb hby at_20) rfl (teq (by decide : (1 : Int32) = (1 : Int32))).2 ?_
    show oS p e below s₁ m 23 #[.val (.int pI1), .val (.int (1 : Int32)), .unset, .unset] [] _
    refine st3 _ ?_
    show oS p e below T3 m 26 #[.val (.int pI1), .val (.int (1 : Int32)), .unset, .unset] [(.ref pR2)] _
    refine XS.astoreN X3.here hx rfl (hb hby at_26) rfl rfl (l' := #[.val (.int pI1), .val (.int (1 : Int32)), .val (.ref pR2), .unset]) rfl ?_
    show oS p e below T3 m 27 #[.val (.int pI1), .val (.int (1 : Int32)), .val (.ref pR2), .unset] [] _
    refine XS.iconst X3.here hx rfl (hb hby at_27) ?_
    show oS p e below T3 m 28 #[.val (.int pI1), .val (.int (1 : Int32)), .val (.ref pR2), .unset] [(.int (1 : Int32))] _
    refine XS.istoreN X3.here hx rfl (hb hby at_28) rfl (l' := #[.val (.int pI1), .val (.int (1 : Int32)), .val (.ref pR2), .val (.int (1 : Int32))]) rfl ?_
    show oS p e below T3 m 29 #[.val (.int pI1), .val (.int (1 : Int32)), .val (.ref pR2), .val (.int (1 : Int32))] [] _
    refine XS.goto X3.here hx rfl (pc0 := 29) (pc' := 109) rfl (hb hby at_29) (by decide) (by decide) ?_
    show oS p e below T3 m 109 #[.val (.int pI1), .val (.int (1 : Int32)), .val (.ref pR2), .val (.int (1 : Int32))] [] _
    refine XS.aloadN X3.here hx rfl (hb hby at_109) rfl rfl ?_
    show oS p e below T3 m 110 #[.val (.int pI1), .val (.int (1 : Int32)), .val (.ref pR2), .val (.int (1 : Int32))] [(.ref pR2)] _
    refine st4.trans ?_
    show oS p e below T4 m 113 #[.val (.int pI1), .val (.int (1 : Int32)), .val (.ref pR2), .val (.int (1 : Int32))] [(.int (1 : Int32))] _
    refine XS.iloadN X4.here hx rfl (hb hby at_113) rfl ?_
    show oS p e below T4 m 114 #[.val (.int pI1), .val (.int (1 : Int32)), .val (.ref pR2), .val (.int (1 : Int32))] [(.int (1 : Int32)), (.int (1 : Int32))] _
    refine XS.icmpNo X4.here hx rfl (hb hby at_114) rfl (teq (by decide : (1 : Int32) = (1 : Int32))).2 ?_
    show oS p e below T4 m 117 #[.val (.int pI1), .val (.int (1 : Int32)), .val (.ref pR2), .val (.int (1 : Int32))] [] _
    refine XS.iconst X4.here hx rfl (hb hby at_117) ?_
    show oS p e below T4 m 118 #[.val (.int pI1), .val (.int (1 : Int32)), .val (.ref pR2), .val (.int (1 : Int32))] [(.int (1 : Int32))] _
    refine XS.goto X4.here hx rfl (pc0 := 118) (pc' := 122) rfl (hb hby at_118) (by decide) (by decide) ?_
    show oS p e below T4 m 122 #[.val (.int pI1), .val (.int (1 : Int32)), .val (.ref pR2), .val (.int (1 : Int32))] [(.int (1 : Int32))] _
    exact retN X4 hx (t := .boolean) Bd.returns (by simp) (hb hby at_122) hr
  · show Qlaw1 Z pI1 pR2 h0 n0 _ T4.heap _
    rw [e4]
    exact ⟨rfl, N4⟩
theorem ef_law2 (m : MethodId) (pI1 : Int32) : entryFrame m #[(.int pI1)] maxLocals = mkF m 0 #[.val (.int pI1), .unset, .unset, .unset] [] := by first | (simp [entryFrame, mkF, argsToLocals, Value.category, maxLocals]; done) | rfl
def Qlaw2 (Z : State) (pI1 : Int32) (pR2 : Addr) (h0 : Heap) (n0 : Nat) (v : Option Value) (h : Heap) (L : List Loc) : Prop := v = some (.int (1 : Int32)) ∧ Fr n0 L
set_option maxRecDepth 65536 in
set_option maxHeartbeats 40000000 in
theorem law2 (l : Launch) (Z : State) (a0 : Array Value) (hw : ∀ d ∈ tables_1, d.before a0 Z = true) (ws : List Jvm.Cond) (pI1 : Int32) (pR2 : Addr) (h0 : Heap) (n0 : Nat) (Z0 : n0 ≤ h0.size) (S_Trait_MEDICAID_NUMBER : Sta Z h0 "com/example/vaxwire/vaxwire/match/Trait" "MEDICAID_NUMBER" "Lcom/example/vaxwire/vaxwire/match/Trait;" (.ref pR2)) (F_pidField_pR2 : Fld Z h0 pR2 "com/example/vaxwire/vaxwire/match/Trait" "pidField" "I" (.int (3 : Int32))) (E_pR2 : Exa Z h0 pR2 "com/example/vaxwire/vaxwire/match/Trait") (hc3 : (pI1 &&& (7 : Int32)) = (2 : Int32)) :
    MetFree l x (head1 (Jvm.Cond.code x code maxLocals ret :: ws) room_1) (fun a U => a = #[(.int pI1)] ∧ Z.Warmed39 U.vm ∧ U.heap = h0) (fun _ _ _ _ _ => True) (fun _ U o U' => ∃ v L, o = .returned v ∧ Qlaw2 Z pI1 pR2 h0 n0 v U'.heap L ∧ FrameEnd U o U' L room_1.cells room_1.slots) := by
  refine MetFree.of_bodySF (plainFor_of_name pn_1) hisR ?_
  intro p e s m args below meth c s₁ Bd hml0 hP hK
  obtain ⟨rfl, hZ, hh⟩ := hP
  have hx := Bd.exec
  have hby := Bd.bytes
  have hml : c.maxLocals = 4 := hml0
  have hown : s.vm.findClass "com/example/vaxwire/vaxwire/match/TraitIdentifiesPinLaw" = some m.cls := findClass_of_methodNamed Bd.named
  have hnm := (name_of_methodNamed Bd.named Bd.method).1
  have X0 : Stand p l e room_1 s m #[(.int pI1)] below meth c s₁ [] 0 0 := Stand.of_body Bd
  have e0 : s₁.heap = h0 := by rw [← hh, Bd.state]; rfl
  have N0 := Fr.nil n0
  have pre0 : ∀ t, Steps p.tables e below (s₁.setTop (mkF m 0 #[.val (.int pI1), .unset, .unset, .unset] [])) t → Steps p.tables e below (s₁.setTop (entryFrame m #[(.int pI1)] maxLocals)) t := fun t k => castTop (ef_law2 m pI1) k
  obtain ⟨T3, X3, e3, st3⟩ := getS2 X0 hx hZ hown (host := "") (Or.inl (ow hw 16 rfl)) Via.refl e0 S_Trait_MEDICAID_NUMBER (g := (mkF m 37 #[.val (.int pI1), .val (.int (2 : Int32)), .unset, .unset] [])) rfl (hb hby at_37)
  obtain ⟨cq4, kq4, q4a, q4b, q4c⟩ := isOf hZ e3 E_pR2
  obtain ⟨_, _, ⟨T4, L4, k4, n4⟩, -, X4, ⟨Lc4, hQ4, l4, y4, z4⟩, st4⟩ := X3.virtualBack hx (y := yN0) (z := yN0) hown (mvT hZ (ow hw 3 rfl)) (mvT hZ (ow hw 4 rfl)) (notFace_of_selects (args := #[]) (mvT hZ (ow hw 6 rfl))) (mvT hZ (ow hw 6 rfl)) (mvT hZ (ow hw 5 rfl)) (by decide) (backOf (W := 0) (idY l Z a0 hw [] pR2 h0 n0 Z0 F_pidField_pR2) hZ (ow hw 7 rfl) (ow hw 1 rfl) (by decide) (by decide)) q4a q4c (g := (mkF m 110 #[.val (.int pI1), .val (.int (2 : Int32)), .val (.ref pR2), .val (.int (1 : Int32))] [(.ref pR2)])) rfl (by rw [hml]; rfl) (Steps.refl _) (argsL := []) (rest := []) (lenOf pd_0 rfl) rfl (by show 2 * 0 + _ ≤ _; exact Nat.le_of_eq rfl) (hb hby at_110) (fun _ _ => ⟨rfl, e3, (by decide : 0 + 0 ≤ _), (by decide : 0 + 0 ≤ _)⟩)
  dsimp only [Pt.U, Pt.locs, Pt.cells, Pt.slots] at X4 l4 y4 z4 st4 hQ4
  subst l4 y4 z4
  obtain ⟨rfl, Nq4, e4⟩ := hQ4
  have N4 := Fr.app N0 Nq4
  obtain ⟨fs, hr, hrun, hended, hW, hsame⟩ := X4.leave (v := some (.int (1 : Int32))) (fun h => by rw [Bd.returns] at h; cases h)
  refine ⟨_, _, pre0 _ ?_, hrun, hended, _, _, rfl, ?_, ⟨_, rfl⟩, hW, hsame.mono (by decide) (by decide)⟩
  · show oS p e below s₁ m 0 #[.val (.int pI1), .unset, .unset, .unset] [] _
    refine XS.iloadN X0.here hx rfl (hb hby at_0) rfl ?_
    show oS p e below s₁ m 1 #[.val (.int pI1), .unset, .unset, .unset] [(.int pI1)] _
    refine XS.bipush X0.here hx rfl (hb hby at_1) ?_
    show oS p e below s₁ m 3 #[.val (.int pI1), .unset, .unset, .unset] [(.int (7 : Int32)), (.int pI1)] _
    refine XS.iand X0.here hx rfl (hb hby at_3) rfl ?_
    show Steps p.tables e below (s₁.setTop (mkF m 4 #[.val (.int pI1), .unset, .unset, .unset] [(.int (pI1 &&& (7 : Int32)))])) _
    rw [hc3]
    show oS p e below s₁ m 4 #[.val (.int pI1), .unset, .unset, .unset] [(.int (2 : Int32))] _
    refine XS.istoreN X0.here hx rfl (hb hby at_4) rfl (l' := #[.val (.int pI1), .val (.int (2 : Int32)), .unset, .unset]) rfl ?_
    show oS p e below s₁ m 5 #[.val (.int pI1), .val (.int (2 : Int32)), .unset, .unset] [] _
    refine XS.iloadN X0.here hx rfl (hb hby at_5) rfl ?_
    show oS p e below s₁ m 6 #[.val (.int pI1), .val (.int (2 : Int32)), .unset, .unset] [(.int (2 : Int32))] _
    refine XS.ifYes X0.here hx rfl (pc0 := 6) (pc' := 18) rfl (hb hby at_6) rfl ((if0 _ _).trans (feq (by decide : ¬ ((2 : Int32) = (0 : Int32)))).2) (by decide) (by decide) ?_
    show oS p e below s₁ m 18 #[.val (.int pI1), .val (.int (2 : Int32)), .unset, .unset] [] _
    refine XS.iloadN X0.here hx rfl (hb hby at_18) rfl ?_
    show oS p e below s₁ m 19 #[.val (.int pI1), .val (.int (2 : Int32)), .unset, .unset] [(.int (2 : Int32))] _
    refine XS.iconst X0.here hx rfl (hb hby at_19) ?_
    show oS p e below s₁ m 20 #[.val (.int pI1), .val (.int (2 : Int32)), .unset, .unset] [(.int (1 : Int32)), (.int (2 : Int32))] _
    refine XS.icmpYes X0.here hx rfl (pc0 := 20) (pc' := 32) rfl (hb hby at_20) rfl (feq (by decide : ¬ ((2 : Int32) = (1 : Int32)))).2 (by decide) (by decide) ?_
    show oS p e below s₁ m 32 #[.val (.int pI1), .val (.int (2 : Int32)), .unset, .unset] [] _
    refine XS.iloadN X0.here hx rfl (hb hby at_32) rfl ?_
    show oS p e below s₁ m 33 #[.val (.int pI1), .val (.int (2 : Int32)), .unset, .unset] [(.int (2 : Int32))] _
    refine XS.iconst X0.here hx rfl (hb hby at_33) ?_
    show oS p e below s₁ m 34 #[.val (.int pI1), .val (.int (2 : Int32)), .unset, .unset] [(.int (2 : Int32)), (.int (2 : Int32))] _
    refine XS.icmpNo X0.here hx rfl (hb hby at_34) rfl (teq (by decide : (2 : Int32) = (2 : Int32))).2 ?_
    show oS p e below s₁ m 37 #[.val (.int pI1), .val (.int (2 : Int32)), .unset, .unset] [] _
    refine st3 _ ?_
    show oS p e below T3 m 40 #[.val (.int pI1), .val (.int (2 : Int32)), .unset, .unset] [(.ref pR2)] _
    refine XS.astoreN X3.here hx rfl (hb hby at_40) rfl rfl (l' := #[.val (.int pI1), .val (.int (2 : Int32)), .val (.ref pR2), .unset]) rfl ?_
    show oS p e below T3 m 41 #[.val (.int pI1), .val (.int (2 : Int32)), .val (.ref pR2), .unset] [] _
    refine XS.iconst X3.here hx rfl (hb hby at_41) ?_
    show oS p e below T3 m 42 #[.val (.int pI1), .val (.int (2 : Int32)), .val (.ref pR2), .unset] [(.int (1 : Int32))] _
    refine XS.istoreN X3.here hx rfl (hb hby at_42) rfl (l' := #[.val (.int pI1), .val (.int (2 : Int32)), .val (.ref pR2), .val (.int (1 : Int32))]) rfl ?_
    show oS p e below T3 m 43 #[.val (.int pI1), .val (.int (2 : Int32)), .val (.ref pR2), .val (.int (1 : Int32))] [] _
    refine XS.goto X3.here hx rfl (pc0 := 43) (pc' := 109) rfl (hb hby at_43) (by decide) (by decide) ?_
    show oS p e below T3 m 109 #[.val (.int pI1), .val (.int (2 : Int32)), .val (.ref pR2), .val (.int (1 : Int32))] [] _
    refine XS.aloadN X3.here hx rfl (hb hby at_109) rfl rfl ?_
    show oS p e below T3 m 110 #[.val (.int pI1), .val (.int (2 : Int32)), .val (.ref pR2), .val (.int (1 : Int32))] [(.ref pR2)] _
    refine st4.trans ?_
    show oS p e below T4 m 113 #[.val (.int pI1), .val (.int (2 : Int32)), .val (.ref pR2), .val (.int (1 : Int32))] [(.int (1 : Int32))] _
    refine XS.iloadN X4.here hx rfl (hb hby at_113) rfl ?_
    show oS p e below T4 m 114 #[.val (.int pI1), .val (.int (2 : Int32)), .val (.ref pR2), .val (.int (1 : Int32))] [(.int (1 : Int32)), (.int (1 : Int32))] _
    refine XS.icmpNo X4.here hx rfl (hb hby at_114) rfl (teq (by decide : (1 : Int32) = (1 : Int32))).2 ?_
    show oS p e below T4 m 117 #[.val (.int pI1), .val (.int (2 : Int32)), .val (.ref pR2), .val (.int (1 : Int32))] [] _
    refine XS.iconst X4.here hx rfl (hb hby at_117) ?_
    show oS p e below T4 m 118 #[.val (.int pI1), .val (.int (2 : Int32)), .val (.ref pR2), .val (.int (1 : Int32))] [(.int (1 : Int32))] _
    refine XS.goto X4.here hx rfl (pc0 := 118) (pc' := 122) rfl (hb hby at_118) (by decide) (by decide) ?_
    show oS p e below T4 m 122 #[.val (.int pI1), .val (.int (2 : Int32)), .val (.ref pR2), .val (.int (1 : Int32))] [(.int (1 : Int32))] _
    exact retN X4 hx (t := .boolean) Bd.returns (by simp) (hb hby at_122) hr
  · show Qlaw2 Z pI1 pR2 h0 n0 _ T4.heap _
    rw [e4]
    exact ⟨rfl, N4⟩
theorem ef_law3 (m : MethodId) (pI1 : Int32) : entryFrame m #[(.int pI1)] maxLocals = mkF m 0 #[.val (.int pI1), .unset, .unset, .unset] [] := by first | (simp [entryFrame, mkF, argsToLocals, Value.category, maxLocals]; done) | rfl
def Qlaw3 (Z : State) (pI1 : Int32) (pR2 : Addr) (h0 : Heap) (n0 : Nat) (v : Option Value) (h : Heap) (L : List Loc) : Prop := v = some (.int (1 : Int32)) ∧ Fr n0 L
set_option maxRecDepth 65536 in
set_option maxHeartbeats 40000000 in
theorem law3 (l : Launch) (Z : State) (a0 : Array Value) (hw : ∀ d ∈ tables_1, d.before a0 Z = true) (ws : List Jvm.Cond) (pI1 : Int32) (pR2 : Addr) (h0 : Heap) (n0 : Nat) (Z0 : n0 ≤ h0.size) (S_Trait_MEDICARE_NUMBER : Sta Z h0 "com/example/vaxwire/vaxwire/match/Trait" "MEDICARE_NUMBER" "Lcom/example/vaxwire/vaxwire/match/Trait;" (.ref pR2)) (F_pidField_pR2 : Fld Z h0 pR2 "com/example/vaxwire/vaxwire/match/Trait" "pidField" "I" (.int (3 : Int32))) (E_pR2 : Exa Z h0 pR2 "com/example/vaxwire/vaxwire/match/Trait") (hc3 : (pI1 &&& (7 : Int32)) = (3 : Int32)) :
    MetFree l x (head1 (Jvm.Cond.code x code maxLocals ret :: ws) room_1) (fun a U => a = #[(.int pI1)] ∧ Z.Warmed39 U.vm ∧ U.heap = h0) (fun _ _ _ _ _ => True) (fun _ U o U' => ∃ v L, o = .returned v ∧ Qlaw3 Z pI1 pR2 h0 n0 v U'.heap L ∧ FrameEnd U o U' L room_1.cells room_1.slots) := by
  refine MetFree.of_bodySF (plainFor_of_name pn_1) hisR ?_
  intro p e s m args below meth c s₁ Bd hml0 hP hK
  obtain ⟨rfl, hZ, hh⟩ := hP
  have hx := Bd.exec
  have hby := Bd.bytes
  have hml : c.maxLocals = 4 := hml0
  have hown : s.vm.findClass "com/example/vaxwire/vaxwire/match/TraitIdentifiesPinLaw" = some m.cls := findClass_of_methodNamed Bd.named
  have hnm := (name_of_methodNamed Bd.named Bd.method).1
  have X0 : Stand p l e room_1 s m #[(.int pI1)] below meth c s₁ [] 0 0 := Stand.of_body Bd
  have e0 : s₁.heap = h0 := by rw [← hh, Bd.state]; rfl
  have N0 := Fr.nil n0
  have pre0 : ∀ t, Steps p.tables e below (s₁.setTop (mkF m 0 #[.val (.int pI1), .unset, .unset, .unset] [])) t → Steps p.tables e below (s₁.setTop (entryFrame m #[(.int pI1)] maxLocals)) t := fun t k => castTop (ef_law3 m pI1) k
  obtain ⟨T3, X3, e3, st3⟩ := getS2 X0 hx hZ hown (host := "") (Or.inl (ow hw 10 rfl)) Via.refl e0 S_Trait_MEDICARE_NUMBER (g := (mkF m 51 #[.val (.int pI1), .val (.int (3 : Int32)), .unset, .unset] [])) rfl (hb hby at_51)
  obtain ⟨cq4, kq4, q4a, q4b, q4c⟩ := isOf hZ e3 E_pR2
  obtain ⟨_, _, ⟨T4, L4, k4, n4⟩, -, X4, ⟨Lc4, hQ4, l4, y4, z4⟩, st4⟩ := X3.virtualBack hx (y := yN0) (z := yN0) hown (mvT hZ (ow hw 3 rfl)) (mvT hZ (ow hw 4 rfl)) (notFace_of_selects (args := #[]) (mvT hZ (ow hw 6 rfl))) (mvT hZ (ow hw 6 rfl)) (mvT hZ (ow hw 5 rfl)) (by decide) (backOf (W := 0) (idY l Z a0 hw [] pR2 h0 n0 Z0 F_pidField_pR2) hZ (ow hw 7 rfl) (ow hw 1 rfl) (by decide) (by decide)) q4a q4c (g := (mkF m 110 #[.val (.int pI1), .val (.int (3 : Int32)), .val (.ref pR2), .val (.int (1 : Int32))] [(.ref pR2)])) rfl (by rw [hml]; rfl) (Steps.refl _) (argsL := []) (rest := []) (lenOf pd_0 rfl) rfl (by show 2 * 0 + _ ≤ _; exact Nat.le_of_eq rfl) (hb hby at_110) (fun _ _ => ⟨rfl, e3, (by decide : 0 + 0 ≤ _), (by decide : 0 + 0 ≤ _)⟩)
  dsimp only [Pt.U, Pt.locs, Pt.cells, Pt.slots] at X4 l4 y4 z4 st4 hQ4
  subst l4 y4 z4
  obtain ⟨rfl, Nq4, e4⟩ := hQ4
  have N4 := Fr.app N0 Nq4
  obtain ⟨fs, hr, hrun, hended, hW, hsame⟩ := X4.leave (v := some (.int (1 : Int32))) (fun h => by rw [Bd.returns] at h; cases h)
  refine ⟨_, _, pre0 _ ?_, hrun, hended, _, _, rfl, ?_, ⟨_, rfl⟩, hW, hsame.mono (by decide) (by decide)⟩
  · show oS p e below s₁ m 0 #[.val (.int pI1), .unset, .unset, .unset] [] _
    refine XS.iloadN X0.here hx rfl (hb hby at_0) rfl ?_
    show oS p e below s₁ m 1 #[.val (.int pI1), .unset, .unset, .unset] [(.int pI1)] _
    refine XS.bipush X0.here hx rfl (hb hby at_1) ?_
    show oS p e below s₁ m 3 #[.val (.int pI1), .unset, .unset, .unset] [(.int (7 : Int32)), (.int pI1)] _
    refine XS.iand X0.here hx rfl (hb hby at_3) rfl ?_
    show Steps p.tables e below (s₁.setTop (mkF m 4 #[.val (.int pI1), .unset, .unset, .unset] [(.int (pI1 &&& (7 : Int32)))])) _
    rw [hc3]
    show oS p e below s₁ m 4 #[.val (.int pI1), .unset, .unset, .unset] [(.int (3 : Int32))] _
    refine XS.istoreN X0.here hx rfl (hb hby at_4) rfl (l' := #[.val (.int pI1), .val (.int (3 : Int32)), .unset, .unset]) rfl ?_
    show oS p e below s₁ m 5 #[.val (.int pI1), .val (.int (3 : Int32)), .unset, .unset] [] _
    refine XS.iloadN X0.here hx rfl (hb hby at_5) rfl ?_
    show oS p e below s₁ m 6 #[.val (.int pI1), .val (.int (3 : Int32)), .unset, .unset] [(.int (3 : Int32))] _
    refine XS.ifYes X0.here hx rfl (pc0 := 6) (pc' := 18) rfl (hb hby at_6) rfl ((if0 _ _).trans (feq (by decide : ¬ ((3 : Int32) = (0 : Int32)))).2) (by decide) (by decide) ?_
    show oS p e below s₁ m 18 #[.val (.int pI1), .val (.int (3 : Int32)), .unset, .unset] [] _
    refine XS.iloadN X0.here hx rfl (hb hby at_18) rfl ?_
    show oS p e below s₁ m 19 #[.val (.int pI1), .val (.int (3 : Int32)), .unset, .unset] [(.int (3 : Int32))] _
    refine XS.iconst X0.here hx rfl (hb hby at_19) ?_
    show oS p e below s₁ m 20 #[.val (.int pI1), .val (.int (3 : Int32)), .unset, .unset] [(.int (1 : Int32)), (.int (3 : Int32))] _
    refine XS.icmpYes X0.here hx rfl (pc0 := 20) (pc' := 32) rfl (hb hby at_20) rfl (feq (by decide : ¬ ((3 : Int32) = (1 : Int32)))).2 (by decide) (by decide) ?_
    show oS p e below s₁ m 32 #[.val (.int pI1), .val (.int (3 : Int32)), .unset, .unset] [] _
    refine XS.iloadN X0.here hx rfl (hb hby at_32) rfl ?_
    show oS p e below s₁ m 33 #[.val (.int pI1), .val (.int (3 : Int32)), .unset, .unset] [(.int (3 : Int32))] _
    refine XS.iconst X0.here hx rfl (hb hby at_33) ?_
    show oS p e below s₁ m 34 #[.val (.int pI1), .val (.int (3 : Int32)), .unset, .unset] [(.int (2 : Int32)), (.int (3 : Int32))] _
    refine XS.icmpYes X0.here hx rfl (pc0 := 34) (pc' := 46) rfl (hb hby at_34) rfl (feq (by decide : ¬ ((3 : Int32) = (2 : Int32)))).2 (by decide) (by decide) ?_
    show oS p e below s₁ m 46 #[.val (.int pI1), .val (.int (3 : Int32)), .unset, .unset] [] _
    refine XS.iloadN X0.here hx rfl (hb hby at_46) rfl ?_
    show oS p e below s₁ m 47 #[.val (.int pI1), .val (.int (3 : Int32)), .unset, .unset] [(.int (3 : Int32))] _
    refine XS.iconst X0.here hx rfl (hb hby at_47) ?_
    show oS p e below s₁ m 48 #[.val (.int pI1), .val (.int (3 : Int32)), .unset, .unset] [(.int (3 : Int32)), (.int (3 : Int32))] _
    refine XS.icmpNo X0.here hx rfl (hb hby at_48) rfl (teq (by decide : (3 : Int32) = (3 : Int32))).2 ?_
    show oS p e below s₁ m 51 #[.val (.int pI1), .val (.int (3 : Int32)), .unset, .unset] [] _
    refine st3 _ ?_
    show oS p e below T3 m 54 #[.val (.int pI1), .val (.int (3 : Int32)), .unset, .unset] [(.ref pR2)] _
    refine XS.astoreN X3.here hx rfl (hb hby at_54) rfl rfl (l' := #[.val (.int pI1), .val (.int (3 : Int32)), .val (.ref pR2), .unset]) rfl ?_
    show oS p e below T3 m 55 #[.val (.int pI1), .val (.int (3 : Int32)), .val (.ref pR2), .unset] [] _
    refine XS.iconst X3.here hx rfl (hb hby at_55) ?_
    show oS p e below T3 m 56 #[.val (.int pI1), .val (.int (3 : Int32)), .val (.ref pR2), .unset] [(.int (1 : Int32))] _
    refine XS.istoreN X3.here hx rfl (hb hby at_56) rfl (l' := #[.val (.int pI1), .val (.int (3 : Int32)), .val (.ref pR2), .val (.int (1 : Int32))]) rfl ?_
    show oS p e below T3 m 57 #[.val (.int pI1), .val (.int (3 : Int32)), .val (.ref pR2), .val (.int (1 : Int32))] [] _
    refine XS.goto X3.here hx rfl (pc0 := 57) (pc' := 109) rfl (hb hby at_57) (by decide) (by decide) ?_
    show oS p e below T3 m 109 #[.val (.int pI1), .val (.int (3 : Int32)), .val (.ref pR2), .val (.int (1 : Int32))] [] _
    refine XS.aloadN X3.here hx rfl (hb hby at_109) rfl rfl ?_
    show oS p e below T3 m 110 #[.val (.int pI1), .val (.int (3 : Int32)), .val (.ref pR2), .val (.int (1 : Int32))] [(.ref pR2)] _
    refine st4.trans ?_
    show oS p e below T4 m 113 #[.val (.int pI1), .val (.int (3 : Int32)), .val (.ref pR2), .val (.int (1 : Int32))] [(.int (1 : Int32))] _
    refine XS.iloadN X4.here hx rfl (hb hby at_113) rfl ?_
    show oS p e below T4 m 114 #[.val (.int pI1), .val (.int (3 : Int32)), .val (.ref pR2), .val (.int (1 : Int32))] [(.int (1 : Int32)), (.int (1 : Int32))] _
    refine XS.icmpNo X4.here hx rfl (hb hby at_114) rfl (teq (by decide : (1 : Int32) = (1 : Int32))).2 ?_
    show oS p e below T4 m 117 #[.val (.int pI1), .val (.int (3 : Int32)), .val (.ref pR2), .val (.int (1 : Int32))] [] _
    refine XS.iconst X4.here hx rfl (hb hby at_117) ?_
    show oS p e below T4 m 118 #[.val (.int pI1), .val (.int (3 : Int32)), .val (.ref pR2), .val (.int (1 : Int32))] [(.int (1 : Int32))] _
    refine XS.goto X4.here hx rfl (pc0 := 118) (pc' := 122) rfl (hb hby at_118) (by decide) (by decide) ?_
    show oS p e below T4 m 122 #[.val (.int pI1), .val (.int (3 : Int32)), .val (.ref pR2), .val (.int (1 : Int32))] [(.int (1 : Int32))] _
    exact retN X4 hx (t := .boolean) Bd.returns (by simp) (hb hby at_122) hr
  · show Qlaw3 Z pI1 pR2 h0 n0 _ T4.heap _
    rw [e4]
    exact ⟨rfl, N4⟩
theorem ef_law4 (m : MethodId) (pI1 : Int32) : entryFrame m #[(.int pI1)] maxLocals = mkF m 0 #[.val (.int pI1), .unset, .unset, .unset] [] := by first | (simp [entryFrame, mkF, argsToLocals, Value.category, maxLocals]; done) | rfl
def Qlaw4 (Z : State) (pI1 : Int32) (pR2 : Addr) (pI4 : Int32) (h0 : Heap) (n0 : Nat) (v : Option Value) (h : Heap) (L : List Loc) : Prop := v = some (.int (1 : Int32)) ∧ Fr n0 L
set_option maxRecDepth 65536 in
set_option maxHeartbeats 40000000 in
theorem law4 (l : Launch) (Z : State) (a0 : Array Value) (hw : ∀ d ∈ tables_1, d.before a0 Z = true) (ws : List Jvm.Cond) (pI1 : Int32) (pR2 : Addr) (pI4 : Int32) (h0 : Heap) (n0 : Nat) (Z0 : n0 ≤ h0.size) (S_Trait_SEX : Sta Z h0 "com/example/vaxwire/vaxwire/match/Trait" "SEX" "Lcom/example/vaxwire/vaxwire/match/Trait;" (.ref pR2)) (F_pidField_pR2 : Fld Z h0 pR2 "com/example/vaxwire/vaxwire/match/Trait" "pidField" "I" (.int pI4)) (E_pR2 : Exa Z h0 pR2 "com/example/vaxwire/vaxwire/match/Trait") (hc3 : (pI1 &&& (7 : Int32)) = (4 : Int32)) (hc110 : ¬ (pI4 = (3 : Int32))) :
    MetFree l x (head1 (Jvm.Cond.code x code maxLocals ret :: ws) room_1) (fun a U => a = #[(.int pI1)] ∧ Z.Warmed39 U.vm ∧ U.heap = h0) (fun _ _ _ _ _ => True) (fun _ U o U' => ∃ v L, o = .returned v ∧ Qlaw4 Z pI1 pR2 pI4 h0 n0 v U'.heap L ∧ FrameEnd U o U' L room_1.cells room_1.slots) := by
  refine MetFree.of_bodySF (plainFor_of_name pn_1) hisR ?_
  intro p e s m args below meth c s₁ Bd hml0 hP hK
  obtain ⟨rfl, hZ, hh⟩ := hP
  have hx := Bd.exec
  have hby := Bd.bytes
  have hml : c.maxLocals = 4 := hml0
  have hown : s.vm.findClass "com/example/vaxwire/vaxwire/match/TraitIdentifiesPinLaw" = some m.cls := findClass_of_methodNamed Bd.named
  have hnm := (name_of_methodNamed Bd.named Bd.method).1
  have X0 : Stand p l e room_1 s m #[(.int pI1)] below meth c s₁ [] 0 0 := Stand.of_body Bd
  have e0 : s₁.heap = h0 := by rw [← hh, Bd.state]; rfl
  have N0 := Fr.nil n0
  have pre0 : ∀ t, Steps p.tables e below (s₁.setTop (mkF m 0 #[.val (.int pI1), .unset, .unset, .unset] [])) t → Steps p.tables e below (s₁.setTop (entryFrame m #[(.int pI1)] maxLocals)) t := fun t k => castTop (ef_law4 m pI1) k
  obtain ⟨T3, X3, e3, st3⟩ := getS2 X0 hx hZ hown (host := "") (Or.inl (ow hw 20 rfl)) Via.refl e0 S_Trait_SEX (g := (mkF m 65 #[.val (.int pI1), .val (.int (4 : Int32)), .unset, .unset] [])) rfl (hb hby at_65)
  obtain ⟨cq5, kq5, q5a, q5b, q5c⟩ := isOf hZ e3 E_pR2
  obtain ⟨_, _, ⟨T5, L5, k5, n5⟩, -, X5, ⟨Lc5, hQ5, l5, y5, z5⟩, st5⟩ := X3.virtualBack hx (y := yN0) (z := yN0) hown (mvT hZ (ow hw 3 rfl)) (mvT hZ (ow hw 4 rfl)) (notFace_of_selects (args := #[]) (mvT hZ (ow hw 6 rfl))) (mvT hZ (ow hw 6 rfl)) (mvT hZ (ow hw 5 rfl)) (by decide) (backOf (W := 0) (idN l Z a0 hw [] pR2 pI4 h0 n0 Z0 F_pidField_pR2 hc110) hZ (ow hw 7 rfl) (ow hw 1 rfl) (by decide) (by decide)) q5a q5c (g := (mkF m 110 #[.val (.int pI1), .val (.int (4 : Int32)), .val (.ref pR2), .val (.int (0 : Int32))] [(.ref pR2)])) rfl (by rw [hml]; rfl) (Steps.refl _) (argsL := []) (rest := []) (lenOf pd_0 rfl) rfl (by show 2 * 0 + _ ≤ _; exact Nat.le_of_eq rfl) (hb hby at_110) (fun _ _ => ⟨rfl, e3, (by decide : 0 + 0 ≤ _), (by decide : 0 + 0 ≤ _)⟩)
  dsimp only [Pt.U, Pt.locs, Pt.cells, Pt.slots] at X5 l5 y5 z5 st5 hQ5
  subst l5 y5 z5
  obtain ⟨rfl, Nq5, e5⟩ := hQ5
  have N5 := Fr.app N0 Nq5
  obtain ⟨fs, hr, hrun, hended, hW, hsame⟩ := X5.leave (v := some (.int (1 : Int32))) (fun h => by rw [Bd.returns] at h; cases h)
  refine ⟨_, _, pre0 _ ?_, hrun, hended, _, _, rfl, ?_, ⟨_, rfl⟩, hW, hsame.mono (by decide) (by decide)⟩
  · show oS p e below s₁ m 0 #[.val (.int pI1), .unset, .unset, .unset] [] _
    refine XS.iloadN X0.here hx rfl (hb hby at_0) rfl ?_
    show oS p e below s₁ m 1 #[.val (.int pI1), .unset, .unset, .unset] [(.int pI1)] _
    refine XS.bipush X0.here hx rfl (hb hby at_1) ?_
    show oS p e below s₁ m 3 #[.val (.int pI1), .unset, .unset, .unset] [(.int (7 : Int32)), (.int pI1)] _
    refine XS.iand X0.here hx rfl (hb hby at_3) rfl ?_
    show Steps p.tables e below (s₁.setTop (mkF m 4 #[.val (.int pI1), .unset, .unset, .unset] [(.int (pI1 &&& (7 : Int32)))])) _
    rw [hc3]
    show oS p e below s₁ m 4 #[.val (.int pI1), .unset, .unset, .unset] [(.int (4 : Int32))] _
    refine XS.istoreN X0.here hx rfl (hb hby at_4) rfl (l' := #[.val (.int pI1), .val (.int (4 : Int32)), .unset, .unset]) rfl ?_
    show oS p e below s₁ m 5 #[.val (.int pI1), .val (.int (4 : Int32)), .unset, .unset] [] _
    refine XS.iloadN X0.here hx rfl (hb hby at_5) rfl ?_
    show oS p e below s₁ m 6 #[.val (.int pI1), .val (.int (4 : Int32)), .unset, .unset] [(.int (4 : Int32))] _
    refine XS.ifYes X0.here hx rfl (pc0 := 6) (pc' := 18) rfl (hb hby at_6) rfl ((if0 _ _).trans (feq (by decide : ¬ ((4 : Int32) = (0 : Int32)))).2) (by decide) (by decide) ?_
    show oS p e below s₁ m 18 #[.val (.int pI1), .val (.int (4 : Int32)), .unset, .unset] [] _
    refine XS.iloadN X0.here hx rfl (hb hby at_18) rfl ?_
    show oS p e below s₁ m 19 #[.val (.int pI1), .val (.int (4 : Int32)), .unset, .unset] [(.int (4 : Int32))] _
    refine XS.iconst X0.here hx rfl (hb hby at_19) ?_
    show oS p e below s₁ m 20 #[.val (.int pI1), .val (.int (4 : Int32)), .unset, .unset] [(.int (1 : Int32)), (.int (4 : Int32))] _
    refine XS.icmpYes X0.here hx rfl (pc0 := 20) (pc' := 32) rfl (hb hby at_20) rfl (feq (by decide : ¬ ((4 : Int32) = (1 : Int32)))).2 (by decide) (by decide) ?_
    show oS p e below s₁ m 32 #[.val (.int pI1), .val (.int (4 : Int32)), .unset, .unset] [] _
    refine XS.iloadN X0.here hx rfl (hb hby at_32) rfl ?_
    show oS p e below s₁ m 33 #[.val (.int pI1), .val (.int (4 : Int32)), .unset, .unset] [(.int (4 : Int32))] _
    refine XS.iconst X0.here hx rfl (hb hby at_33) ?_
    show oS p e below s₁ m 34 #[.val (.int pI1), .val (.int (4 : Int32)), .unset, .unset] [(.int (2 : Int32)), (.int (4 : Int32))] _
    refine XS.icmpYes X0.here hx rfl (pc0 := 34) (pc' := 46) rfl (hb hby at_34) rfl (feq (by decide : ¬ ((4 : Int32) = (2 : Int32)))).2 (by decide) (by decide) ?_
    show oS p e below s₁ m 46 #[.val (.int pI1), .val (.int (4 : Int32)), .unset, .unset] [] _
    refine XS.iloadN X0.here hx rfl (hb hby at_46) rfl ?_
    show oS p e below s₁ m 47 #[.val (.int pI1), .val (.int (4 : Int32)), .unset, .unset] [(.int (4 : Int32))] _
    refine XS.iconst X0.here hx rfl (hb hby at_47) ?_
    show oS p e below s₁ m 48 #[.val (.int pI1), .val (.int (4 : Int32)), .unset, .unset] [(.int (3 : Int32)), (.int (4 : Int32))] _
    refine XS.icmpYes X0.here hx rfl (pc0 := 48) (pc' := 60) rfl (hb hby at_48) rfl (feq (by decide : ¬ ((4 : Int32) = (3 : Int32)))).2 (by decide) (by decide) ?_
    show oS p e below s₁ m 60 #[.val (.int pI1), .val (.int (4 : Int32)), .unset, .unset] [] _
    refine XS.iloadN X0.here hx rfl (hb hby at_60) rfl ?_
    show oS p e below s₁ m 61 #[.val (.int pI1), .val (.int (4 : Int32)), .unset, .unset] [(.int (4 : Int32))] _
    refine XS.iconst X0.here hx rfl (hb hby at_61) ?_
    show oS p e below s₁ m 62 #[.val (.int pI1), .val (.int (4 : Int32)), .unset, .unset] [(.int (4 : Int32)), (.int (4 : Int32))] _
    refine XS.icmpNo X0.here hx rfl (hb hby at_62) rfl (teq (by decide : (4 : Int32) = (4 : Int32))).2 ?_
    show oS p e below s₁ m 65 #[.val (.int pI1), .val (.int (4 : Int32)), .unset, .unset] [] _
    refine st3 _ ?_
    show oS p e below T3 m 68 #[.val (.int pI1), .val (.int (4 : Int32)), .unset, .unset] [(.ref pR2)] _
    refine XS.astoreN X3.here hx rfl (hb hby at_68) rfl rfl (l' := #[.val (.int pI1), .val (.int (4 : Int32)), .val (.ref pR2), .unset]) rfl ?_
    show oS p e below T3 m 69 #[.val (.int pI1), .val (.int (4 : Int32)), .val (.ref pR2), .unset] [] _
    refine XS.iconst X3.here hx rfl (hb hby at_69) ?_
    show oS p e below T3 m 70 #[.val (.int pI1), .val (.int (4 : Int32)), .val (.ref pR2), .unset] [(.int (0 : Int32))] _
    refine XS.istoreN X3.here hx rfl (hb hby at_70) rfl (l' := #[.val (.int pI1), .val (.int (4 : Int32)), .val (.ref pR2), .val (.int (0 : Int32))]) rfl ?_
    show oS p e below T3 m 71 #[.val (.int pI1), .val (.int (4 : Int32)), .val (.ref pR2), .val (.int (0 : Int32))] [] _
    refine XS.goto X3.here hx rfl (pc0 := 71) (pc' := 109) rfl (hb hby at_71) (by decide) (by decide) ?_
    show oS p e below T3 m 109 #[.val (.int pI1), .val (.int (4 : Int32)), .val (.ref pR2), .val (.int (0 : Int32))] [] _
    refine XS.aloadN X3.here hx rfl (hb hby at_109) rfl rfl ?_
    show oS p e below T3 m 110 #[.val (.int pI1), .val (.int (4 : Int32)), .val (.ref pR2), .val (.int (0 : Int32))] [(.ref pR2)] _
    refine st5.trans ?_
    show oS p e below T5 m 113 #[.val (.int pI1), .val (.int (4 : Int32)), .val (.ref pR2), .val (.int (0 : Int32))] [(.int (0 : Int32))] _
    refine XS.iloadN X5.here hx rfl (hb hby at_113) rfl ?_
    show oS p e below T5 m 114 #[.val (.int pI1), .val (.int (4 : Int32)), .val (.ref pR2), .val (.int (0 : Int32))] [(.int (0 : Int32)), (.int (0 : Int32))] _
    refine XS.icmpNo X5.here hx rfl (hb hby at_114) rfl (teq (by decide : (0 : Int32) = (0 : Int32))).2 ?_
    show oS p e below T5 m 117 #[.val (.int pI1), .val (.int (4 : Int32)), .val (.ref pR2), .val (.int (0 : Int32))] [] _
    refine XS.iconst X5.here hx rfl (hb hby at_117) ?_
    show oS p e below T5 m 118 #[.val (.int pI1), .val (.int (4 : Int32)), .val (.ref pR2), .val (.int (0 : Int32))] [(.int (1 : Int32))] _
    refine XS.goto X5.here hx rfl (pc0 := 118) (pc' := 122) rfl (hb hby at_118) (by decide) (by decide) ?_
    show oS p e below T5 m 122 #[.val (.int pI1), .val (.int (4 : Int32)), .val (.ref pR2), .val (.int (0 : Int32))] [(.int (1 : Int32))] _
    exact retN X5 hx (t := .boolean) Bd.returns (by simp) (hb hby at_122) hr
  · show Qlaw4 Z pI1 pR2 pI4 h0 n0 _ T5.heap _
    rw [e5]
    exact ⟨rfl, N5⟩
theorem ef_law5 (m : MethodId) (pI1 : Int32) : entryFrame m #[(.int pI1)] maxLocals = mkF m 0 #[.val (.int pI1), .unset, .unset, .unset] [] := by first | (simp [entryFrame, mkF, argsToLocals, Value.category, maxLocals]; done) | rfl
def Qlaw5 (Z : State) (pI1 : Int32) (pR2 : Addr) (pI4 : Int32) (h0 : Heap) (n0 : Nat) (v : Option Value) (h : Heap) (L : List Loc) : Prop := v = some (.int (1 : Int32)) ∧ Fr n0 L
set_option maxRecDepth 65536 in
set_option maxHeartbeats 40000000 in
theorem law5 (l : Launch) (Z : State) (a0 : Array Value) (hw : ∀ d ∈ tables_1, d.before a0 Z = true) (ws : List Jvm.Cond) (pI1 : Int32) (pR2 : Addr) (pI4 : Int32) (h0 : Heap) (n0 : Nat) (Z0 : n0 ≤ h0.size) (S_Trait_MOTHERS_MAIDEN_NAME : Sta Z h0 "com/example/vaxwire/vaxwire/match/Trait" "MOTHERS_MAIDEN_NAME" "Lcom/example/vaxwire/vaxwire/match/Trait;" (.ref pR2)) (F_pidField_pR2 : Fld Z h0 pR2 "com/example/vaxwire/vaxwire/match/Trait" "pidField" "I" (.int pI4)) (E_pR2 : Exa Z h0 pR2 "com/example/vaxwire/vaxwire/match/Trait") (hc3 : (pI1 &&& (7 : Int32)) = (5 : Int32)) (hc110 : ¬ (pI4 = (3 : Int32))) :
    MetFree l x (head1 (Jvm.Cond.code x code maxLocals ret :: ws) room_1) (fun a U => a = #[(.int pI1)] ∧ Z.Warmed39 U.vm ∧ U.heap = h0) (fun _ _ _ _ _ => True) (fun _ U o U' => ∃ v L, o = .returned v ∧ Qlaw5 Z pI1 pR2 pI4 h0 n0 v U'.heap L ∧ FrameEnd U o U' L room_1.cells room_1.slots) := by
  refine MetFree.of_bodySF (plainFor_of_name pn_1) hisR ?_
  intro p e s m args below meth c s₁ Bd hml0 hP hK
  obtain ⟨rfl, hZ, hh⟩ := hP
  have hx := Bd.exec
  have hby := Bd.bytes
  have hml : c.maxLocals = 4 := hml0
  have hown : s.vm.findClass "com/example/vaxwire/vaxwire/match/TraitIdentifiesPinLaw" = some m.cls := findClass_of_methodNamed Bd.named
  have hnm := (name_of_methodNamed Bd.named Bd.method).1
  have X0 : Stand p l e room_1 s m #[(.int pI1)] below meth c s₁ [] 0 0 := Stand.of_body Bd
  have e0 : s₁.heap = h0 := by rw [← hh, Bd.state]; rfl
  have N0 := Fr.nil n0
  have pre0 : ∀ t, Steps p.tables e below (s₁.setTop (mkF m 0 #[.val (.int pI1), .unset, .unset, .unset] [])) t → Steps p.tables e below (s₁.setTop (entryFrame m #[(.int pI1)] maxLocals)) t := fun t k => castTop (ef_law5 m pI1) k
  obtain ⟨T3, X3, e3, st3⟩ := getS2 X0 hx hZ hown (host := "") (Or.inl (ow hw 22 rfl)) Via.refl e0 S_Trait_MOTHERS_MAIDEN_NAME (g := (mkF m 79 #[.val (.int pI1), .val (.int (5 : Int32)), .unset, .unset] [])) rfl (hb hby at_79)
  obtain ⟨cq5, kq5, q5a, q5b, q5c⟩ := isOf hZ e3 E_pR2
  obtain ⟨_, _, ⟨T5, L5, k5, n5⟩, -, X5, ⟨Lc5, hQ5, l5, y5, z5⟩, st5⟩ := X3.virtualBack hx (y := yN0) (z := yN0) hown (mvT hZ (ow hw 3 rfl)) (mvT hZ (ow hw 4 rfl)) (notFace_of_selects (args := #[]) (mvT hZ (ow hw 6 rfl))) (mvT hZ (ow hw 6 rfl)) (mvT hZ (ow hw 5 rfl)) (by decide) (backOf (W := 0) (idN l Z a0 hw [] pR2 pI4 h0 n0 Z0 F_pidField_pR2 hc110) hZ (ow hw 7 rfl) (ow hw 1 rfl) (by decide) (by decide)) q5a q5c (g := (mkF m 110 #[.val (.int pI1), .val (.int (5 : Int32)), .val (.ref pR2), .val (.int (0 : Int32))] [(.ref pR2)])) rfl (by rw [hml]; rfl) (Steps.refl _) (argsL := []) (rest := []) (lenOf pd_0 rfl) rfl (by show 2 * 0 + _ ≤ _; exact Nat.le_of_eq rfl) (hb hby at_110) (fun _ _ => ⟨rfl, e3, (by decide : 0 + 0 ≤ _), (by decide : 0 + 0 ≤ _)⟩)
  dsimp only [Pt.U, Pt.locs, Pt.cells, Pt.slots] at X5 l5 y5 z5 st5 hQ5
  subst l5 y5 z5
  obtain ⟨rfl, Nq5, e5⟩ := hQ5
  have N5 := Fr.app N0 Nq5
  obtain ⟨fs, hr, hrun, hended, hW, hsame⟩ := X5.leave (v := some (.int (1 : Int32))) (fun h => by rw [Bd.returns] at h; cases h)
  refine ⟨_, _, pre0 _ ?_, hrun, hended, _, _, rfl, ?_, ⟨_, rfl⟩, hW, hsame.mono (by decide) (by decide)⟩
  · show oS p e below s₁ m 0 #[.val (.int pI1), .unset, .unset, .unset] [] _
    refine XS.iloadN X0.here hx rfl (hb hby at_0) rfl ?_
    show oS p e below s₁ m 1 #[.val (.int pI1), .unset, .unset, .unset] [(.int pI1)] _
    refine XS.bipush X0.here hx rfl (hb hby at_1) ?_
    show oS p e below s₁ m 3 #[.val (.int pI1), .unset, .unset, .unset] [(.int (7 : Int32)), (.int pI1)] _
    refine XS.iand X0.here hx rfl (hb hby at_3) rfl ?_
    show Steps p.tables e below (s₁.setTop (mkF m 4 #[.val (.int pI1), .unset, .unset, .unset] [(.int (pI1 &&& (7 : Int32)))])) _
    rw [hc3]
    show oS p e below s₁ m 4 #[.val (.int pI1), .unset, .unset, .unset] [(.int (5 : Int32))] _
    refine XS.istoreN X0.here hx rfl (hb hby at_4) rfl (l' := #[.val (.int pI1), .val (.int (5 : Int32)), .unset, .unset]) rfl ?_
    show oS p e below s₁ m 5 #[.val (.int pI1), .val (.int (5 : Int32)), .unset, .unset] [] _
    refine XS.iloadN X0.here hx rfl (hb hby at_5) rfl ?_
    show oS p e below s₁ m 6 #[.val (.int pI1), .val (.int (5 : Int32)), .unset, .unset] [(.int (5 : Int32))] _
    refine XS.ifYes X0.here hx rfl (pc0 := 6) (pc' := 18) rfl (hb hby at_6) rfl ((if0 _ _).trans (feq (by decide : ¬ ((5 : Int32) = (0 : Int32)))).2) (by decide) (by decide) ?_
    show oS p e below s₁ m 18 #[.val (.int pI1), .val (.int (5 : Int32)), .unset, .unset] [] _
    refine XS.iloadN X0.here hx rfl (hb hby at_18) rfl ?_
    show oS p e below s₁ m 19 #[.val (.int pI1), .val (.int (5 : Int32)), .unset, .unset] [(.int (5 : Int32))] _
    refine XS.iconst X0.here hx rfl (hb hby at_19) ?_
    show oS p e below s₁ m 20 #[.val (.int pI1), .val (.int (5 : Int32)), .unset, .unset] [(.int (1 : Int32)), (.int (5 : Int32))] _
    refine XS.icmpYes X0.here hx rfl (pc0 := 20) (pc' := 32) rfl (hb hby at_20) rfl (feq (by decide : ¬ ((5 : Int32) = (1 : Int32)))).2 (by decide) (by decide) ?_
    show oS p e below s₁ m 32 #[.val (.int pI1), .val (.int (5 : Int32)), .unset, .unset] [] _
    refine XS.iloadN X0.here hx rfl (hb hby at_32) rfl ?_
    show oS p e below s₁ m 33 #[.val (.int pI1), .val (.int (5 : Int32)), .unset, .unset] [(.int (5 : Int32))] _
    refine XS.iconst X0.here hx rfl (hb hby at_33) ?_
    show oS p e below s₁ m 34 #[.val (.int pI1), .val (.int (5 : Int32)), .unset, .unset] [(.int (2 : Int32)), (.int (5 : Int32))] _
    refine XS.icmpYes X0.here hx rfl (pc0 := 34) (pc' := 46) rfl (hb hby at_34) rfl (feq (by decide : ¬ ((5 : Int32) = (2 : Int32)))).2 (by decide) (by decide) ?_
    show oS p e below s₁ m 46 #[.val (.int pI1), .val (.int (5 : Int32)), .unset, .unset] [] _
    refine XS.iloadN X0.here hx rfl (hb hby at_46) rfl ?_
    show oS p e below s₁ m 47 #[.val (.int pI1), .val (.int (5 : Int32)), .unset, .unset] [(.int (5 : Int32))] _
    refine XS.iconst X0.here hx rfl (hb hby at_47) ?_
    show oS p e below s₁ m 48 #[.val (.int pI1), .val (.int (5 : Int32)), .unset, .unset] [(.int (3 : Int32)), (.int (5 : Int32))] _
    refine XS.icmpYes X0.here hx rfl (pc0 := 48) (pc' := 60) rfl (hb hby at_48) rfl (feq (by decide : ¬ ((5 : Int32) = (3 : Int32)))).2 (by decide) (by decide) ?_
    show oS p e below s₁ m 60 #[.val (.int pI1), .val (.int (5 : Int32)), .unset, .unset] [] _
    refine XS.iloadN X0.here hx rfl (hb hby at_60) rfl ?_
    show oS p e below s₁ m 61 #[.val (.int pI1), .val (.int (5 : Int32)), .unset, .unset] [(.int (5 : Int32))] _
    refine XS.iconst X0.here hx rfl (hb hby at_61) ?_
    show oS p e below s₁ m 62 #[.val (.int pI1), .val (.int (5 : Int32)), .unset, .unset] [(.int (4 : Int32)), (.int (5 : Int32))] _
    refine XS.icmpYes X0.here hx rfl (pc0 := 62) (pc' := 74) rfl (hb hby at_62) rfl (feq (by decide : ¬ ((5 : Int32) = (4 : Int32)))).2 (by decide) (by decide) ?_
    show oS p e below s₁ m 74 #[.val (.int pI1), .val (.int (5 : Int32)), .unset, .unset] [] _
    refine XS.iloadN X0.here hx rfl (hb hby at_74) rfl ?_
    show oS p e below s₁ m 75 #[.val (.int pI1), .val (.int (5 : Int32)), .unset, .unset] [(.int (5 : Int32))] _
    refine XS.iconst X0.here hx rfl (hb hby at_75) ?_
    show oS p e below s₁ m 76 #[.val (.int pI1), .val (.int (5 : Int32)), .unset, .unset] [(.int (5 : Int32)), (.int (5 : Int32))] _
    refine XS.icmpNo X0.here hx rfl (hb hby at_76) rfl (teq (by decide : (5 : Int32) = (5 : Int32))).2 ?_
    show oS p e below s₁ m 79 #[.val (.int pI1), .val (.int (5 : Int32)), .unset, .unset] [] _
    refine st3 _ ?_
    show oS p e below T3 m 82 #[.val (.int pI1), .val (.int (5 : Int32)), .unset, .unset] [(.ref pR2)] _
    refine XS.astoreN X3.here hx rfl (hb hby at_82) rfl rfl (l' := #[.val (.int pI1), .val (.int (5 : Int32)), .val (.ref pR2), .unset]) rfl ?_
    show oS p e below T3 m 83 #[.val (.int pI1), .val (.int (5 : Int32)), .val (.ref pR2), .unset] [] _
    refine XS.iconst X3.here hx rfl (hb hby at_83) ?_
    show oS p e below T3 m 84 #[.val (.int pI1), .val (.int (5 : Int32)), .val (.ref pR2), .unset] [(.int (0 : Int32))] _
    refine XS.istoreN X3.here hx rfl (hb hby at_84) rfl (l' := #[.val (.int pI1), .val (.int (5 : Int32)), .val (.ref pR2), .val (.int (0 : Int32))]) rfl ?_
    show oS p e below T3 m 85 #[.val (.int pI1), .val (.int (5 : Int32)), .val (.ref pR2), .val (.int (0 : Int32))] [] _
    refine XS.goto X3.here hx rfl (pc0 := 85) (pc' := 109) rfl (hb hby at_85) (by decide) (by decide) ?_
    show oS p e below T3 m 109 #[.val (.int pI1), .val (.int (5 : Int32)), .val (.ref pR2), .val (.int (0 : Int32))] [] _
    refine XS.aloadN X3.here hx rfl (hb hby at_109) rfl rfl ?_
    show oS p e below T3 m 110 #[.val (.int pI1), .val (.int (5 : Int32)), .val (.ref pR2), .val (.int (0 : Int32))] [(.ref pR2)] _
    refine st5.trans ?_
    show oS p e below T5 m 113 #[.val (.int pI1), .val (.int (5 : Int32)), .val (.ref pR2), .val (.int (0 : Int32))] [(.int (0 : Int32))] _
    refine XS.iloadN X5.here hx rfl (hb hby at_113) rfl ?_
    show oS p e below T5 m 114 #[.val (.int pI1), .val (.int (5 : Int32)), .val (.ref pR2), .val (.int (0 : Int32))] [(.int (0 : Int32)), (.int (0 : Int32))] _
    refine XS.icmpNo X5.here hx rfl (hb hby at_114) rfl (teq (by decide : (0 : Int32) = (0 : Int32))).2 ?_
    show oS p e below T5 m 117 #[.val (.int pI1), .val (.int (5 : Int32)), .val (.ref pR2), .val (.int (0 : Int32))] [] _
    refine XS.iconst X5.here hx rfl (hb hby at_117) ?_
    show oS p e below T5 m 118 #[.val (.int pI1), .val (.int (5 : Int32)), .val (.ref pR2), .val (.int (0 : Int32))] [(.int (1 : Int32))] _
    refine XS.goto X5.here hx rfl (pc0 := 118) (pc' := 122) rfl (hb hby at_118) (by decide) (by decide) ?_
    show oS p e below T5 m 122 #[.val (.int pI1), .val (.int (5 : Int32)), .val (.ref pR2), .val (.int (0 : Int32))] [(.int (1 : Int32))] _
    exact retN X5 hx (t := .boolean) Bd.returns (by simp) (hb hby at_122) hr
  · show Qlaw5 Z pI1 pR2 pI4 h0 n0 _ T5.heap _
    rw [e5]
    exact ⟨rfl, N5⟩
theorem ef_law6 (m : MethodId) (pI1 : Int32) : entryFrame m #[(.int pI1)] maxLocals = mkF m 0 #[.val (.int pI1), .unset, .unset, .unset] [] := by first | (simp [entryFrame, mkF, argsToLocals, Value.category, maxLocals]; done) | rfl
def Qlaw6 (Z : State) (pI1 : Int32) (pR2 : Addr) (pI4 : Int32) (h0 : Heap) (n0 : Nat) (v : Option Value) (h : Heap) (L : List Loc) : Prop := v = some (.int (1 : Int32)) ∧ Fr n0 L
set_option maxRecDepth 65536 in
set_option maxHeartbeats 40000000 in
theorem law6 (l : Launch) (Z : State) (a0 : Array Value) (hw : ∀ d ∈ tables_1, d.before a0 Z = true) (ws : List Jvm.Cond) (pI1 : Int32) (pR2 : Addr) (pI4 : Int32) (h0 : Heap) (n0 : Nat) (Z0 : n0 ≤ h0.size) (S_Trait_HOME_PHONE : Sta Z h0 "com/example/vaxwire/vaxwire/match/Trait" "HOME_PHONE" "Lcom/example/vaxwire/vaxwire/match/Trait;" (.ref pR2)) (F_pidField_pR2 : Fld Z h0 pR2 "com/example/vaxwire/vaxwire/match/Trait" "pidField" "I" (.int pI4)) (E_pR2 : Exa Z h0 pR2 "com/example/vaxwire/vaxwire/match/Trait") (hc3 : (pI1 &&& (7 : Int32)) = (6 : Int32)) (hc110 : ¬ (pI4 = (3 : Int32))) :
    MetFree l x (head1 (Jvm.Cond.code x code maxLocals ret :: ws) room_1) (fun a U => a = #[(.int pI1)] ∧ Z.Warmed39 U.vm ∧ U.heap = h0) (fun _ _ _ _ _ => True) (fun _ U o U' => ∃ v L, o = .returned v ∧ Qlaw6 Z pI1 pR2 pI4 h0 n0 v U'.heap L ∧ FrameEnd U o U' L room_1.cells room_1.slots) := by
  refine MetFree.of_bodySF (plainFor_of_name pn_1) hisR ?_
  intro p e s m args below meth c s₁ Bd hml0 hP hK
  obtain ⟨rfl, hZ, hh⟩ := hP
  have hx := Bd.exec
  have hby := Bd.bytes
  have hml : c.maxLocals = 4 := hml0
  have hown : s.vm.findClass "com/example/vaxwire/vaxwire/match/TraitIdentifiesPinLaw" = some m.cls := findClass_of_methodNamed Bd.named
  have hnm := (name_of_methodNamed Bd.named Bd.method).1
  have X0 : Stand p l e room_1 s m #[(.int pI1)] below meth c s₁ [] 0 0 := Stand.of_body Bd
  have e0 : s₁.heap = h0 := by rw [← hh, Bd.state]; rfl
  have N0 := Fr.nil n0
  have pre0 : ∀ t, Steps p.tables e below (s₁.setTop (mkF m 0 #[.val (.int pI1), .unset, .unset, .unset] [])) t → Steps p.tables e below (s₁.setTop (entryFrame m #[(.int pI1)] maxLocals)) t := fun t k => castTop (ef_law6 m pI1) k
  obtain ⟨T3, X3, e3, st3⟩ := getS2 X0 hx hZ hown (host := "") (Or.inl (ow hw 12 rfl)) Via.refl e0 S_Trait_HOME_PHONE (g := (mkF m 94 #[.val (.int pI1), .val (.int (6 : Int32)), .unset, .unset] [])) rfl (hb hby at_94)
  obtain ⟨cq5, kq5, q5a, q5b, q5c⟩ := isOf hZ e3 E_pR2
  obtain ⟨_, _, ⟨T5, L5, k5, n5⟩, -, X5, ⟨Lc5, hQ5, l5, y5, z5⟩, st5⟩ := X3.virtualBack hx (y := yN0) (z := yN0) hown (mvT hZ (ow hw 3 rfl)) (mvT hZ (ow hw 4 rfl)) (notFace_of_selects (args := #[]) (mvT hZ (ow hw 6 rfl))) (mvT hZ (ow hw 6 rfl)) (mvT hZ (ow hw 5 rfl)) (by decide) (backOf (W := 0) (idN l Z a0 hw [] pR2 pI4 h0 n0 Z0 F_pidField_pR2 hc110) hZ (ow hw 7 rfl) (ow hw 1 rfl) (by decide) (by decide)) q5a q5c (g := (mkF m 110 #[.val (.int pI1), .val (.int (6 : Int32)), .val (.ref pR2), .val (.int (0 : Int32))] [(.ref pR2)])) rfl (by rw [hml]; rfl) (Steps.refl _) (argsL := []) (rest := []) (lenOf pd_0 rfl) rfl (by show 2 * 0 + _ ≤ _; exact Nat.le_of_eq rfl) (hb hby at_110) (fun _ _ => ⟨rfl, e3, (by decide : 0 + 0 ≤ _), (by decide : 0 + 0 ≤ _)⟩)
  dsimp only [Pt.U, Pt.locs, Pt.cells, Pt.slots] at X5 l5 y5 z5 st5 hQ5
  subst l5 y5 z5
  obtain ⟨rfl, Nq5, e5⟩ := hQ5
  have N5 := Fr.app N0 Nq5
  obtain ⟨fs, hr, hrun, hended, hW, hsame⟩ := X5.leave (v := some (.int (1 : Int32))) (fun h => by rw [Bd.returns] at h; cases h)
  refine ⟨_, _, pre0 _ ?_, hrun, hended, _, _, rfl, ?_, ⟨_, rfl⟩, hW, hsame.mono (by decide) (by decide)⟩
  · show oS p e below s₁ m 0 #[.val (.int pI1), .unset, .unset, .unset] [] _
    refine XS.iloadN X0.here hx rfl (hb hby at_0) rfl ?_
    show oS p e below s₁ m 1 #[.val (.int pI1), .unset, .unset, .unset] [(.int pI1)] _
    refine XS.bipush X0.here hx rfl (hb hby at_1) ?_
    show oS p e below s₁ m 3 #[.val (.int pI1), .unset, .unset, .unset] [(.int (7 : Int32)), (.int pI1)] _
    refine XS.iand X0.here hx rfl (hb hby at_3) rfl ?_
    show Steps p.tables e below (s₁.setTop (mkF m 4 #[.val (.int pI1), .unset, .unset, .unset] [(.int (pI1 &&& (7 : Int32)))])) _
    rw [hc3]
    show oS p e below s₁ m 4 #[.val (.int pI1), .unset, .unset, .unset] [(.int (6 : Int32))] _
    refine XS.istoreN X0.here hx rfl (hb hby at_4) rfl (l' := #[.val (.int pI1), .val (.int (6 : Int32)), .unset, .unset]) rfl ?_
    show oS p e below s₁ m 5 #[.val (.int pI1), .val (.int (6 : Int32)), .unset, .unset] [] _
    refine XS.iloadN X0.here hx rfl (hb hby at_5) rfl ?_
    show oS p e below s₁ m 6 #[.val (.int pI1), .val (.int (6 : Int32)), .unset, .unset] [(.int (6 : Int32))] _
    refine XS.ifYes X0.here hx rfl (pc0 := 6) (pc' := 18) rfl (hb hby at_6) rfl ((if0 _ _).trans (feq (by decide : ¬ ((6 : Int32) = (0 : Int32)))).2) (by decide) (by decide) ?_
    show oS p e below s₁ m 18 #[.val (.int pI1), .val (.int (6 : Int32)), .unset, .unset] [] _
    refine XS.iloadN X0.here hx rfl (hb hby at_18) rfl ?_
    show oS p e below s₁ m 19 #[.val (.int pI1), .val (.int (6 : Int32)), .unset, .unset] [(.int (6 : Int32))] _
    refine XS.iconst X0.here hx rfl (hb hby at_19) ?_
    show oS p e below s₁ m 20 #[.val (.int pI1), .val (.int (6 : Int32)), .unset, .unset] [(.int (1 : Int32)), (.int (6 : Int32))] _
    refine XS.icmpYes X0.here hx rfl (pc0 := 20) (pc' := 32) rfl (hb hby at_20) rfl (feq (by decide : ¬ ((6 : Int32) = (1 : Int32)))).2 (by decide) (by decide) ?_
    show oS p e below s₁ m 32 #[.val (.int pI1), .val (.int (6 : Int32)), .unset, .unset] [] _
    refine XS.iloadN X0.here hx rfl (hb hby at_32) rfl ?_
    show oS p e below s₁ m 33 #[.val (.int pI1), .val (.int (6 : Int32)), .unset, .unset] [(.int (6 : Int32))] _
    refine XS.iconst X0.here hx rfl (hb hby at_33) ?_
    show oS p e below s₁ m 34 #[.val (.int pI1), .val (.int (6 : Int32)), .unset, .unset] [(.int (2 : Int32)), (.int (6 : Int32))] _
    refine XS.icmpYes X0.here hx rfl (pc0 := 34) (pc' := 46) rfl (hb hby at_34) rfl (feq (by decide : ¬ ((6 : Int32) = (2 : Int32)))).2 (by decide) (by decide) ?_
    show oS p e below s₁ m 46 #[.val (.int pI1), .val (.int (6 : Int32)), .unset, .unset] [] _
    refine XS.iloadN X0.here hx rfl (hb hby at_46) rfl ?_
    show oS p e below s₁ m 47 #[.val (.int pI1), .val (.int (6 : Int32)), .unset, .unset] [(.int (6 : Int32))] _
    refine XS.iconst X0.here hx rfl (hb hby at_47) ?_
    show oS p e below s₁ m 48 #[.val (.int pI1), .val (.int (6 : Int32)), .unset, .unset] [(.int (3 : Int32)), (.int (6 : Int32))] _
    refine XS.icmpYes X0.here hx rfl (pc0 := 48) (pc' := 60) rfl (hb hby at_48) rfl (feq (by decide : ¬ ((6 : Int32) = (3 : Int32)))).2 (by decide) (by decide) ?_
    show oS p e below s₁ m 60 #[.val (.int pI1), .val (.int (6 : Int32)), .unset, .unset] [] _
    refine XS.iloadN X0.here hx rfl (hb hby at_60) rfl ?_
    show oS p e below s₁ m 61 #[.val (.int pI1), .val (.int (6 : Int32)), .unset, .unset] [(.int (6 : Int32))] _
    refine XS.iconst X0.here hx rfl (hb hby at_61) ?_
    show oS p e below s₁ m 62 #[.val (.int pI1), .val (.int (6 : Int32)), .unset, .unset] [(.int (4 : Int32)), (.int (6 : Int32))] _
    refine XS.icmpYes X0.here hx rfl (pc0 := 62) (pc' := 74) rfl (hb hby at_62) rfl (feq (by decide : ¬ ((6 : Int32) = (4 : Int32)))).2 (by decide) (by decide) ?_
    show oS p e below s₁ m 74 #[.val (.int pI1), .val (.int (6 : Int32)), .unset, .unset] [] _
    refine XS.iloadN X0.here hx rfl (hb hby at_74) rfl ?_
    show oS p e below s₁ m 75 #[.val (.int pI1), .val (.int (6 : Int32)), .unset, .unset] [(.int (6 : Int32))] _
    refine XS.iconst X0.here hx rfl (hb hby at_75) ?_
    show oS p e below s₁ m 76 #[.val (.int pI1), .val (.int (6 : Int32)), .unset, .unset] [(.int (5 : Int32)), (.int (6 : Int32))] _
    refine XS.icmpYes X0.here hx rfl (pc0 := 76) (pc' := 88) rfl (hb hby at_76) rfl (feq (by decide : ¬ ((6 : Int32) = (5 : Int32)))).2 (by decide) (by decide) ?_
    show oS p e below s₁ m 88 #[.val (.int pI1), .val (.int (6 : Int32)), .unset, .unset] [] _
    refine XS.iloadN X0.here hx rfl (hb hby at_88) rfl ?_
    show oS p e below s₁ m 89 #[.val (.int pI1), .val (.int (6 : Int32)), .unset, .unset] [(.int (6 : Int32))] _
    refine XS.bipush X0.here hx rfl (hb hby at_89) ?_
    show oS p e below s₁ m 91 #[.val (.int pI1), .val (.int (6 : Int32)), .unset, .unset] [(.int (6 : Int32)), (.int (6 : Int32))] _
    refine XS.icmpNo X0.here hx rfl (hb hby at_91) rfl (teq (by decide : (6 : Int32) = (6 : Int32))).2 ?_
    show oS p e below s₁ m 94 #[.val (.int pI1), .val (.int (6 : Int32)), .unset, .unset] [] _
    refine st3 _ ?_
    show oS p e below T3 m 97 #[.val (.int pI1), .val (.int (6 : Int32)), .unset, .unset] [(.ref pR2)] _
    refine XS.astoreN X3.here hx rfl (hb hby at_97) rfl rfl (l' := #[.val (.int pI1), .val (.int (6 : Int32)), .val (.ref pR2), .unset]) rfl ?_
    show oS p e below T3 m 98 #[.val (.int pI1), .val (.int (6 : Int32)), .val (.ref pR2), .unset] [] _
    refine XS.iconst X3.here hx rfl (hb hby at_98) ?_
    show oS p e below T3 m 99 #[.val (.int pI1), .val (.int (6 : Int32)), .val (.ref pR2), .unset] [(.int (0 : Int32))] _
    refine XS.istoreN X3.here hx rfl (hb hby at_99) rfl (l' := #[.val (.int pI1), .val (.int (6 : Int32)), .val (.ref pR2), .val (.int (0 : Int32))]) rfl ?_
    show oS p e below T3 m 100 #[.val (.int pI1), .val (.int (6 : Int32)), .val (.ref pR2), .val (.int (0 : Int32))] [] _
    refine XS.goto X3.here hx rfl (pc0 := 100) (pc' := 109) rfl (hb hby at_100) (by decide) (by decide) ?_
    show oS p e below T3 m 109 #[.val (.int pI1), .val (.int (6 : Int32)), .val (.ref pR2), .val (.int (0 : Int32))] [] _
    refine XS.aloadN X3.here hx rfl (hb hby at_109) rfl rfl ?_
    show oS p e below T3 m 110 #[.val (.int pI1), .val (.int (6 : Int32)), .val (.ref pR2), .val (.int (0 : Int32))] [(.ref pR2)] _
    refine st5.trans ?_
    show oS p e below T5 m 113 #[.val (.int pI1), .val (.int (6 : Int32)), .val (.ref pR2), .val (.int (0 : Int32))] [(.int (0 : Int32))] _
    refine XS.iloadN X5.here hx rfl (hb hby at_113) rfl ?_
    show oS p e below T5 m 114 #[.val (.int pI1), .val (.int (6 : Int32)), .val (.ref pR2), .val (.int (0 : Int32))] [(.int (0 : Int32)), (.int (0 : Int32))] _
    refine XS.icmpNo X5.here hx rfl (hb hby at_114) rfl (teq (by decide : (0 : Int32) = (0 : Int32))).2 ?_
    show oS p e below T5 m 117 #[.val (.int pI1), .val (.int (6 : Int32)), .val (.ref pR2), .val (.int (0 : Int32))] [] _
    refine XS.iconst X5.here hx rfl (hb hby at_117) ?_
    show oS p e below T5 m 118 #[.val (.int pI1), .val (.int (6 : Int32)), .val (.ref pR2), .val (.int (0 : Int32))] [(.int (1 : Int32))] _
    refine XS.goto X5.here hx rfl (pc0 := 118) (pc' := 122) rfl (hb hby at_118) (by decide) (by decide) ?_
    show oS p e below T5 m 122 #[.val (.int pI1), .val (.int (6 : Int32)), .val (.ref pR2), .val (.int (0 : Int32))] [(.int (1 : Int32))] _
    exact retN X5 hx (t := .boolean) Bd.returns (by simp) (hb hby at_122) hr
  · show Qlaw6 Z pI1 pR2 pI4 h0 n0 _ T5.heap _
    rw [e5]
    exact ⟨rfl, N5⟩
theorem ef_law7 (m : MethodId) (pI1 : Int32) : entryFrame m #[(.int pI1)] maxLocals = mkF m 0 #[.val (.int pI1), .unset, .unset, .unset] [] := by first | (simp [entryFrame, mkF, argsToLocals, Value.category, maxLocals]; done) | rfl
def Qlaw7 (Z : State) (pI1 : Int32) (pR2 : Addr) (pI4 : Int32) (h0 : Heap) (n0 : Nat) (v : Option Value) (h : Heap) (L : List Loc) : Prop := v = some (.int (1 : Int32)) ∧ Fr n0 L
set_option maxRecDepth 65536 in
set_option maxHeartbeats 40000000 in
theorem law7 (l : Launch) (Z : State) (a0 : Array Value) (hw : ∀ d ∈ tables_1, d.before a0 Z = true) (ws : List Jvm.Cond) (pI1 : Int32) (pR2 : Addr) (pI4 : Int32) (h0 : Heap) (n0 : Nat) (Z0 : n0 ≤ h0.size) (S_Trait_ADDRESS : Sta Z h0 "com/example/vaxwire/vaxwire/match/Trait" "ADDRESS" "Lcom/example/vaxwire/vaxwire/match/Trait;" (.ref pR2)) (F_pidField_pR2 : Fld Z h0 pR2 "com/example/vaxwire/vaxwire/match/Trait" "pidField" "I" (.int pI4)) (E_pR2 : Exa Z h0 pR2 "com/example/vaxwire/vaxwire/match/Trait") (hc3 : (pI1 &&& (7 : Int32)) = (7 : Int32)) (hc110 : ¬ (pI4 = (3 : Int32))) :
    MetFree l x (head1 (Jvm.Cond.code x code maxLocals ret :: ws) room_1) (fun a U => a = #[(.int pI1)] ∧ Z.Warmed39 U.vm ∧ U.heap = h0) (fun _ _ _ _ _ => True) (fun _ U o U' => ∃ v L, o = .returned v ∧ Qlaw7 Z pI1 pR2 pI4 h0 n0 v U'.heap L ∧ FrameEnd U o U' L room_1.cells room_1.slots) := by
  refine MetFree.of_bodySF (plainFor_of_name pn_1) hisR ?_
  intro p e s m args below meth c s₁ Bd hml0 hP hK
  obtain ⟨rfl, hZ, hh⟩ := hP
  have hx := Bd.exec
  have hby := Bd.bytes
  have hml : c.maxLocals = 4 := hml0
  have hown : s.vm.findClass "com/example/vaxwire/vaxwire/match/TraitIdentifiesPinLaw" = some m.cls := findClass_of_methodNamed Bd.named
  have hnm := (name_of_methodNamed Bd.named Bd.method).1
  have X0 : Stand p l e room_1 s m #[(.int pI1)] below meth c s₁ [] 0 0 := Stand.of_body Bd
  have e0 : s₁.heap = h0 := by rw [← hh, Bd.state]; rfl
  have N0 := Fr.nil n0
  have pre0 : ∀ t, Steps p.tables e below (s₁.setTop (mkF m 0 #[.val (.int pI1), .unset, .unset, .unset] [])) t → Steps p.tables e below (s₁.setTop (entryFrame m #[(.int pI1)] maxLocals)) t := fun t k => castTop (ef_law7 m pI1) k
  obtain ⟨T3, X3, e3, st3⟩ := getS2 X0 hx hZ hown (host := "") (Or.inl (ow hw 14 rfl)) Via.refl e0 S_Trait_ADDRESS (g := (mkF m 103 #[.val (.int pI1), .val (.int (7 : Int32)), .unset, .unset] [])) rfl (hb hby at_103)
  obtain ⟨cq5, kq5, q5a, q5b, q5c⟩ := isOf hZ e3 E_pR2
  obtain ⟨_, _, ⟨T5, L5, k5, n5⟩, -, X5, ⟨Lc5, hQ5, l5, y5, z5⟩, st5⟩ := X3.virtualBack hx (y := yN0) (z := yN0) hown (mvT hZ (ow hw 3 rfl)) (mvT hZ (ow hw 4 rfl)) (notFace_of_selects (args := #[]) (mvT hZ (ow hw 6 rfl))) (mvT hZ (ow hw 6 rfl)) (mvT hZ (ow hw 5 rfl)) (by decide) (backOf (W := 0) (idN l Z a0 hw [] pR2 pI4 h0 n0 Z0 F_pidField_pR2 hc110) hZ (ow hw 7 rfl) (ow hw 1 rfl) (by decide) (by decide)) q5a q5c (g := (mkF m 110 #[.val (.int pI1), .val (.int (7 : Int32)), .val (.ref pR2), .val (.int (0 : Int32))] [(.ref pR2)])) rfl (by rw [hml]; rfl) (Steps.refl _) (argsL := []) (rest := []) (lenOf pd_0 rfl) rfl (by show 2 * 0 + _ ≤ _; exact Nat.le_of_eq rfl) (hb hby at_110) (fun _ _ => ⟨rfl, e3, (by decide : 0 + 0 ≤ _), (by decide : 0 + 0 ≤ _)⟩)
  dsimp only [Pt.U, Pt.locs, Pt.cells, Pt.slots] at X5 l5 y5 z5 st5 hQ5
  subst l5 y5 z5
  obtain ⟨rfl, Nq5, e5⟩ := hQ5
  have N5 := Fr.app N0 Nq5
  obtain ⟨fs, hr, hrun, hended, hW, hsame⟩ := X5.leave (v := some (.int (1 : Int32))) (fun h => by rw [Bd.returns] at h; cases h)
  refine ⟨_, _, pre0 _ ?_, hrun, hended, _, _, rfl, ?_, ⟨_, rfl⟩, hW, hsame.mono (by decide) (by decide)⟩
  · show oS p e below s₁ m 0 #[.val (.int pI1), .unset, .unset, .unset] [] _
    refine XS.iloadN X0.here hx rfl (hb hby at_0) rfl ?_
    show oS p e below s₁ m 1 #[.val (.int pI1), .unset, .unset, .unset] [(.int pI1)] _
    refine XS.bipush X0.here hx rfl (hb hby at_1) ?_
    show oS p e below s₁ m 3 #[.val (.int pI1), .unset, .unset, .unset] [(.int (7 : Int32)), (.int pI1)] _
    refine XS.iand X0.here hx rfl (hb hby at_3) rfl ?_
    show Steps p.tables e below (s₁.setTop (mkF m 4 #[.val (.int pI1), .unset, .unset, .unset] [(.int (pI1 &&& (7 : Int32)))])) _
    rw [hc3]
    show oS p e below s₁ m 4 #[.val (.int pI1), .unset, .unset, .unset] [(.int (7 : Int32))] _
    refine XS.istoreN X0.here hx rfl (hb hby at_4) rfl (l' := #[.val (.int pI1), .val (.int (7 : Int32)), .unset, .unset]) rfl ?_
    show oS p e below s₁ m 5 #[.val (.int pI1), .val (.int (7 : Int32)), .unset, .unset] [] _
    refine XS.iloadN X0.here hx rfl (hb hby at_5) rfl ?_
    show oS p e below s₁ m 6 #[.val (.int pI1), .val (.int (7 : Int32)), .unset, .unset] [(.int (7 : Int32))] _
    refine XS.ifYes X0.here hx rfl (pc0 := 6) (pc' := 18) rfl (hb hby at_6) rfl ((if0 _ _).trans (feq (by decide : ¬ ((7 : Int32) = (0 : Int32)))).2) (by decide) (by decide) ?_
    show oS p e below s₁ m 18 #[.val (.int pI1), .val (.int (7 : Int32)), .unset, .unset] [] _
    refine XS.iloadN X0.here hx rfl (hb hby at_18) rfl ?_
    show oS p e below s₁ m 19 #[.val (.int pI1), .val (.int (7 : Int32)), .unset, .unset] [(.int (7 : Int32))] _
    refine XS.iconst X0.here hx rfl (hb hby at_19) ?_
    show oS p e below s₁ m 20 #[.val (.int pI1), .val (.int (7 : Int32)), .unset, .unset] [(.int (1 : Int32)), (.int (7 : Int32))] _
    refine XS.icmpYes X0.here hx rfl (pc0 := 20) (pc' := 32) rfl (hb hby at_20) rfl (feq (by decide : ¬ ((7 : Int32) = (1 : Int32)))).2 (by decide) (by decide) ?_
    show oS p e below s₁ m 32 #[.val (.int pI1), .val (.int (7 : Int32)), .unset, .unset] [] _
    refine XS.iloadN X0.here hx rfl (hb hby at_32) rfl ?_
    show oS p e below s₁ m 33 #[.val (.int pI1), .val (.int (7 : Int32)), .unset, .unset] [(.int (7 : Int32))] _
    refine XS.iconst X0.here hx rfl (hb hby at_33) ?_
    show oS p e below s₁ m 34 #[.val (.int pI1), .val (.int (7 : Int32)), .unset, .unset] [(.int (2 : Int32)), (.int (7 : Int32))] _
    refine XS.icmpYes X0.here hx rfl (pc0 := 34) (pc' := 46) rfl (hb hby at_34) rfl (feq (by decide : ¬ ((7 : Int32) = (2 : Int32)))).2 (by decide) (by decide) ?_
    show oS p e below s₁ m 46 #[.val (.int pI1), .val (.int (7 : Int32)), .unset, .unset] [] _
    refine XS.iloadN X0.here hx rfl (hb hby at_46) rfl ?_
    show oS p e below s₁ m 47 #[.val (.int pI1), .val (.int (7 : Int32)), .unset, .unset] [(.int (7 : Int32))] _
    refine XS.iconst X0.here hx rfl (hb hby at_47) ?_
    show oS p e below s₁ m 48 #[.val (.int pI1), .val (.int (7 : Int32)), .unset, .unset] [(.int (3 : Int32)), (.int (7 : Int32))] _
    refine XS.icmpYes X0.here hx rfl (pc0 := 48) (pc' := 60) rfl (hb hby at_48) rfl (feq (by decide : ¬ ((7 : Int32) = (3 : Int32)))).2 (by decide) (by decide) ?_
    show oS p e below s₁ m 60 #[.val (.int pI1), .val (.int (7 : Int32)), .unset, .unset] [] _
    refine XS.iloadN X0.here hx rfl (hb hby at_60) rfl ?_
    show oS p e below s₁ m 61 #[.val (.int pI1), .val (.int (7 : Int32)), .unset, .unset] [(.int (7 : Int32))] _
    refine XS.iconst X0.here hx rfl (hb hby at_61) ?_
    show oS p e below s₁ m 62 #[.val (.int pI1), .val (.int (7 : Int32)), .unset, .unset] [(.int (4 : Int32)), (.int (7 : Int32))] _
    refine XS.icmpYes X0.here hx rfl (pc0 := 62) (pc' := 74) rfl (hb hby at_62) rfl (feq (by decide : ¬ ((7 : Int32) = (4 : Int32)))).2 (by decide) (by decide) ?_
    show oS p e below s₁ m 74 #[.val (.int pI1), .val (.int (7 : Int32)), .unset, .unset] [] _
    refine XS.iloadN X0.here hx rfl (hb hby at_74) rfl ?_
    show oS p e below s₁ m 75 #[.val (.int pI1), .val (.int (7 : Int32)), .unset, .unset] [(.int (7 : Int32))] _
    refine XS.iconst X0.here hx rfl (hb hby at_75) ?_
    show oS p e below s₁ m 76 #[.val (.int pI1), .val (.int (7 : Int32)), .unset, .unset] [(.int (5 : Int32)), (.int (7 : Int32))] _
    refine XS.icmpYes X0.here hx rfl (pc0 := 76) (pc' := 88) rfl (hb hby at_76) rfl (feq (by decide : ¬ ((7 : Int32) = (5 : Int32)))).2 (by decide) (by decide) ?_
    show oS p e below s₁ m 88 #[.val (.int pI1), .val (.int (7 : Int32)), .unset, .unset] [] _
    refine XS.iloadN X0.here hx rfl (hb hby at_88) rfl ?_
    show oS p e below s₁ m 89 #[.val (.int pI1), .val (.int (7 : Int32)), .unset, .unset] [(.int (7 : Int32))] _
    refine XS.bipush X0.here hx rfl (hb hby at_89) ?_
    show oS p e below s₁ m 91 #[.val (.int pI1), .val (.int (7 : Int32)), .unset, .unset] [(.int (6 : Int32)), (.int (7 : Int32))] _
    refine XS.icmpYes X0.here hx rfl (pc0 := 91) (pc' := 103) rfl (hb hby at_91) rfl (feq (by decide : ¬ ((7 : Int32) = (6 : Int32)))).2 (by decide) (by decide) ?_
    show oS p e below s₁ m 103 #[.val (.int pI1), .val (.int (7 : Int32)), .unset, .unset] [] _
    refine st3 _ ?_
    show oS p e below T3 m 106 #[.val (.int pI1), .val (.int (7 : Int32)), .unset, .unset] [(.ref pR2)] _
    refine XS.astoreN X3.here hx rfl (hb hby at_106) rfl rfl (l' := #[.val (.int pI1), .val (.int (7 : Int32)), .val (.ref pR2), .unset]) rfl ?_
    show oS p e below T3 m 107 #[.val (.int pI1), .val (.int (7 : Int32)), .val (.ref pR2), .unset] [] _
    refine XS.iconst X3.here hx rfl (hb hby at_107) ?_
    show oS p e below T3 m 108 #[.val (.int pI1), .val (.int (7 : Int32)), .val (.ref pR2), .unset] [(.int (0 : Int32))] _
    refine XS.istoreN X3.here hx rfl (hb hby at_108) rfl (l' := #[.val (.int pI1), .val (.int (7 : Int32)), .val (.ref pR2), .val (.int (0 : Int32))]) rfl ?_
    show oS p e below T3 m 109 #[.val (.int pI1), .val (.int (7 : Int32)), .val (.ref pR2), .val (.int (0 : Int32))] [] _
    refine XS.aloadN X3.here hx rfl (hb hby at_109) rfl rfl ?_
    show oS p e below T3 m 110 #[.val (.int pI1), .val (.int (7 : Int32)), .val (.ref pR2), .val (.int (0 : Int32))] [(.ref pR2)] _
    refine st5.trans ?_
    show oS p e below T5 m 113 #[.val (.int pI1), .val (.int (7 : Int32)), .val (.ref pR2), .val (.int (0 : Int32))] [(.int (0 : Int32))] _
    refine XS.iloadN X5.here hx rfl (hb hby at_113) rfl ?_
    show oS p e below T5 m 114 #[.val (.int pI1), .val (.int (7 : Int32)), .val (.ref pR2), .val (.int (0 : Int32))] [(.int (0 : Int32)), (.int (0 : Int32))] _
    refine XS.icmpNo X5.here hx rfl (hb hby at_114) rfl (teq (by decide : (0 : Int32) = (0 : Int32))).2 ?_
    show oS p e below T5 m 117 #[.val (.int pI1), .val (.int (7 : Int32)), .val (.ref pR2), .val (.int (0 : Int32))] [] _
    refine XS.iconst X5.here hx rfl (hb hby at_117) ?_
    show oS p e below T5 m 118 #[.val (.int pI1), .val (.int (7 : Int32)), .val (.ref pR2), .val (.int (0 : Int32))] [(.int (1 : Int32))] _
    refine XS.goto X5.here hx rfl (pc0 := 118) (pc' := 122) rfl (hb hby at_118) (by decide) (by decide) ?_
    show oS p e below T5 m 122 #[.val (.int pI1), .val (.int (7 : Int32)), .val (.ref pR2), .val (.int (0 : Int32))] [(.int (1 : Int32))] _
    exact retN X5 hx (t := .boolean) Bd.returns (by simp) (hb hby at_122) hr
  · show Qlaw7 Z pI1 pR2 pI4 h0 n0 _ T5.heap _
    rw [e5]
    exact ⟨rfl, N5⟩
set_option maxRecDepth 65536 in
set_option maxHeartbeats 40000000 in
theorem comes_1 {Post : Tables → Env → Array Value → State → Outcome → State → Prop} (hpost : ∀ tb e args s v u, (limb_1_1.after args s (.returned v) u = true ∧ limb_1_2.after args s (.returned v) u = true ∧ True) → FrameEnd s (.returned v) u (Jvm.fieldLocs frame_1_writes args s ++ Jvm.arrayLocs frame_1_arrays args s ++ Jvm.staticLocs frame_1_statics s) 0 0 → Post tb e args s (.returned v) u) :
    ArmFor flags0 classFile x code maxLocals ret World_1 tables_1 room_1 Calls_1 rest_1 Pre_1 Post := by
  intro l hfl _ _ p e ha hc hk s m args below hf hA hF happ hP
  obtain ⟨hcalls, hrest, hpre⟩ := hP
  obtain ⟨-, -, -, hnamed, -, -, -, hat⟩ := (Spec.applies_iff hf).mp happ
  obtain ⟨hg, hn⟩ := and_e (Cond.before_iff.mp (show (Jvm.Cond.and given_1 narrow_1).before args s = true from hpre))
  obtain ⟨w1, w2⟩ := and_e hg
  obtain ⟨w3, w4⟩ := and_e hn
  obtain ⟨w5, w6⟩ := and_e w4
  obtain ⟨w7, w8⟩ := and_e w6
  obtain ⟨w9, w10⟩ := and_e w8
  obtain ⟨w11, w12⟩ := and_e w10
  obtain ⟨w13, w14⟩ := and_e w12
  obtain ⟨w15, w16⟩ := and_e w14
  obtain ⟨w17, w18⟩ := and_e w16
  obtain ⟨w19, w20⟩ := and_e w18
  obtain ⟨w21, w22⟩ := and_e w20
  obtain ⟨w23, w24⟩ := and_e w22
  obtain ⟨w25, w26⟩ := and_e w24
  obtain ⟨w27, w28⟩ := and_e w26
  obtain ⟨w29, w30⟩ := and_e w28
  obtain ⟨w31, w32⟩ := and_e w30
  obtain ⟨v0, rfl⟩ : ∃ v0 : Value, args = #[v0] := by
    have hs : args.size = 1 := by simpa [Cond.value, given_1] using w1
    obtain ⟨L⟩ := args
    match L, hs with
    | [v0], _ => exact ⟨v0, rfl⟩
  have hw := fun d (hd : d ∈ tables_1) => atoms_spec (ws := Jvm.Cond.code x code maxLocals ret :: tables_1) hat d (List.mem_cons_of_mem _ hd)
  have hfit : Fit s := fun {y c} hc i hi => by
    obtain ⟨ha, rfl⟩ := Array.getElem?_eq_some_iff.mp hc
    have q := List.all_eq_true.mp ((Array.all_eq_true_iff_forall_mem.mp hF) _ (Array.getElem_mem ha)) i (List.mem_range.mpr hi)
    simpa [Array.getElem?_eq_getElem hi] using q
  obtain ⟨i0, ei0⟩ := is_v w2
  obtain rfl : v0 = (.int i0) := Option.some.inj ei0
  obtain ⟨bR33, ev34⟩ := exa_v w3
  have S35 : Sta s s.heap "com/example/vaxwire/vaxwire/match/Trait" "SOCIAL_SECURITY_NUMBER" "Lcom/example/vaxwire/vaxwire/match/Trait;" (.ref bR33) := Sta.start ev34 (Or.inr ⟨(ow hw 1 rfl), (ow hw 2 rfl)⟩)
  have E36 : Exa s s.heap bR33 "com/example/vaxwire/vaxwire/match/Trait" := Exa.start ev34 w3
  obtain ⟨bR37, ev38⟩ := exa_v w7
  have S39 : Sta s s.heap "com/example/vaxwire/vaxwire/match/Trait" "MEDICARE_NUMBER" "Lcom/example/vaxwire/vaxwire/match/Trait;" (.ref bR37) := Sta.start ev38 (Or.inr ⟨(ow hw 1 rfl), (ow hw 11 rfl)⟩)
  have E40 : Exa s s.heap bR37 "com/example/vaxwire/vaxwire/match/Trait" := Exa.start ev38 w7
  obtain ⟨bR41, ev42⟩ := exa_v w11
  have S43 : Sta s s.heap "com/example/vaxwire/vaxwire/match/Trait" "HOME_PHONE" "Lcom/example/vaxwire/vaxwire/match/Trait;" (.ref bR41) := Sta.start ev42 (Or.inr ⟨(ow hw 1 rfl), (ow hw 13 rfl)⟩)
  have E44 : Exa s s.heap bR41 "com/example/vaxwire/vaxwire/match/Trait" := Exa.start ev42 w11
  obtain ⟨bR45, ev46⟩ := exa_v w15
  have S47 : Sta s s.heap "com/example/vaxwire/vaxwire/match/Trait" "ADDRESS" "Lcom/example/vaxwire/vaxwire/match/Trait;" (.ref bR45) := Sta.start ev46 (Or.inr ⟨(ow hw 1 rfl), (ow hw 15 rfl)⟩)
  have E48 : Exa s s.heap bR45 "com/example/vaxwire/vaxwire/match/Trait" := Exa.start ev46 w15
  obtain ⟨bR49, ev50⟩ := exa_v w19
  have S51 : Sta s s.heap "com/example/vaxwire/vaxwire/match/Trait" "MEDICAID_NUMBER" "Lcom/example/vaxwire/vaxwire/match/Trait;" (.ref bR49) := Sta.start ev50 (Or.inr ⟨(ow hw 1 rfl), (ow hw 17 rfl)⟩)
  have E52 : Exa s s.heap bR49 "com/example/vaxwire/vaxwire/match/Trait" := Exa.start ev50 w19
  obtain ⟨bR53, ev54⟩ := exa_v w23
  have S55 : Sta s s.heap "com/example/vaxwire/vaxwire/match/Trait" "MEDICAL_RECORD_NUMBER" "Lcom/example/vaxwire/vaxwire/match/Trait;" (.ref bR53) := Sta.start ev54 (Or.inr ⟨(ow hw 1 rfl), (ow hw 19 rfl)⟩)
  have E56 : Exa s s.heap bR53 "com/example/vaxwire/vaxwire/match/Trait" := Exa.start ev54 w23
  obtain ⟨bR57, ev58⟩ := exa_v w27
  have S59 : Sta s s.heap "com/example/vaxwire/vaxwire/match/Trait" "SEX" "Lcom/example/vaxwire/vaxwire/match/Trait;" (.ref bR57) := Sta.start ev58 (Or.inr ⟨(ow hw 1 rfl), (ow hw 21 rfl)⟩)
  have E60 : Exa s s.heap bR57 "com/example/vaxwire/vaxwire/match/Trait" := Exa.start ev58 w27
  obtain ⟨bR61, ev62⟩ := exa_v w31
  have S63 : Sta s s.heap "com/example/vaxwire/vaxwire/match/Trait" "MOTHERS_MAIDEN_NAME" "Lcom/example/vaxwire/vaxwire/match/Trait;" (.ref bR61) := Sta.start ev62 (Or.inr ⟨(ow hw 1 rfl), (ow hw 23 rfl)⟩)
  have E64 : Exa s s.heap bR61 "com/example/vaxwire/vaxwire/match/Trait" := Exa.start ev62 w31
  have ev65 := Cond.eq_int (Cond.before_iff.mpr w5) rfl
  have F66 : Fld s s.heap bR33 "com/example/vaxwire/vaxwire/match/Trait" "pidField" "I" (.int (3 : Int32)) := Fld.start ((fld_at ev34).symm.trans ev65)
  have ev67 := Cond.eq_int (Cond.before_iff.mpr w9) rfl
  have F68 : Fld s s.heap bR37 "com/example/vaxwire/vaxwire/match/Trait" "pidField" "I" (.int (3 : Int32)) := Fld.start ((fld_at ev38).symm.trans ev67)
  have ev69 := Cond.eq_int (Cond.before_iff.mpr w13) rfl
  have F70 : Fld s s.heap bR41 "com/example/vaxwire/vaxwire/match/Trait" "pidField" "I" (.int (13 : Int32)) := Fld.start ((fld_at ev42).symm.trans ev69)
  have ev71 := Cond.eq_int (Cond.before_iff.mpr w17) rfl
  have F72 : Fld s s.heap bR45 "com/example/vaxwire/vaxwire/match/Trait" "pidField" "I" (.int (11 : Int32)) := Fld.start ((fld_at ev46).symm.trans ev71)
  have ev73 := Cond.eq_int (Cond.before_iff.mpr w21) rfl
  have F74 : Fld s s.heap bR49 "com/example/vaxwire/vaxwire/match/Trait" "pidField" "I" (.int (3 : Int32)) := Fld.start ((fld_at ev50).symm.trans ev73)
  have ev75 := Cond.eq_int (Cond.before_iff.mpr w25) rfl
  have F76 : Fld s s.heap bR53 "com/example/vaxwire/vaxwire/match/Trait" "pidField" "I" (.int (3 : Int32)) := Fld.start ((fld_at ev54).symm.trans ev75)
  have ev77 := Cond.eq_int (Cond.before_iff.mpr w29) rfl
  have F78 : Fld s s.heap bR57 "com/example/vaxwire/vaxwire/match/Trait" "pidField" "I" (.int (8 : Int32)) := Fld.start ((fld_at ev58).symm.trans ev77)
  have ev79 := Cond.eq_int (Cond.before_iff.mpr w32) rfl
  have F80 : Fld s s.heap bR61 "com/example/vaxwire/vaxwire/match/Trait" "pidField" "I" (.int (6 : Int32)) := Fld.start ((fld_at ev62).symm.trans ev79)
  obtain ⟨hm0, hm1⟩ := own_mask i0 (7 : Int32) 3 (by decide) (by decide)
  rcases own_in8 hm0 hm1 with hcs | hcs | hcs | hcs | hcs | hcs | hcs | hcs
  · obtain ⟨n, o, h1, h2, h3, _, L, rfl, ⟨rfl, N⟩, hq⟩ := law0 l s _ hw tables_1 i0 bR33 s.heap s.heap.size (Nat.le_refl _) S35 F66 E36 hcs p e ha hc hk s m _ below hf ((Spec.applies_iff_loose hf).mp happ).1 ⟨rfl, State.Warmed39.refl s, rfl⟩ trivial
    exact ⟨n, _, h1, h2, h3, hpost _ _ _ _ _ _ ⟨Cond.after_iff.mpr rfl, Cond.after_iff.mpr (eq_i res_at (Term.int_eval (1)) rfl), trivial⟩ ⟨hq.1, hq.2.1, (hq.2.2.sift fun y hy => Or.inr (N y hy)).mono (by decide) (by decide)⟩⟩
  · obtain ⟨n, o, h1, h2, h3, _, L, rfl, ⟨rfl, N⟩, hq⟩ := law1 l s _ hw tables_1 i0 bR53 s.heap s.heap.size (Nat.le_refl _) S55 F76 E56 hcs p e ha hc hk s m _ below hf ((Spec.applies_iff_loose hf).mp happ).1 ⟨rfl, State.Warmed39.refl s, rfl⟩ trivial
    exact ⟨n, _, h1, h2, h3, hpost _ _ _ _ _ _ ⟨Cond.after_iff.mpr rfl, Cond.after_iff.mpr (eq_i res_at (Term.int_eval (1)) rfl), trivial⟩ ⟨hq.1, hq.2.1, (hq.2.2.sift fun y hy => Or.inr (N y hy)).mono (by decide) (by decide)⟩⟩
  · obtain ⟨n, o, h1, h2, h3, _, L, rfl, ⟨rfl, N⟩, hq⟩ := law2 l s _ hw tables_1 i0 bR49 s.heap s.heap.size (Nat.le_refl _) S51 F74 E52 hcs p e ha hc hk s m _ below hf ((Spec.applies_iff_loose hf).mp happ).1 ⟨rfl, State.Warmed39.refl s, rfl⟩ trivial
    exact ⟨n, _, h1, h2, h3, hpost _ _ _ _ _ _ ⟨Cond.after_iff.mpr rfl, Cond.after_iff.mpr (eq_i res_at (Term.int_eval (1)) rfl), trivial⟩ ⟨hq.1, hq.2.1, (hq.2.2.sift fun y hy => Or.inr (N y hy)).mono (by decide) (by decide)⟩⟩
  · obtain ⟨n, o, h1, h2, h3, _, L, rfl, ⟨rfl, N⟩, hq⟩ := law3 l s _ hw tables_1 i0 bR37 s.heap s.heap.size (Nat.le_refl _) S39 F68 E40 hcs p e ha hc hk s m _ below hf ((Spec.applies_iff_loose hf).mp happ).1 ⟨rfl, State.Warmed39.refl s, rfl⟩ trivial
    exact ⟨n, _, h1, h2, h3, hpost _ _ _ _ _ _ ⟨Cond.after_iff.mpr rfl, Cond.after_iff.mpr (eq_i res_at (Term.int_eval (1)) rfl), trivial⟩ ⟨hq.1, hq.2.1, (hq.2.2.sift fun y hy => Or.inr (N y hy)).mono (by decide) (by decide)⟩⟩
  · obtain ⟨n, o, h1, h2, h3, _, L, rfl, ⟨rfl, N⟩, hq⟩ := law4 l s _ hw tables_1 i0 bR57 (8 : Int32) s.heap s.heap.size (Nat.le_refl _) S59 F78 E60 hcs (by decide) p e ha hc hk s m _ below hf ((Spec.applies_iff_loose hf).mp happ).1 ⟨rfl, State.Warmed39.refl s, rfl⟩ trivial
    exact ⟨n, _, h1, h2, h3, hpost _ _ _ _ _ _ ⟨Cond.after_iff.mpr rfl, Cond.after_iff.mpr (eq_i res_at (Term.int_eval (1)) rfl), trivial⟩ ⟨hq.1, hq.2.1, (hq.2.2.sift fun y hy => Or.inr (N y hy)).mono (by decide) (by decide)⟩⟩
  · obtain ⟨n, o, h1, h2, h3, _, L, rfl, ⟨rfl, N⟩, hq⟩ := law5 l s _ hw tables_1 i0 bR61 (6 : Int32) s.heap s.heap.size (Nat.le_refl _) S63 F80 E64 hcs (by decide) p e ha hc hk s m _ below hf ((Spec.applies_iff_loose hf).mp happ).1 ⟨rfl, State.Warmed39.refl s, rfl⟩ trivial
    exact ⟨n, _, h1, h2, h3, hpost _ _ _ _ _ _ ⟨Cond.after_iff.mpr rfl, Cond.after_iff.mpr (eq_i res_at (Term.int_eval (1)) rfl), trivial⟩ ⟨hq.1, hq.2.1, (hq.2.2.sift fun y hy => Or.inr (N y hy)).mono (by decide) (by decide)⟩⟩
  · obtain ⟨n, o, h1, h2, h3, _, L, rfl, ⟨rfl, N⟩, hq⟩ := law6 l s _ hw tables_1 i0 bR41 (13 : Int32) s.heap s.heap.size (Nat.le_refl _) S43 F70 E44 hcs (by decide) p e ha hc hk s m _ below hf ((Spec.applies_iff_loose hf).mp happ).1 ⟨rfl, State.Warmed39.refl s, rfl⟩ trivial
    exact ⟨n, _, h1, h2, h3, hpost _ _ _ _ _ _ ⟨Cond.after_iff.mpr rfl, Cond.after_iff.mpr (eq_i res_at (Term.int_eval (1)) rfl), trivial⟩ ⟨hq.1, hq.2.1, (hq.2.2.sift fun y hy => Or.inr (N y hy)).mono (by decide) (by decide)⟩⟩
  · obtain ⟨n, o, h1, h2, h3, _, L, rfl, ⟨rfl, N⟩, hq⟩ := law7 l s _ hw tables_1 i0 bR45 (11 : Int32) s.heap s.heap.size (Nat.le_refl _) S47 F72 E48 hcs (by decide) p e ha hc hk s m _ below hf ((Spec.applies_iff_loose hf).mp happ).1 ⟨rfl, State.Warmed39.refl s, rfl⟩ trivial
    exact ⟨n, _, h1, h2, h3, hpost _ _ _ _ _ _ ⟨Cond.after_iff.mpr rfl, Cond.after_iff.mpr (eq_i res_at (Term.int_eval (1)) rfl), trivial⟩ ⟨hq.1, hq.2.1, (hq.2.2.sift fun y hy => Or.inr (N y hy)).mono (by decide) (by decide)⟩⟩
theorem main_1_1 : Claimed_1_1 := comes_1 fun _ _ _ _ _ _ h hF => ⟨h.1, hF⟩
theorem main_1_2 : Claimed_1_2 := comes_1 fun _ _ _ _ _ _ h hF => ⟨h.2.1, hF⟩
end Jvm.Pilot.@@N@@
namespace Jvm.Pilot.@@N@@
open Jvm Jvm.ClassFile Sem Op Lib Jvm.Free Jvm.Stand Jvm.Pilot.@@N@@.Jvm.D
/-! MADE BY PROGRAM (witnessworld.py) out of the Statement's table words and the real class files: 12 classes; the members and pool entries that the words name. The judged class is class 1, her method 1. -/
namespace start1
open Jvm.ClassFile
def u (s : String) : CpInfo := .utf8 (stringToUtf16 s)
/-- a pool by its gaps: so many unusable entries, then the entry; so many at the end -/
def gap : Nat → List CpInfo → List CpInfo
  | 0, r => r
  | n + 1, r => .unusable :: gap n r
def poolList (es : List (Nat × CpInfo)) (last : Nat) : List CpInfo := es.foldr (fun e r => gap e.1 (e.2 :: r)) (gap last [])
def pool (es : List (Nat × CpInfo)) (last : Nat) : Array CpInfo := ⟨poolList es last⟩
def fileOf (pool : Array CpInfo) (this : Nat) (attrs : Array Attribute := #[]) (ms : Array MethodInfo := #[]) (fl : Nat := 33) (sup : Nat := 0) (ifs : Array Nat := #[]) (fds : Array FieldInfo := #[]) : ClassFile where
  minorVersion := 0
  majorVersion := 65
  constantPool := pool
  accessFlags := fl
  thisClass := this
  superClass := sup
  interfaces := ifs
  fields := fds
  methods := ms
  attributes := attrs
def plain (name : String) (sup : Option ClassId) : Class where
  name := name
  kind := .ordinary
  loader := none
  accessFlags := 33
  super := sup
  interfaces := #[]
  cf := none
  fields := #[]
  methods := #[]
  instanceTypes := #[]
  staticTypes := #[]
  resolved := #[]
  callSites := []
  init := .initialized
  statics := none
  mirror := none

def pool0 : Array CpInfo := pool [(5, u "<init>"), (0, u "()V"), (1, .class_ 10), (1, u "java/lang/Object")] 113

def k0m0 : Method := { name := "<init>", desc := "()V", sig := { parameters := [], returnType := none }, accessFlags := 1, code := none }
/-- java/lang/Object -/
def k0 : Class := { plain "java/lang/Object" none with
  accessFlags := 33
  interfaces := #[]
  cf := some (fileOf pool0 8 #[] #[{ accessFlags := 1, nameIndex := 5, descriptorIndex := 6, attributes := #[] }] 33 0 #[] #[])
  fields := #[]
  methods := #[k0m0]
  instanceTypes := #[]
  staticTypes := #[]
  resolved := Array.replicate 124 none
  statics := none }

def pool1 : Array CpInfo := pool [(2, .class_ 4), (1, u "java/lang/Object"), (0, u "<init>"), (0, u "()V"), (0, .fieldref 8 9), (0, .class_ 10), (0, .nameAndType 11 12), (0, u "com/example/vaxwire/vaxwire/match/Trait"), (0, u "SOCIAL_SECURITY_NUMBER"), (0, u "Lcom/example/vaxwire/vaxwire/match/Trait;"), (0, .fieldref 8 14), (0, .nameAndType 15 12), (0, u "MEDICAL_RECORD_NUMBER"), (0, .fieldref 8 17), (0, .nameAndType 18 12), (0, u "MEDICAID_NUMBER"), (0, .fieldref 8 20), (0, .nameAndType 21 12), (0, u "MEDICARE_NUMBER"), (0, .fieldref 8 23), (0, .nameAndType 24 12), (0, u "SEX"), (0, .fieldref 8 26), (0, .nameAndType 27 12), (0, u "MOTHERS_MAIDEN_NAME"), (0, .fieldref 8 29), (0, .nameAndType 30 12), (0, u "HOME_PHONE"), (0, .fieldref 8 32), (0, .nameAndType 33 12), (0, u "ADDRESS"), (0, .methodref 8 35), (0, .nameAndType 36 37), (0, u "identifies"), (0, u "()Z"), (0, .class_ 39), (0, u "com/example/vaxwire/vaxwire/match/TraitIdentifiesPinLaw"), (2, u "law"), (0, u "(I)Z")] 3

def k1m0 : Method := { name := "<init>", desc := "()V", sig := { parameters := [], returnType := none }, accessFlags := 1, code := none }
def k1c1 : Code := { maxStack := 2, maxLocals := 4, code := code, exceptionTable := #[], attributes := #[] }
def k1m1 : Method := { name := "law", desc := "(I)Z", sig := { parameters := [.int], returnType := some .boolean }, accessFlags := 9, code := some k1c1 }
/-- com/example/vaxwire/vaxwire/match/TraitIdentifiesPinLaw -/
def k1 : Class := { plain "com/example/vaxwire/vaxwire/match/TraitIdentifiesPinLaw" (some 0) with
  accessFlags := 49
  interfaces := #[]
  cf := some (fileOf pool1 38 #[] #[{ accessFlags := 1, nameIndex := 5, descriptorIndex := 6, attributes := #[] }, { accessFlags := 9, nameIndex := 42, descriptorIndex := 43, attributes := #[] }] 49 2 #[] #[])
  fields := #[]
  methods := #[k1m0, k1m1]
  instanceTypes := #[]
  staticTypes := #[]
  resolved := Array.replicate 47 none
  statics := none }

def pool2 : Array CpInfo := pool [(1, .class_ 2), (0, u "java/lang/constant/Constable"), (0, .class_ 4), (0, u "java/lang/Object")] 6

/-- java/lang/constant/Constable -/
def k2 : Class := { plain "java/lang/constant/Constable" (some 0) with
  accessFlags := 1537
  interfaces := #[]
  cf := some (fileOf pool2 1 #[] #[] 1537 3 #[] #[])
  fields := #[]
  methods := #[]
  instanceTypes := #[]
  staticTypes := #[]
  resolved := Array.replicate 11 none
  statics := none }

def pool3 : Array CpInfo := pool [(1, .class_ 2), (0, u "java/lang/Comparable"), (0, .class_ 4), (0, u "java/lang/Object")] 7

/-- java/lang/Comparable -/
def k3 : Class := { plain "java/lang/Comparable" (some 0) with
  accessFlags := 1537
  interfaces := #[]
  cf := some (fileOf pool3 1 #[] #[] 1537 3 #[] #[])
  fields := #[]
  methods := #[]
  instanceTypes := #[]
  staticTypes := #[]
  resolved := Array.replicate 12 none
  statics := none }

def pool4 : Array CpInfo := pool [(1, .class_ 2), (0, u "java/io/Serializable"), (0, .class_ 4), (0, u "java/lang/Object")] 2

/-- java/io/Serializable -/
def k4 : Class := { plain "java/io/Serializable" (some 0) with
  accessFlags := 1537
  interfaces := #[]
  cf := some (fileOf pool4 1 #[] #[] 1537 3 #[] #[])
  fields := #[]
  methods := #[]
  instanceTypes := #[]
  staticTypes := #[]
  resolved := Array.replicate 7 none
  statics := none }

def pool5 : Array CpInfo := pool [(2, .class_ 4), (1, u "java/lang/Enum"), (0, u "name"), (0, u "Ljava/lang/String;"), (2, u "ordinal"), (0, u "I"), (1, .class_ 14), (1, u "java/lang/Object"), (4, u "hash"), (86, .class_ 108), (1, u "java/lang/Enum$EnumDesc"), (2, .class_ 112), (0, u "java/lang/constant/Constable"), (0, .class_ 114), (0, u "java/lang/Comparable"), (0, .class_ 116), (0, u "java/io/Serializable")] 87

/-- java/lang/Enum -/
def k5 : Class := { plain "java/lang/Enum" (some 0) with
  accessFlags := 1057
  interfaces := #[2, 3, 4]
  cf := some (fileOf pool5 2 #[.nestMembers #[106]] #[] 1057 12 #[111, 113, 115] #[{ accessFlags := 18, nameIndex := 5, descriptorIndex := 6, attributes := #[] }, { accessFlags := 18, nameIndex := 9, descriptorIndex := 10, attributes := #[] }, { accessFlags := 2, nameIndex := 19, descriptorIndex := 10, attributes := #[] }])
  fields := #[{ name := "name", type := (.object "java/lang/String"), accessFlags := 18, slot := 0, constantValue := 0 }, { name := "ordinal", type := .int, accessFlags := 18, slot := 1, constantValue := 0 }, { name := "hash", type := .int, accessFlags := 2, slot := 2, constantValue := 0 }]
  methods := #[]
  instanceTypes := #[(.object "java/lang/String"), .int, .int]
  staticTypes := #[]
  resolved := Array.replicate 204 none
  statics := none }

def pool6 : Array CpInfo := pool [(1, .class_ 2), (0, u "com/example/vaxwire/vaxwire/match/Trait"), (2, u "SOCIAL_SECURITY_NUMBER"), (0, u "Lcom/example/vaxwire/vaxwire/match/Trait;"), (2, u "MEDICAL_RECORD_NUMBER"), (2, u "MEDICAID_NUMBER"), (2, u "MEDICARE_NUMBER"), (2, u "SEX"), (2, u "MOTHERS_MAIDEN_NAME"), (2, u "HOME_PHONE"), (2, u "ADDRESS"), (2, u "$VALUES"), (0, u "[Lcom/example/vaxwire/vaxwire/match/Trait;"), (6, .class_ 40), (1, u "java/lang/Enum"), (15, .fieldref 1 57), (0, .nameAndType 58 59), (0, u "pidField"), (0, u "I"), (2, u "looseType"), (0, u "Ljava/lang/String;"), (6, u "reading"), (0, u "Lcom/example/vaxwire/vaxwire/match/Trait$Reading;"), (8, u "()Z"), (11, .class_ 94), (1, u "com/example/vaxwire/vaxwire/match/Trait$Reading"), (132, u "IDENTIFYING"), (0, u "Ljava/util/Set;"), (2, u "IDENTIFIER_FIELD"), (11, u "identifies")] 75

def k6c0 : Code := { maxStack := 2, maxLocals := 1, code := prog_69_method_7_code, exceptionTable := #[], attributes := #[] }
def k6m0 : Method := { name := "identifies", desc := "()Z", sig := { parameters := [], returnType := some .boolean }, accessFlags := 0, code := some k6c0 }
/-- com/example/vaxwire/vaxwire/match/Trait -/
def k6 : Class := { plain "com/example/vaxwire/vaxwire/match/Trait" (some 5) with
  accessFlags := 16432
  interfaces := #[]
  cf := some (fileOf pool6 1 #[.nestMembers #[92]] #[{ accessFlags := 0, nameIndex := 243, descriptorIndex := 80, attributes := #[] }] 16432 38 #[] #[{ accessFlags := 16409, nameIndex := 5, descriptorIndex := 6, attributes := #[] }, { accessFlags := 16409, nameIndex := 9, descriptorIndex := 6, attributes := #[] }, { accessFlags := 16409, nameIndex := 12, descriptorIndex := 6, attributes := #[] }, { accessFlags := 16409, nameIndex := 15, descriptorIndex := 6, attributes := #[] }, { accessFlags := 16409, nameIndex := 18, descriptorIndex := 6, attributes := #[] }, { accessFlags := 16409, nameIndex := 21, descriptorIndex := 6, attributes := #[] }, { accessFlags := 16409, nameIndex := 24, descriptorIndex := 6, attributes := #[] }, { accessFlags := 16409, nameIndex := 27, descriptorIndex := 6, attributes := #[] }, { accessFlags := 24, nameIndex := 227, descriptorIndex := 228, attributes := #[] }, { accessFlags := 26, nameIndex := 231, descriptorIndex := 59, attributes := #[] }, { accessFlags := 18, nameIndex := 58, descriptorIndex := 59, attributes := #[] }, { accessFlags := 18, nameIndex := 62, descriptorIndex := 63, attributes := #[] }, { accessFlags := 18, nameIndex := 70, descriptorIndex := 71, attributes := #[] }, { accessFlags := 4122, nameIndex := 30, descriptorIndex := 31, attributes := #[] }])
  fields := #[{ name := "SOCIAL_SECURITY_NUMBER", type := (.object "com/example/vaxwire/vaxwire/match/Trait"), accessFlags := 16409, slot := 0, constantValue := 0 }, { name := "MEDICAL_RECORD_NUMBER", type := (.object "com/example/vaxwire/vaxwire/match/Trait"), accessFlags := 16409, slot := 1, constantValue := 0 }, { name := "MEDICAID_NUMBER", type := (.object "com/example/vaxwire/vaxwire/match/Trait"), accessFlags := 16409, slot := 2, constantValue := 0 }, { name := "MEDICARE_NUMBER", type := (.object "com/example/vaxwire/vaxwire/match/Trait"), accessFlags := 16409, slot := 3, constantValue := 0 }, { name := "SEX", type := (.object "com/example/vaxwire/vaxwire/match/Trait"), accessFlags := 16409, slot := 4, constantValue := 0 }, { name := "MOTHERS_MAIDEN_NAME", type := (.object "com/example/vaxwire/vaxwire/match/Trait"), accessFlags := 16409, slot := 5, constantValue := 0 }, { name := "HOME_PHONE", type := (.object "com/example/vaxwire/vaxwire/match/Trait"), accessFlags := 16409, slot := 6, constantValue := 0 }, { name := "ADDRESS", type := (.object "com/example/vaxwire/vaxwire/match/Trait"), accessFlags := 16409, slot := 7, constantValue := 0 }, { name := "IDENTIFYING", type := (.object "java/util/Set"), accessFlags := 24, slot := 8, constantValue := 0 }, { name := "IDENTIFIER_FIELD", type := .int, accessFlags := 26, slot := 9, constantValue := 0 }, { name := "pidField", type := .int, accessFlags := 18, slot := 3, constantValue := 0 }, { name := "looseType", type := (.object "java/lang/String"), accessFlags := 18, slot := 4, constantValue := 0 }, { name := "reading", type := (.object "com/example/vaxwire/vaxwire/match/Trait$Reading"), accessFlags := 18, slot := 5, constantValue := 0 }, { name := "$VALUES", type := (.array (.object "com/example/vaxwire/vaxwire/match/Trait")), accessFlags := 4122, slot := 10, constantValue := 0 }]
  methods := #[k6m0]
  instanceTypes := #[(.object "java/lang/String"), .int, .int, .int, (.object "java/lang/String"), (.object "com/example/vaxwire/vaxwire/match/Trait$Reading")]
  staticTypes := #[(.object "com/example/vaxwire/vaxwire/match/Trait"), (.object "com/example/vaxwire/vaxwire/match/Trait"), (.object "com/example/vaxwire/vaxwire/match/Trait"), (.object "com/example/vaxwire/vaxwire/match/Trait"), (.object "com/example/vaxwire/vaxwire/match/Trait"), (.object "com/example/vaxwire/vaxwire/match/Trait"), (.object "com/example/vaxwire/vaxwire/match/Trait"), (.object "com/example/vaxwire/vaxwire/match/Trait"), (.object "java/util/Set"), .int, (.array (.object "com/example/vaxwire/vaxwire/match/Trait"))]
  resolved := Array.replicate 319 none
  statics := some 0 }

def pool7 : Array CpInfo := pool [(1, u "java/lang/Cloneable"), (0, .class_ 1), (0, u "java/lang/Object"), (0, .class_ 3)] 3

/-- java/lang/Cloneable -/
def k7 : Class := { plain "java/lang/Cloneable" (some 0) with
  accessFlags := 1537
  interfaces := #[]
  cf := some (fileOf pool7 2 #[] #[] 1537 4 #[] #[])
  fields := #[]
  methods := #[]
  instanceTypes := #[]
  staticTypes := #[]
  resolved := Array.replicate 8 none
  statics := none }

/-- the primitive byte -/
def k8 : Class := { plain "byte" none with kind := .primitive 'B', accessFlags := 0x411 }
/-- [B -/
def k9 : Class := { plain "[B" (some 0) with kind := .array 8 .byte, interfaces := #[7, 4], accessFlags := 1041 }

/-- the primitive int -/
def k10 : Class := { plain "int" none with kind := .primitive 'I', accessFlags := 0x411 }
/-- [I -/
def k11 : Class := { plain "[I" (some 0) with kind := .array 10 .int, interfaces := #[7, 4], accessFlags := 1041 }

def heap : Heap := #[{ cls := 6, slots := #[.ref 1, .ref 2, .ref 3, .ref 4, .ref 5, .ref 6, .ref 7, .ref 8, .null, .int 0, .null], vm := .statics 6 },
  { cls := 6, slots := #[.null, .int 0, .int 0, .int 3, .null, .null], vm := .none },
  { cls := 6, slots := #[.null, .int 1, .int 0, .int 3, .null, .null], vm := .none },
  { cls := 6, slots := #[.null, .int 2, .int 0, .int 3, .null, .null], vm := .none },
  { cls := 6, slots := #[.null, .int 3, .int 0, .int 3, .null, .null], vm := .none },
  { cls := 6, slots := #[.null, .int 4, .int 0, .int 8, .null, .null], vm := .none },
  { cls := 6, slots := #[.null, .int 5, .int 0, .int 6, .null, .null], vm := .none },
  { cls := 6, slots := #[.null, .int 6, .int 0, .int 13, .null, .null], vm := .none },
  { cls := 6, slots := #[.null, .int 7, .int 0, .int 11, .null, .null], vm := .none }]
def classes : Array Class := #[k0, k1, k2, k3, k4, k5, k6, k7, k8, k9, k10, k11]
def interned : List (Array UInt16 × Addr) := []
def slotsUsed : Nat := 59
def theMethod : MethodId := ⟨1, 1⟩
def args0 : Array Value := #[.int 5]
def aboutOver (below : List Frame) : State where
  vm := { classes := classes, interned := interned.toArray }
  heap := heap
  slotsUsed := slotsUsed
  threads := #[{ frames := .invoking theMethod args0 :: below }]
def below0 : List Frame := [.native { method := ⟨0, 0⟩, args := #[] }]
def about1 : State := aboutOver below0
def p0 : Program := .bare "" "" ""
def e0 : Env := launch0.env 0 0 0
theorem w_frames : about1.frames = Frame.invoking theMethod args0 :: below0 := rfl
set_option maxRecDepth 65536 in
theorem w_args : argsFit about1.vm theMethod args0 = true := by decide +kernel
set_option maxRecDepth 65536 in
theorem w_heap : heapFits about1 = true := by decide +kernel
set_option maxRecDepth 65536 in
theorem w_runnable : about1.curStatus? = some .runnable := by decide +kernel
set_option maxRecDepth 65536 in
theorem w_alone : about1.alone = true := by decide +kernel
set_option maxRecDepth 65536 in
theorem w_named : about1.methodNamed? x = some theMethod := by decide +kernel
set_option maxRecDepth 65536 in
theorem w_hears : about1.hears theMethod below0 = true := by decide +kernel
set_option maxRecDepth 65536 in
theorem w_ripe : about1.ripe theMethod args0 below0 = true := by decide +kernel
theorem w_running : about1.status = .running := rfl
set_option maxRecDepth 65536 in
theorem w_room : about1.hasRoom e0.platform room_1 = true :=
  launch0.hasRoom_least _ room_1 (by decide +kernel) (by decide +kernel) (by decide +kernel) (by decide +kernel) (by decide +kernel) (by decide +kernel)
theorem allAtoms_all (ts : List Jvm.Cond) (a : Array Jvm.Value) (st : Jvm.State) : (allAtoms ts).before a st = ts.all (fun c => c.before a st) := by
  induction ts with
  | nil => rfl
  | cons c t ih =>
    show (Jvm.Cond.and c (allAtoms t)).before a st = _
    rw [Jvm.Cond.before_and, ih, List.all_cons]
def words1 : List Jvm.Cond := Jvm.Cond.code x code maxLocals ret :: tables_1
/-- a 'code' word, met by the world's own term for the bytes: nothing is compared byte by byte -/
theorem code_word {y : MethodName} {bytes : ByteArray} {mx : Nat} {rt : Option FieldType} {a : Array Value} {s : State} {m : MethodId} {meth : Method} {c : Code} (h1 : s.methodNamed? y = some m) (h2 : s.vm.method? m = some meth) (h3 : meth.code = some c) (h4 : c.code = bytes)
    (h5 : (c.maxLocals == mx && c.exceptionTable.isEmpty && decide (c.maxStack ≤ mostOperands) && decide (meth.sig.returnType = rt) && !meth.locks && decide (parseMethodDescriptor y.desc = some meth.sig)) = true) : (Jvm.Cond.code y bytes mx rt).before a s = true := by
  simp only [Bool.and_eq_true, beq_iff_eq, Bool.not_eq_true', decide_eq_true_eq] at h5
  obtain ⟨⟨⟨⟨⟨g1, g2⟩, g3⟩, g4⟩, g5⟩, g6⟩ := h5
  simp [Cond.before, Cond.holds, Cond.value, h1, h2, h3, h4, g1, g2, g3, g4, g5, g6]
def isCode : Jvm.Cond → Bool
  | .code _ _ _ _ => true
  | _ => false
theorem all_split {L : List Jvm.Cond} {P : Jvm.Cond → Bool} (h1 : L.all (fun c => isCode c || P c) = true) (h2 : ∀ c ∈ L.filter isCode, P c = true) : L.all P = true := by
  refine List.all_eq_true.mpr fun c hc => ?_
  have h := List.all_eq_true.mp h1 c hc
  rcases Bool.eq_false_or_eq_true (isCode c) with hi | hi
  · exact h2 c (List.mem_filter.mpr ⟨hc, hi⟩)
  · simpa [hi] using h
set_option maxRecDepth 65536 in
theorem w_c0 : (Jvm.Cond.code x code maxLocals ret).before args0 about1 = true := code_word (m := ⟨1, 1⟩) (meth := k1m1) (c := k1c1) (by decide +kernel) rfl rfl rfl (by decide +kernel)
set_option maxRecDepth 65536 in
theorem w_c1 : (Jvm.Cond.code ({ cls := "com/example/vaxwire/vaxwire/match/Trait", name := "identifies", desc := "()Z" } : Jvm.MethodName) prog_69_method_7_code (1 : Nat) (Option.some Jvm.ClassFile.FieldType.boolean)).before args0 about1 = true := code_word (m := ⟨6, 0⟩) (meth := k6m0) (c := k6c0) (by decide +kernel) rfl rfl rfl (by decide +kernel)
def codes1 : List Jvm.Cond := [Jvm.Cond.code x code maxLocals ret, Jvm.Cond.code ({ cls := "com/example/vaxwire/vaxwire/match/Trait", name := "identifies", desc := "()Z" } : Jvm.MethodName) prog_69_method_7_code (1 : Nat) (Option.some Jvm.ClassFile.FieldType.boolean)]
set_option maxRecDepth 65536 in
theorem codes_eq : words1.filter isCode = codes1 := rfl
theorem w_codes : ∀ c ∈ words1.filter isCode, c.before args0 about1 = true := by
  rw [codes_eq]
  intro c hc
  simp only [codes1, List.mem_cons, List.not_mem_nil, or_false] at hc
  rcases hc with rfl | rfl
  · exact w_c0
  · exact w_c1
set_option maxRecDepth 65536 in
theorem w_t1 : (words1.take 24).all (fun c => isCode c || c.before args0 about1) = true := by decide +kernel
set_option maxRecDepth 65536 in
theorem w_t2 : (words1.drop 24).all (fun c => isCode c || c.before args0 about1) = true := by decide +kernel
theorem w_tables : (allAtoms (Jvm.Cond.code x code maxLocals ret :: tables_1)).before args0 about1 = true := by
  rw [allAtoms_all]
  show words1.all (fun c => c.before args0 about1) = true
  refine all_split ?_ w_codes
  rw [← List.take_append_drop 24 words1, List.all_append, w_t1, w_t2]
  rfl
set_option maxRecDepth 65536 in
theorem w_case : (Jvm.Cond.and given_1 narrow_1).before args0 about1 = true := by decide +kernel
theorem w_applies : (headSpec (Jvm.Cond.code x code maxLocals ret :: tables_1) room_1).applies x e0.platform about1 = true :=
  (Spec.applies_iff w_frames).mpr ⟨w_running, w_runnable, w_alone, w_named, w_hears, w_ripe, w_room, w_tables⟩
theorem atStart : AtStart classFile x code maxLocals ret World_1 tables_1 room_1 Calls_1 rest_1 Pre_1 launch0 p0 e0 about1 theMethod args0 below0 :=
  ⟨lists_1, trivial, launch0.admits_env _ _ _, launch0.least_env, fairChoices_fair.cas, fairChoices_fair.clock, w_frames, w_args, w_heap, w_applies, trivial, trivial, w_case⟩
end start1
theorem witness_1 : WitnessClaimed_1 := ⟨start1.p0, start1.e0, start1.about1, start1.theMethod, start1.args0, start1.below0, start1.atStart⟩
end Jvm.Pilot.@@N@@
