import JvmDerived
import JvmDerived.Pilot.@@N@@Statement
import JvmDerived.Pilot.@@N@@Code
set_option linter.unusedVariables false
set_option linter.unusedSimpArgs false
namespace Jvm.RoadKit
open Sem ClassFile Op Lib Jvm.Stand Jvm.Free Jvm.LawKit
section New
variable {p : Program} {l : Launch} {e : Env} {R : Room} {s : State} {m : MethodId} {args : Array Value} {below : List Frame} {meth : Method} {c : Code} {T : State} {locs : List Loc} {cells slots : Nat}
theorem retI (X : Stand p l e R s m args below meth c T locs cells slots) (hx : p.tables.exec = Jvm.exec) {pc : Nat} {Ls : Array Slot} {z : Int32} {rest : List Value} (hret : meth.sig.returnType = some .int) (hd : decode c.code pc = .ok (.ireturn, 1)) {fs : List Frame}
    (hl : ∀ (f : JFrame) (acts : List Action), f.method = m → f.locked = none → f.entered = [] → (doReturn e (T.setTop f) acts (some (.int z))).1 = T.setFrames fs) : Steps p.tables e below (T.setTop (mkF m pc Ls (.int z :: rest))) (T.setFrames fs) :=
  retOut X hx hret rfl (Or.inl ⟨rfl, Or.inl rfl, z, rfl⟩) hd hl
end New
end Jvm.RoadKit
namespace Jvm.Pilot.@@N@@
open Jvm Jvm.ClassFile Sem Op Lib Jvm.Free Jvm.Stand Jvm.LawKit Jvm.RoadKit Bundle Jvm.Pilot.@@N@@.Jvm.D
section Own
variable {Z : State} {h h' : Heap} {a : Addr} {C n d : String} {v : Value} {ws : List Addr}
theorem ow {a0 : Array Value} (hw : ∀ d ∈ tables_1, d.before a0 Z = true) {d : Jvm.Cond} (i : Nat) (h : tables_1[i]? = some d) : d.before a0 Z = true := hw _ (List.mem_of_getElem? h)
abbrev oS (p : Program) (e : Env) (below : List Frame) (T : State) (m : MethodId) (pc : Nat) (Ls : Array Slot) (st : List Value) (t : State) : Prop := Steps p.tables e below (T.setTop (mkF m pc Ls st)) t
def own_Plain (h : Heap) (a : Addr) : Prop := ∀ cell : Cell, h[a]? = some cell → cell.vm.isStatics = false
theorem own_plain_E (F : Exa Z h a C) : own_Plain h a := fun cell hc => by
  obtain ⟨c1, _, h1, -, -, h4, -⟩ := F
  cases hc.symm.trans h1; exact h4
theorem own_plain_F (F : Fld Z h a C n d v) : own_Plain h a := fun cell hc => by
  obtain ⟨c1, _, _, _, _, h1, -, -, -, h4, -⟩ := F
  cases hc.symm.trans h1; exact h4
theorem own_plain_V {k : ClassId} {ty : FieldType} {z : Int32} {vs : List Value} {dv : Value} (F : Arv Z h a k ty z vs dv) : own_Plain h a := fun cell hc => by
  obtain ⟨c1, A, -⟩ := F
  cases hc.symm.trans A.1; exact A.plain
theorem own_sta_keep (F : Sta Z h C n d v) (K : Keep h h' ws) (q : ∀ x ∈ ws, own_Plain h x) : Sta Z h' C n d v := by
  obtain ⟨cf, i, k, f, st, cell, h1, h2, h3, h4, h5, h6, h7⟩ := F
  exact ⟨cf, i, k, f, st, cell, h1, h2, h3, h4, K.2.1 _ _ h5 (fun hm => by rw [q _ hm _ h5] at h6; cases h6), h6, h7⟩
theorem own_ne_EV {a0 : Array Value} {j : Nat} {b : Addr} {k : ClassId} {ty : FieldType} {z : Int32} {vs : List Value} {dv : Value} (F : Exa Z h a C) (wi : (Jvm.Cond.instantiable C j).before a0 Z = true) (G : Arv Z h b k ty z vs dv) : a ≠ b := by
  obtain ⟨c, A, -⟩ := G
  exact ne_arr F wi A
theorem own_mvM {s : State} {a0 args : Array Value} {own host : String} {y : MethodName} {index : Nat} (hZ : Z.Warmed39 s.vm) (w : (Jvm.Cond.methodLinkNest own index y host).before a0 Z = true) : (Jvm.Cond.methodLinkNest own index y host).before args s = true := (Cond.methodLinkNest_wide hZ w :)
theorem own_arr_keep {c : Cell} {ty : FieldType} (F : Arr Z h a c ty) (K : Keep h h' ws) (q : a ∉ ws) : Arr Z h' a c ty := ⟨K.2.1 _ _ F.1 q, F.2⟩
theorem own_ins_keep {b : Bool} (F : Ins Z h a C b) (K : Keep h h' ws) : Ins Z h' a C b := by
  obtain ⟨cell, cT, h1, h2, h3⟩ := F
  obtain ⟨c', e1, e2, e3, -⟩ := K.2.2 _ _ h1
  exact ⟨c', cT, e1, h2, by rw [e2, e3]; exact h3⟩
end Own
abbrev yN0 : MethodName := ⟨"com/example/willenhall/willenhall/external/DocumentViewIsReachedByPinLaw", "view", "(I)Lcom/example/willenhall/willenhall/external/DocumentView;"⟩
abbrev yN1 : MethodName := ⟨"com/example/willenhall/willenhall/external/DocumentViewIsReachedByPinLaw", "role", "(I)Lcom/example/willenhall/willenhall/external/ExternalRole;"⟩
abbrev yN2 : MethodName := ⟨"com/example/willenhall/willenhall/external/DocumentViewIsReachedByPinLaw", "lowest", "(I)I"⟩
abbrev yN3 : MethodName := ⟨"java/lang/Enum", "ordinal", "()I"⟩
abbrev yN4 : MethodName := ⟨"com/example/willenhall/willenhall/external/ExternalRole", "ordinal", "()I"⟩
abbrev yN5 : MethodName := ⟨"com/example/willenhall/willenhall/external/ExternalRole", "rank", "()I"⟩
abbrev yN6 : MethodName := ⟨"com/example/willenhall/willenhall/external/DocumentView", "isReachedBy", "(Lcom/example/willenhall/willenhall/external/ExternalRole;)Z"⟩
theorem own_mod (x y : Int32) (k : Int) (hy : y.toInt = k) (hk : 0 < k) : 0 ≤ ((x &&& (2147483647 : Int32)) % y).toInt ∧ ((x &&& (2147483647 : Int32)) % y).toInt < k := by
  have h1 := c_mask x (2147483647 : Int32) 31 (by decide) (by decide)
  have h2 : 0 ≤ (x &&& (2147483647 : Int32)).toInt := by rw [h1]; omega
  have h3 := (c_irem (x &&& (2147483647 : Int32)) y k hy).1 h2
  rw [h3]
  exact ⟨Int.emod_nonneg _ (by omega), Int.emod_lt_of_pos _ hk⟩
theorem own_mask (x m : Int32) (k : Nat) (hk : k ≤ 31) (hm : m.toBitVec.toNat = 2 ^ k - 1) : 0 ≤ (x &&& m).toInt ∧ (x &&& m).toInt < (2 ^ k : Nat) := by
  rw [c_mask x m k hk hm]
  exact ⟨Int.emod_nonneg _ (by have := Nat.two_pow_pos k; omega), Int.emod_lt_of_pos _ (by have := Nat.two_pow_pos k; omega)⟩
theorem own_eq_ref {args : Array Value} {s : State} {a b : Term} {x : Addr} (h : (Jvm.Cond.eq a b).value args s none s [] = some true) (hb : b.eval args s none [] s = some (.ref x)) : a.eval args s none [] s = some (.ref x) := by
  obtain ⟨u, w, h1, h2, -, k2⟩ := cmp_v (Or.inl h)
  cases h2.symm.trans hb
  have hu : u.isRef = true := k2.2
  have q := gotT (eq_R h1 h2 hu rfl) h
  rw [h1, q]
theorem own_in4 {y : Int32} (h0 : 0 ≤ y.toInt) (h1 : y.toInt < 4) : y = (0 : Int32) ∨ y = (1 : Int32) ∨ y = (2 : Int32) ∨ y = (3 : Int32) := by
  have h : y.toInt = 0 ∨ y.toInt = 1 ∨ y.toInt = 2 ∨ y.toInt = 3 := by omega
  rcases h with h | h | h | h
  · exact Or.inl (Int32.toInt_inj.mp (h.trans (by decide)))
  · exact Or.inr (Or.inl (Int32.toInt_inj.mp (h.trans (by decide))))
  · exact Or.inr (Or.inr (Or.inl (Int32.toInt_inj.mp (h.trans (by decide)))))
  · exact Or.inr (Or.inr (Or.inr (Int32.toInt_inj.mp (h.trans (by decide)))))
theorem own_in6 {y : Int32} (h0 : 0 ≤ y.toInt) (h1 : y.toInt < 6) : y = (0 : Int32) ∨ y = (1 : Int32) ∨ y = (2 : Int32) ∨ y = (3 : Int32) ∨ y = (4 : Int32) ∨ y = (5 : Int32) := by
  have h : y.toInt = 0 ∨ y.toInt = 1 ∨ y.toInt = 2 ∨ y.toInt = 3 ∨ y.toInt = 4 ∨ y.toInt = 5 := by omega
  rcases h with h | h | h | h | h | h
  · exact Or.inl (Int32.toInt_inj.mp (h.trans (by decide)))
  · exact Or.inr (Or.inl (Int32.toInt_inj.mp (h.trans (by decide))))
  · exact Or.inr (Or.inr (Or.inl (Int32.toInt_inj.mp (h.trans (by decide)))))
  · exact Or.inr (Or.inr (Or.inr (Or.inl (Int32.toInt_inj.mp (h.trans (by decide))))))
  · exact Or.inr (Or.inr (Or.inr (Or.inr (Or.inl (Int32.toInt_inj.mp (h.trans (by decide)))))))
  · exact Or.inr (Or.inr (Or.inr (Or.inr (Or.inr (Int32.toInt_inj.mp (h.trans (by decide)))))))
theorem d1_0 : decode method_3_code 0 = .ok (.iload_n 0, 1) := by decide +kernel
theorem d1_1 : decode method_3_code 1 = .ok (.ifCond .ne 7, 3) := by decide +kernel
theorem d1_4 : decode method_3_code 4 = .ok (.getstatic 28, 3) := by decide +kernel
theorem d1_7 : decode method_3_code 7 = .ok (.areturn, 1) := by decide +kernel
theorem pn_0 : plainName "com/example/willenhall/willenhall/external/DocumentViewIsReachedByPinLaw" = true := by first | (simp [plainName, overriddenIn]; done) | decide +kernel
theorem ef_view0 (m : MethodId)  : entryFrame m #[(.int (0 : Int32))] 1 = mkF m 0 #[.val (.int (0 : Int32))] [] := by first | (simp [entryFrame, mkF, argsToLocals, Value.category]; done) | rfl
def Qview0 (Z : State) (pR1 : Addr) (h0 : Heap) (n0 : Nat) (v : Option Value) (h : Heap) (L : List Loc) : Prop := v = some (.ref pR1) ∧ Fr n0 L ∧ h = h0
set_option maxRecDepth 65536 in
set_option maxHeartbeats 40000000 in
theorem view0 (l : Launch) (Z : State) (a0 : Array Value) (hw : ∀ d ∈ tables_1, d.before a0 Z = true) (ws : List Jvm.Cond) (pR1 : Addr) (h0 : Heap) (n0 : Nat) (Z0 : n0 ≤ h0.size) (S_DocumentView_ORDERS : Sta Z h0 "com/example/willenhall/willenhall/external/DocumentView" "ORDERS" "Lcom/example/willenhall/willenhall/external/DocumentView;" (.ref pR1)) :
    MetFree l yN0 (head1 (Jvm.Cond.code yN0 method_3_code 1 (some (.object "com/example/willenhall/willenhall/external/DocumentView")) :: ws) ({ frames := 0, cells := 0, slots := 0, locals := 0 } : Room)) (fun a U => a = #[(.int (0 : Int32))] ∧ Z.Warmed39 U.vm ∧ U.heap = h0) (fun _ _ _ _ _ => True) (fun _ U o U' => ∃ v L, o = .returned v ∧ Qview0 Z pR1 h0 n0 v U'.heap L ∧ FrameEnd U o U' L ({ frames := 0, cells := 0, slots := 0, locals := 0 } : Room).cells ({ frames := 0, cells := 0, slots := 0, locals := 0 } : Room).slots) := by
  refine MetFree.of_bodySF (plainFor_of_name pn_0) hisR ?_
  intro p e s m args below meth c s₁ Bd hml0 hP hK
  obtain ⟨rfl, hZ, hh⟩ := hP
  have hx := Bd.exec
  have hby := Bd.bytes
  have hml : c.maxLocals = 1 := hml0
  have hown : s.vm.findClass "com/example/willenhall/willenhall/external/DocumentViewIsReachedByPinLaw" = some m.cls := findClass_of_methodNamed Bd.named
  have hnm := (name_of_methodNamed Bd.named Bd.method).1
  have X0 : Stand p l e ({ frames := 0, cells := 0, slots := 0, locals := 0 } : Room) s m #[(.int (0 : Int32))] below meth c s₁ [] 0 0 := Stand.of_body Bd
  have e0 : s₁.heap = h0 := by rw [← hh, Bd.state]; rfl
  have N0 := Fr.nil n0
  have pre0 : ∀ t, Steps p.tables e below (s₁.setTop (mkF m 0 #[.val (.int (0 : Int32))] [])) t → Steps p.tables e below (s₁.setTop (entryFrame m #[(.int (0 : Int32))] 1)) t := fun t k => castTop (ef_view0 m ) k
  obtain ⟨T2, X2, e2, st2⟩ := getS2 X0 hx hZ hown (host := "") (Or.inl (ow hw 5 rfl)) Via.refl e0 S_DocumentView_ORDERS (g := (mkF m 4 #[.val (.int (0 : Int32))] [])) rfl (hb hby d1_4)
  obtain ⟨fs, hr, hrun, hended, hW, hsame⟩ := X2.leave (v := some (.ref pR1)) (fun h => by rw [Bd.returns] at h; cases h)
  refine ⟨_, _, pre0 _ ?_, hrun, hended, _, _, rfl, ?_, ⟨_, rfl⟩, hW, hsame.mono (by decide) (by decide)⟩
  · show oS p e below s₁ m 0 #[.val (.int (0 : Int32))] [] _
    refine XS.iloadN X0.here hx rfl (hb hby d1_0) rfl ?_
    show oS p e below s₁ m 1 #[.val (.int (0 : Int32))] [(.int (0 : Int32))] _
    refine XS.ifNo X0.here hx rfl (hb hby d1_1) rfl ((if0 _ _).trans (teq (by decide : (0 : Int32) = (0 : Int32))).2) ?_
    show oS p e below s₁ m 4 #[.val (.int (0 : Int32))] [] _
    refine st2 _ ?_
    show oS p e below T2 m 7 #[.val (.int (0 : Int32))] [(.ref pR1)] _
    exact retOut X2 hx Bd.returns rfl (Or.inr (Or.inr (Or.inr (Or.inr ⟨rfl, rfl, rfl⟩)))) (hb hby d1_7) hr
  · show Qview0 Z pR1 h0 n0 _ T2.heap _
    rw [e2]
    exact ⟨rfl, N0, rfl⟩
theorem d1_8 : decode method_3_code 8 = .ok (.iload_n 0, 1) := by decide +kernel
theorem d1_9 : decode method_3_code 9 = .ok (.iconst 1, 1) := by decide +kernel
theorem d1_10 : decode method_3_code 10 = .ok (.if_icmp .ne 7, 3) := by decide +kernel
theorem d1_13 : decode method_3_code 13 = .ok (.getstatic 32, 3) := by decide +kernel
theorem d1_16 : decode method_3_code 16 = .ok (.areturn, 1) := by decide +kernel
theorem ef_view1 (m : MethodId)  : entryFrame m #[(.int (1 : Int32))] 1 = mkF m 0 #[.val (.int (1 : Int32))] [] := by first | (simp [entryFrame, mkF, argsToLocals, Value.category]; done) | rfl
def Qview1 (Z : State) (pR1 : Addr) (h0 : Heap) (n0 : Nat) (v : Option Value) (h : Heap) (L : List Loc) : Prop := v = some (.ref pR1) ∧ Fr n0 L ∧ h = h0
set_option maxRecDepth 65536 in
set_option maxHeartbeats 40000000 in
theorem view1 (l : Launch) (Z : State) (a0 : Array Value) (hw : ∀ d ∈ tables_1, d.before a0 Z = true) (ws : List Jvm.Cond) (pR1 : Addr) (h0 : Heap) (n0 : Nat) (Z0 : n0 ≤ h0.size) (S_DocumentView_ORDER_PRICES : Sta Z h0 "com/example/willenhall/willenhall/external/DocumentView" "ORDER_PRICES" "Lcom/example/willenhall/willenhall/external/DocumentView;" (.ref pR1)) :
    MetFree l yN0 (head1 (Jvm.Cond.code yN0 method_3_code 1 (some (.object "com/example/willenhall/willenhall/external/DocumentView")) :: ws) ({ frames := 0, cells := 0, slots := 0, locals := 0 } : Room)) (fun a U => a = #[(.int (1 : Int32))] ∧ Z.Warmed39 U.vm ∧ U.heap = h0) (fun _ _ _ _ _ => True) (fun _ U o U' => ∃ v L, o = .returned v ∧ Qview1 Z pR1 h0 n0 v U'.heap L ∧ FrameEnd U o U' L ({ frames := 0, cells := 0, slots := 0, locals := 0 } : Room).cells ({ frames := 0, cells := 0, slots := 0, locals := 0 } : Room).slots) := by
  refine MetFree.of_bodySF (plainFor_of_name pn_0) hisR ?_
  intro p e s m args below meth c s₁ Bd hml0 hP hK
  obtain ⟨rfl, hZ, hh⟩ := hP
  have hx := Bd.exec
  have hby := Bd.bytes
  have hml : c.maxLocals = 1 := hml0
  have hown : s.vm.findClass "com/example/willenhall/willenhall/external/DocumentViewIsReachedByPinLaw" = some m.cls := findClass_of_methodNamed Bd.named
  have hnm := (name_of_methodNamed Bd.named Bd.method).1
  have X0 : Stand p l e ({ frames := 0, cells := 0, slots := 0, locals := 0 } : Room) s m #[(.int (1 : Int32))] below meth c s₁ [] 0 0 := Stand.of_body Bd
  have e0 : s₁.heap = h0 := by rw [← hh, Bd.state]; rfl
  have N0 := Fr.nil n0
  have pre0 : ∀ t, Steps p.tables e below (s₁.setTop (mkF m 0 #[.val (.int (1 : Int32))] [])) t → Steps p.tables e below (s₁.setTop (entryFrame m #[(.int (1 : Int32))] 1)) t := fun t k => castTop (ef_view1 m ) k
  obtain ⟨T2, X2, e2, st2⟩ := getS2 X0 hx hZ hown (host := "") (Or.inl (ow hw 48 rfl)) Via.refl e0 S_DocumentView_ORDER_PRICES (g := (mkF m 13 #[.val (.int (1 : Int32))] [])) rfl (hb hby d1_13)
  obtain ⟨fs, hr, hrun, hended, hW, hsame⟩ := X2.leave (v := some (.ref pR1)) (fun h => by rw [Bd.returns] at h; cases h)
  refine ⟨_, _, pre0 _ ?_, hrun, hended, _, _, rfl, ?_, ⟨_, rfl⟩, hW, hsame.mono (by decide) (by decide)⟩
  · show oS p e below s₁ m 0 #[.val (.int (1 : Int32))] [] _
    refine XS.iloadN X0.here hx rfl (hb hby d1_0) rfl ?_
    show oS p e below s₁ m 1 #[.val (.int (1 : Int32))] [(.int (1 : Int32))] _
    refine XS.ifYes X0.here hx rfl (pc0 := 1) (pc' := 8) rfl (hb hby d1_1) rfl ((if0 _ _).trans (feq (by decide : ¬ ((1 : Int32) = (0 : Int32)))).2) (by decide) (by decide) ?_
    show oS p e below s₁ m 8 #[.val (.int (1 : Int32))] [] _
    refine XS.iloadN X0.here hx rfl (hb hby d1_8) rfl ?_
    show oS p e below s₁ m 9 #[.val (.int (1 : Int32))] [(.int (1 : Int32))] _
    refine XS.iconst X0.here hx rfl (hb hby d1_9) ?_
    show oS p e below s₁ m 10 #[.val (.int (1 : Int32))] [(.int (1 : Int32)), (.int (1 : Int32))] _
    refine XS.icmpNo X0.here hx rfl (hb hby d1_10) rfl (teq (by decide : (1 : Int32) = (1 : Int32))).2 ?_
    show oS p e below s₁ m 13 #[.val (.int (1 : Int32))] [] _
    refine st2 _ ?_
    show oS p e below T2 m 16 #[.val (.int (1 : Int32))] [(.ref pR1)] _
    exact retOut X2 hx Bd.returns rfl (Or.inr (Or.inr (Or.inr (Or.inr ⟨rfl, rfl, rfl⟩)))) (hb hby d1_16) hr
  · show Qview1 Z pR1 h0 n0 _ T2.heap _
    rw [e2]
    exact ⟨rfl, N0, rfl⟩
theorem d1_17 : decode method_3_code 17 = .ok (.iload_n 0, 1) := by decide +kernel
theorem d1_18 : decode method_3_code 18 = .ok (.iconst 2, 1) := by decide +kernel
theorem d1_19 : decode method_3_code 19 = .ok (.if_icmp .ne 7, 3) := by decide +kernel
theorem d1_22 : decode method_3_code 22 = .ok (.getstatic 35, 3) := by decide +kernel
theorem d1_25 : decode method_3_code 25 = .ok (.areturn, 1) := by decide +kernel
theorem ef_view2 (m : MethodId)  : entryFrame m #[(.int (2 : Int32))] 1 = mkF m 0 #[.val (.int (2 : Int32))] [] := by first | (simp [entryFrame, mkF, argsToLocals, Value.category]; done) | rfl
def Qview2 (Z : State) (pR1 : Addr) (h0 : Heap) (n0 : Nat) (v : Option Value) (h : Heap) (L : List Loc) : Prop := v = some (.ref pR1) ∧ Fr n0 L ∧ h = h0
set_option maxRecDepth 65536 in
set_option maxHeartbeats 40000000 in
theorem view2 (l : Launch) (Z : State) (a0 : Array Value) (hw : ∀ d ∈ tables_1, d.before a0 Z = true) (ws : List Jvm.Cond) (pR1 : Addr) (h0 : Heap) (n0 : Nat) (Z0 : n0 ≤ h0.size) (S_DocumentView_INVOICES : Sta Z h0 "com/example/willenhall/willenhall/external/DocumentView" "INVOICES" "Lcom/example/willenhall/willenhall/external/DocumentView;" (.ref pR1)) :
    MetFree l yN0 (head1 (Jvm.Cond.code yN0 method_3_code 1 (some (.object "com/example/willenhall/willenhall/external/DocumentView")) :: ws) ({ frames := 0, cells := 0, slots := 0, locals := 0 } : Room)) (fun a U => a = #[(.int (2 : Int32))] ∧ Z.Warmed39 U.vm ∧ U.heap = h0) (fun _ _ _ _ _ => True) (fun _ U o U' => ∃ v L, o = .returned v ∧ Qview2 Z pR1 h0 n0 v U'.heap L ∧ FrameEnd U o U' L ({ frames := 0, cells := 0, slots := 0, locals := 0 } : Room).cells ({ frames := 0, cells := 0, slots := 0, locals := 0 } : Room).slots) := by
  refine MetFree.of_bodySF (plainFor_of_name pn_0) hisR ?_
  intro p e s m args below meth c s₁ Bd hml0 hP hK
  obtain ⟨rfl, hZ, hh⟩ := hP
  have hx := Bd.exec
  have hby := Bd.bytes
  have hml : c.maxLocals = 1 := hml0
  have hown : s.vm.findClass "com/example/willenhall/willenhall/external/DocumentViewIsReachedByPinLaw" = some m.cls := findClass_of_methodNamed Bd.named
  have hnm := (name_of_methodNamed Bd.named Bd.method).1
  have X0 : Stand p l e ({ frames := 0, cells := 0, slots := 0, locals := 0 } : Room) s m #[(.int (2 : Int32))] below meth c s₁ [] 0 0 := Stand.of_body Bd
  have e0 : s₁.heap = h0 := by rw [← hh, Bd.state]; rfl
  have N0 := Fr.nil n0
  have pre0 : ∀ t, Steps p.tables e below (s₁.setTop (mkF m 0 #[.val (.int (2 : Int32))] [])) t → Steps p.tables e below (s₁.setTop (entryFrame m #[(.int (2 : Int32))] 1)) t := fun t k => castTop (ef_view2 m ) k
  obtain ⟨T2, X2, e2, st2⟩ := getS2 X0 hx hZ hown (host := "") (Or.inl (ow hw 39 rfl)) Via.refl e0 S_DocumentView_INVOICES (g := (mkF m 22 #[.val (.int (2 : Int32))] [])) rfl (hb hby d1_22)
  obtain ⟨fs, hr, hrun, hended, hW, hsame⟩ := X2.leave (v := some (.ref pR1)) (fun h => by rw [Bd.returns] at h; cases h)
  refine ⟨_, _, pre0 _ ?_, hrun, hended, _, _, rfl, ?_, ⟨_, rfl⟩, hW, hsame.mono (by decide) (by decide)⟩
  · show oS p e below s₁ m 0 #[.val (.int (2 : Int32))] [] _
    refine XS.iloadN X0.here hx rfl (hb hby d1_0) rfl ?_
    show oS p e below s₁ m 1 #[.val (.int (2 : Int32))] [(.int (2 : Int32))] _
    refine XS.ifYes X0.here hx rfl (pc0 := 1) (pc' := 8) rfl (hb hby d1_1) rfl ((if0 _ _).trans (feq (by decide : ¬ ((2 : Int32) = (0 : Int32)))).2) (by decide) (by decide) ?_
    show oS p e below s₁ m 8 #[.val (.int (2 : Int32))] [] _
    refine XS.iloadN X0.here hx rfl (hb hby d1_8) rfl ?_
    show oS p e below s₁ m 9 #[.val (.int (2 : Int32))] [(.int (2 : Int32))] _
    refine XS.iconst X0.here hx rfl (hb hby d1_9) ?_
    show oS p e below s₁ m 10 #[.val (.int (2 : Int32))] [(.int (1 : Int32)), (.int (2 : Int32))] _
    refine XS.icmpYes X0.here hx rfl (pc0 := 10) (pc' := 17) rfl (hb hby d1_10) rfl (feq (by decide : ¬ ((2 : Int32) = (1 : Int32)))).2 (by decide) (by decide) ?_
    show oS p e below s₁ m 17 #[.val (.int (2 : Int32))] [] _
    refine XS.iloadN X0.here hx rfl (hb hby d1_17) rfl ?_
    show oS p e below s₁ m 18 #[.val (.int (2 : Int32))] [(.int (2 : Int32))] _
    refine XS.iconst X0.here hx rfl (hb hby d1_18) ?_
    show oS p e below s₁ m 19 #[.val (.int (2 : Int32))] [(.int (2 : Int32)), (.int (2 : Int32))] _
    refine XS.icmpNo X0.here hx rfl (hb hby d1_19) rfl (teq (by decide : (2 : Int32) = (2 : Int32))).2 ?_
    show oS p e below s₁ m 22 #[.val (.int (2 : Int32))] [] _
    refine st2 _ ?_
    show oS p e below T2 m 25 #[.val (.int (2 : Int32))] [(.ref pR1)] _
    exact retOut X2 hx Bd.returns rfl (Or.inr (Or.inr (Or.inr (Or.inr ⟨rfl, rfl, rfl⟩)))) (hb hby d1_25) hr
  · show Qview2 Z pR1 h0 n0 _ T2.heap _
    rw [e2]
    exact ⟨rfl, N0, rfl⟩
theorem d1_26 : decode method_3_code 26 = .ok (.getstatic 38, 3) := by decide +kernel
theorem d1_29 : decode method_3_code 29 = .ok (.areturn, 1) := by decide +kernel
theorem ef_view3 (m : MethodId)  : entryFrame m #[(.int (3 : Int32))] 1 = mkF m 0 #[.val (.int (3 : Int32))] [] := by first | (simp [entryFrame, mkF, argsToLocals, Value.category]; done) | rfl
def Qview3 (Z : State) (pR1 : Addr) (h0 : Heap) (n0 : Nat) (v : Option Value) (h : Heap) (L : List Loc) : Prop := v = some (.ref pR1) ∧ Fr n0 L ∧ h = h0
set_option maxRecDepth 65536 in
set_option maxHeartbeats 40000000 in
theorem view3 (l : Launch) (Z : State) (a0 : Array Value) (hw : ∀ d ∈ tables_1, d.before a0 Z = true) (ws : List Jvm.Cond) (pR1 : Addr) (h0 : Heap) (n0 : Nat) (Z0 : n0 ≤ h0.size) (S_DocumentView_PAYMENTS : Sta Z h0 "com/example/willenhall/willenhall/external/DocumentView" "PAYMENTS" "Lcom/example/willenhall/willenhall/external/DocumentView;" (.ref pR1)) :
    MetFree l yN0 (head1 (Jvm.Cond.code yN0 method_3_code 1 (some (.object "com/example/willenhall/willenhall/external/DocumentView")) :: ws) ({ frames := 0, cells := 0, slots := 0, locals := 0 } : Room)) (fun a U => a = #[(.int (3 : Int32))] ∧ Z.Warmed39 U.vm ∧ U.heap = h0) (fun _ _ _ _ _ => True) (fun _ U o U' => ∃ v L, o = .returned v ∧ Qview3 Z pR1 h0 n0 v U'.heap L ∧ FrameEnd U o U' L ({ frames := 0, cells := 0, slots := 0, locals := 0 } : Room).cells ({ frames := 0, cells := 0, slots := 0, locals := 0 } : Room).slots) := by
  refine MetFree.of_bodySF (plainFor_of_name pn_0) hisR ?_
  intro p e s m args below meth c s₁ Bd hml0 hP hK
  obtain ⟨rfl, hZ, hh⟩ := hP
  have hx := Bd.exec
  have hby := Bd.bytes
  have hml : c.maxLocals = 1 := hml0
  have hown : s.vm.findClass "com/example/willenhall/willenhall/external/DocumentViewIsReachedByPinLaw" = some m.cls := findClass_of_methodNamed Bd.named
  have hnm := (name_of_methodNamed Bd.named Bd.method).1
  have X0 : Stand p l e ({ frames := 0, cells := 0, slots := 0, locals := 0 } : Room) s m #[(.int (3 : Int32))] below meth c s₁ [] 0 0 := Stand.of_body Bd
  have e0 : s₁.heap = h0 := by rw [← hh, Bd.state]; rfl
  have N0 := Fr.nil n0
  have pre0 : ∀ t, Steps p.tables e below (s₁.setTop (mkF m 0 #[.val (.int (3 : Int32))] [])) t → Steps p.tables e below (s₁.setTop (entryFrame m #[(.int (3 : Int32))] 1)) t := fun t k => castTop (ef_view3 m ) k
  obtain ⟨T2, X2, e2, st2⟩ := getS2 X0 hx hZ hown (host := "") (Or.inl (ow hw 52 rfl)) Via.refl e0 S_DocumentView_PAYMENTS (g := (mkF m 26 #[.val (.int (3 : Int32))] [])) rfl (hb hby d1_26)
  obtain ⟨fs, hr, hrun, hended, hW, hsame⟩ := X2.leave (v := some (.ref pR1)) (fun h => by rw [Bd.returns] at h; cases h)
  refine ⟨_, _, pre0 _ ?_, hrun, hended, _, _, rfl, ?_, ⟨_, rfl⟩, hW, hsame.mono (by decide) (by decide)⟩
  · show oS p e below s₁ m 0 #[.val (.int (3 : Int32))] [] _
    refine XS.iloadN X0.here hx rfl (hb hby d1_0) rfl ?_
    show oS p e below s₁ m 1 #[.val (.int (3 : Int32))] [(.int (3 : Int32))] _
    refine XS.ifYes X0.here hx rfl (pc0 := 1) (pc' := 8) rfl (hb hby d1_1) rfl ((if0 _ _).trans (feq (by decide : ¬ ((3 : Int32) = (0 : Int32)))).2) (by decide) (by decide) ?_
    show oS p e below s₁ m 8 #[.val (.int (3 : Int32))] [] _
    refine XS.iloadN X0.here hx rfl (hb hby d1_8) rfl ?_
    show oS p e below s₁ m 9 #[.val (.int (3 : Int32))] [(.int (3 : Int32))] _
    refine XS.iconst X0.here hx rfl (hb hby d1_9) ?_
    show oS p e below s₁ m 10 #[.val (.int (3 : Int32))] [(.int (1 : Int32)), (.int (3 : Int32))] _
    refine XS.icmpYes X0.here hx rfl (pc0 := 10) (pc' := 17) rfl (hb hby d1_10) rfl (feq (by decide : ¬ ((3 : Int32) = (1 : Int32)))).2 (by decide) (by decide) ?_
    show oS p e below s₁ m 17 #[.val (.int (3 : Int32))] [] _
    refine XS.iloadN X0.here hx rfl (hb hby d1_17) rfl ?_
    show oS p e below s₁ m 18 #[.val (.int (3 : Int32))] [(.int (3 : Int32))] _
    refine XS.iconst X0.here hx rfl (hb hby d1_18) ?_
    show oS p e below s₁ m 19 #[.val (.int (3 : Int32))] [(.int (2 : Int32)), (.int (3 : Int32))] _
    refine XS.icmpYes X0.here hx rfl (pc0 := 19) (pc' := 26) rfl (hb hby d1_19) rfl (feq (by decide : ¬ ((3 : Int32) = (2 : Int32)))).2 (by decide) (by decide) ?_
    show oS p e below s₁ m 26 #[.val (.int (3 : Int32))] [] _
    refine st2 _ ?_
    show oS p e below T2 m 29 #[.val (.int (3 : Int32))] [(.ref pR1)] _
    exact retOut X2 hx Bd.returns rfl (Or.inr (Or.inr (Or.inr (Or.inr ⟨rfl, rfl, rfl⟩)))) (hb hby d1_29) hr
  · show Qview3 Z pR1 h0 n0 _ T2.heap _
    rw [e2]
    exact ⟨rfl, N0, rfl⟩
theorem d2_0 : decode method_4_code 0 = .ok (.iload_n 0, 1) := by decide +kernel
theorem d2_1 : decode method_4_code 1 = .ok (.ifCond .ne 7, 3) := by decide +kernel
theorem d2_4 : decode method_4_code 4 = .ok (.getstatic 41, 3) := by decide +kernel
theorem d2_7 : decode method_4_code 7 = .ok (.areturn, 1) := by decide +kernel
theorem ef_role0 (m : MethodId)  : entryFrame m #[(.int (0 : Int32))] 1 = mkF m 0 #[.val (.int (0 : Int32))] [] := by first | (simp [entryFrame, mkF, argsToLocals, Value.category]; done) | rfl
def Qrole0 (Z : State) (pR1 : Addr) (h0 : Heap) (n0 : Nat) (v : Option Value) (h : Heap) (L : List Loc) : Prop := v = some (.ref pR1) ∧ Fr n0 L ∧ h = h0
set_option maxRecDepth 65536 in
set_option maxHeartbeats 40000000 in
theorem role0 (l : Launch) (Z : State) (a0 : Array Value) (hw : ∀ d ∈ tables_1, d.before a0 Z = true) (ws : List Jvm.Cond) (pR1 : Addr) (h0 : Heap) (n0 : Nat) (Z0 : n0 ≤ h0.size) (S_ExternalRole_BASIC : Sta Z h0 "com/example/willenhall/willenhall/external/ExternalRole" "BASIC" "Lcom/example/willenhall/willenhall/external/ExternalRole;" (.ref pR1)) :
    MetFree l yN1 (head1 (Jvm.Cond.code yN1 method_4_code 1 (some (.object "com/example/willenhall/willenhall/external/ExternalRole")) :: ws) ({ frames := 0, cells := 0, slots := 0, locals := 0 } : Room)) (fun a U => a = #[(.int (0 : Int32))] ∧ Z.Warmed39 U.vm ∧ U.heap = h0) (fun _ _ _ _ _ => True) (fun _ U o U' => ∃ v L, o = .returned v ∧ Qrole0 Z pR1 h0 n0 v U'.heap L ∧ FrameEnd U o U' L ({ frames := 0, cells := 0, slots := 0, locals := 0 } : Room).cells ({ frames := 0, cells := 0, slots := 0, locals := 0 } : Room).slots) := by
  refine MetFree.of_bodySF (plainFor_of_name pn_0) hisR ?_
  intro p e s m args below meth c s₁ Bd hml0 hP hK
  obtain ⟨rfl, hZ, hh⟩ := hP
  have hx := Bd.exec
  have hby := Bd.bytes
  have hml : c.maxLocals = 1 := hml0
  have hown : s.vm.findClass "com/example/willenhall/willenhall/external/DocumentViewIsReachedByPinLaw" = some m.cls := findClass_of_methodNamed Bd.named
  have hnm := (name_of_methodNamed Bd.named Bd.method).1
  have X0 : Stand p l e ({ frames := 0, cells := 0, slots := 0, locals := 0 } : Room) s m #[(.int (0 : Int32))] below meth c s₁ [] 0 0 := Stand.of_body Bd
  have e0 : s₁.heap = h0 := by rw [← hh, Bd.state]; rfl
  have N0 := Fr.nil n0
  have pre0 : ∀ t, Steps p.tables e below (s₁.setTop (mkF m 0 #[.val (.int (0 : Int32))] [])) t → Steps p.tables e below (s₁.setTop (entryFrame m #[(.int (0 : Int32))] 1)) t := fun t k => castTop (ef_role0 m ) k
  obtain ⟨T2, X2, e2, st2⟩ := getS2 X0 hx hZ hown (host := "") (Or.inl (ow hw 46 rfl)) Via.refl e0 S_ExternalRole_BASIC (g := (mkF m 4 #[.val (.int (0 : Int32))] [])) rfl (hb hby d2_4)
  obtain ⟨fs, hr, hrun, hended, hW, hsame⟩ := X2.leave (v := some (.ref pR1)) (fun h => by rw [Bd.returns] at h; cases h)
  refine ⟨_, _, pre0 _ ?_, hrun, hended, _, _, rfl, ?_, ⟨_, rfl⟩, hW, hsame.mono (by decide) (by decide)⟩
  · show oS p e below s₁ m 0 #[.val (.int (0 : Int32))] [] _
    refine XS.iloadN X0.here hx rfl (hb hby d2_0) rfl ?_
    show oS p e below s₁ m 1 #[.val (.int (0 : Int32))] [(.int (0 : Int32))] _
    refine XS.ifNo X0.here hx rfl (hb hby d2_1) rfl ((if0 _ _).trans (teq (by decide : (0 : Int32) = (0 : Int32))).2) ?_
    show oS p e below s₁ m 4 #[.val (.int (0 : Int32))] [] _
    refine st2 _ ?_
    show oS p e below T2 m 7 #[.val (.int (0 : Int32))] [(.ref pR1)] _
    exact retOut X2 hx Bd.returns rfl (Or.inr (Or.inr (Or.inr (Or.inr ⟨rfl, rfl, rfl⟩)))) (hb hby d2_7) hr
  · show Qrole0 Z pR1 h0 n0 _ T2.heap _
    rw [e2]
    exact ⟨rfl, N0, rfl⟩
theorem d2_8 : decode method_4_code 8 = .ok (.iload_n 0, 1) := by decide +kernel
theorem d2_9 : decode method_4_code 9 = .ok (.iconst 1, 1) := by decide +kernel
theorem d2_10 : decode method_4_code 10 = .ok (.if_icmp .ne 7, 3) := by decide +kernel
theorem d2_13 : decode method_4_code 13 = .ok (.getstatic 47, 3) := by decide +kernel
theorem d2_16 : decode method_4_code 16 = .ok (.areturn, 1) := by decide +kernel
theorem ef_role1 (m : MethodId)  : entryFrame m #[(.int (1 : Int32))] 1 = mkF m 0 #[.val (.int (1 : Int32))] [] := by first | (simp [entryFrame, mkF, argsToLocals, Value.category]; done) | rfl
def Qrole1 (Z : State) (pR1 : Addr) (h0 : Heap) (n0 : Nat) (v : Option Value) (h : Heap) (L : List Loc) : Prop := v = some (.ref pR1) ∧ Fr n0 L ∧ h = h0
set_option maxRecDepth 65536 in
set_option maxHeartbeats 40000000 in
theorem role1 (l : Launch) (Z : State) (a0 : Array Value) (hw : ∀ d ∈ tables_1, d.before a0 Z = true) (ws : List Jvm.Cond) (pR1 : Addr) (h0 : Heap) (n0 : Nat) (Z0 : n0 ≤ h0.size) (S_ExternalRole_ORDERS : Sta Z h0 "com/example/willenhall/willenhall/external/ExternalRole" "ORDERS" "Lcom/example/willenhall/willenhall/external/ExternalRole;" (.ref pR1)) :
    MetFree l yN1 (head1 (Jvm.Cond.code yN1 method_4_code 1 (some (.object "com/example/willenhall/willenhall/external/ExternalRole")) :: ws) ({ frames := 0, cells := 0, slots := 0, locals := 0 } : Room)) (fun a U => a = #[(.int (1 : Int32))] ∧ Z.Warmed39 U.vm ∧ U.heap = h0) (fun _ _ _ _ _ => True) (fun _ U o U' => ∃ v L, o = .returned v ∧ Qrole1 Z pR1 h0 n0 v U'.heap L ∧ FrameEnd U o U' L ({ frames := 0, cells := 0, slots := 0, locals := 0 } : Room).cells ({ frames := 0, cells := 0, slots := 0, locals := 0 } : Room).slots) := by
  refine MetFree.of_bodySF (plainFor_of_name pn_0) hisR ?_
  intro p e s m args below meth c s₁ Bd hml0 hP hK
  obtain ⟨rfl, hZ, hh⟩ := hP
  have hx := Bd.exec
  have hby := Bd.bytes
  have hml : c.maxLocals = 1 := hml0
  have hown : s.vm.findClass "com/example/willenhall/willenhall/external/DocumentViewIsReachedByPinLaw" = some m.cls := findClass_of_methodNamed Bd.named
  have hnm := (name_of_methodNamed Bd.named Bd.method).1
  have X0 : Stand p l e ({ frames := 0, cells := 0, slots := 0, locals := 0 } : Room) s m #[(.int (1 : Int32))] below meth c s₁ [] 0 0 := Stand.of_body Bd
  have e0 : s₁.heap = h0 := by rw [← hh, Bd.state]; rfl
  have N0 := Fr.nil n0
  have pre0 : ∀ t, Steps p.tables e below (s₁.setTop (mkF m 0 #[.val (.int (1 : Int32))] [])) t → Steps p.tables e below (s₁.setTop (entryFrame m #[(.int (1 : Int32))] 1)) t := fun t k => castTop (ef_role1 m ) k
  obtain ⟨T2, X2, e2, st2⟩ := getS2 X0 hx hZ hown (host := "") (Or.inl (ow hw 41 rfl)) Via.refl e0 S_ExternalRole_ORDERS (g := (mkF m 13 #[.val (.int (1 : Int32))] [])) rfl (hb hby d2_13)
  obtain ⟨fs, hr, hrun, hended, hW, hsame⟩ := X2.leave (v := some (.ref pR1)) (fun h => by rw [Bd.returns] at h; cases h)
  refine ⟨_, _, pre0 _ ?_, hrun, hended, _, _, rfl, ?_, ⟨_, rfl⟩, hW, hsame.mono (by decide) (by decide)⟩
  · show oS p e below s₁ m 0 #[.val (.int (1 : Int32))] [] _
    refine XS.iloadN X0.here hx rfl (hb hby d2_0) rfl ?_
    show oS p e below s₁ m 1 #[.val (.int (1 : Int32))] [(.int (1 : Int32))] _
    refine XS.ifYes X0.here hx rfl (pc0 := 1) (pc' := 8) rfl (hb hby d2_1) rfl ((if0 _ _).trans (feq (by decide : ¬ ((1 : Int32) = (0 : Int32)))).2) (by decide) (by decide) ?_
    show oS p e below s₁ m 8 #[.val (.int (1 : Int32))] [] _
    refine XS.iloadN X0.here hx rfl (hb hby d2_8) rfl ?_
    show oS p e below s₁ m 9 #[.val (.int (1 : Int32))] [(.int (1 : Int32))] _
    refine XS.iconst X0.here hx rfl (hb hby d2_9) ?_
    show oS p e below s₁ m 10 #[.val (.int (1 : Int32))] [(.int (1 : Int32)), (.int (1 : Int32))] _
    refine XS.icmpNo X0.here hx rfl (hb hby d2_10) rfl (teq (by decide : (1 : Int32) = (1 : Int32))).2 ?_
    show oS p e below s₁ m 13 #[.val (.int (1 : Int32))] [] _
    refine st2 _ ?_
    show oS p e below T2 m 16 #[.val (.int (1 : Int32))] [(.ref pR1)] _
    exact retOut X2 hx Bd.returns rfl (Or.inr (Or.inr (Or.inr (Or.inr ⟨rfl, rfl, rfl⟩)))) (hb hby d2_16) hr
  · show Qrole1 Z pR1 h0 n0 _ T2.heap _
    rw [e2]
    exact ⟨rfl, N0, rfl⟩
theorem d2_17 : decode method_4_code 17 = .ok (.iload_n 0, 1) := by decide +kernel
theorem d2_18 : decode method_4_code 18 = .ok (.iconst 2, 1) := by decide +kernel
theorem d2_19 : decode method_4_code 19 = .ok (.if_icmp .ne 7, 3) := by decide +kernel
theorem d2_22 : decode method_4_code 22 = .ok (.getstatic 49, 3) := by decide +kernel
theorem d2_25 : decode method_4_code 25 = .ok (.areturn, 1) := by decide +kernel
theorem ef_role2 (m : MethodId)  : entryFrame m #[(.int (2 : Int32))] 1 = mkF m 0 #[.val (.int (2 : Int32))] [] := by first | (simp [entryFrame, mkF, argsToLocals, Value.category]; done) | rfl
def Qrole2 (Z : State) (pR1 : Addr) (h0 : Heap) (n0 : Nat) (v : Option Value) (h : Heap) (L : List Loc) : Prop := v = some (.ref pR1) ∧ Fr n0 L ∧ h = h0
set_option maxRecDepth 65536 in
set_option maxHeartbeats 40000000 in
theorem role2 (l : Launch) (Z : State) (a0 : Array Value) (hw : ∀ d ∈ tables_1, d.before a0 Z = true) (ws : List Jvm.Cond) (pR1 : Addr) (h0 : Heap) (n0 : Nat) (Z0 : n0 ≤ h0.size) (S_ExternalRole_ORDERS_WITH_PRICES : Sta Z h0 "com/example/willenhall/willenhall/external/ExternalRole" "ORDERS_WITH_PRICES" "Lcom/example/willenhall/willenhall/external/ExternalRole;" (.ref pR1)) :
    MetFree l yN1 (head1 (Jvm.Cond.code yN1 method_4_code 1 (some (.object "com/example/willenhall/willenhall/external/ExternalRole")) :: ws) ({ frames := 0, cells := 0, slots := 0, locals := 0 } : Room)) (fun a U => a = #[(.int (2 : Int32))] ∧ Z.Warmed39 U.vm ∧ U.heap = h0) (fun _ _ _ _ _ => True) (fun _ U o U' => ∃ v L, o = .returned v ∧ Qrole2 Z pR1 h0 n0 v U'.heap L ∧ FrameEnd U o U' L ({ frames := 0, cells := 0, slots := 0, locals := 0 } : Room).cells ({ frames := 0, cells := 0, slots := 0, locals := 0 } : Room).slots) := by
  refine MetFree.of_bodySF (plainFor_of_name pn_0) hisR ?_
  intro p e s m args below meth c s₁ Bd hml0 hP hK
  obtain ⟨rfl, hZ, hh⟩ := hP
  have hx := Bd.exec
  have hby := Bd.bytes
  have hml : c.maxLocals = 1 := hml0
  have hown : s.vm.findClass "com/example/willenhall/willenhall/external/DocumentViewIsReachedByPinLaw" = some m.cls := findClass_of_methodNamed Bd.named
  have hnm := (name_of_methodNamed Bd.named Bd.method).1
  have X0 : Stand p l e ({ frames := 0, cells := 0, slots := 0, locals := 0 } : Room) s m #[(.int (2 : Int32))] below meth c s₁ [] 0 0 := Stand.of_body Bd
  have e0 : s₁.heap = h0 := by rw [← hh, Bd.state]; rfl
  have N0 := Fr.nil n0
  have pre0 : ∀ t, Steps p.tables e below (s₁.setTop (mkF m 0 #[.val (.int (2 : Int32))] [])) t → Steps p.tables e below (s₁.setTop (entryFrame m #[(.int (2 : Int32))] 1)) t := fun t k => castTop (ef_role2 m ) k
  obtain ⟨T2, X2, e2, st2⟩ := getS2 X0 hx hZ hown (host := "") (Or.inl (ow hw 44 rfl)) Via.refl e0 S_ExternalRole_ORDERS_WITH_PRICES (g := (mkF m 22 #[.val (.int (2 : Int32))] [])) rfl (hb hby d2_22)
  obtain ⟨fs, hr, hrun, hended, hW, hsame⟩ := X2.leave (v := some (.ref pR1)) (fun h => by rw [Bd.returns] at h; cases h)
  refine ⟨_, _, pre0 _ ?_, hrun, hended, _, _, rfl, ?_, ⟨_, rfl⟩, hW, hsame.mono (by decide) (by decide)⟩
  · show oS p e below s₁ m 0 #[.val (.int (2 : Int32))] [] _
    refine XS.iloadN X0.here hx rfl (hb hby d2_0) rfl ?_
    show oS p e below s₁ m 1 #[.val (.int (2 : Int32))] [(.int (2 : Int32))] _
    refine XS.ifYes X0.here hx rfl (pc0 := 1) (pc' := 8) rfl (hb hby d2_1) rfl ((if0 _ _).trans (feq (by decide : ¬ ((2 : Int32) = (0 : Int32)))).2) (by decide) (by decide) ?_
    show oS p e below s₁ m 8 #[.val (.int (2 : Int32))] [] _
    refine XS.iloadN X0.here hx rfl (hb hby d2_8) rfl ?_
    show oS p e below s₁ m 9 #[.val (.int (2 : Int32))] [(.int (2 : Int32))] _
    refine XS.iconst X0.here hx rfl (hb hby d2_9) ?_
    show oS p e below s₁ m 10 #[.val (.int (2 : Int32))] [(.int (1 : Int32)), (.int (2 : Int32))] _
    refine XS.icmpYes X0.here hx rfl (pc0 := 10) (pc' := 17) rfl (hb hby d2_10) rfl (feq (by decide : ¬ ((2 : Int32) = (1 : Int32)))).2 (by decide) (by decide) ?_
    show oS p e below s₁ m 17 #[.val (.int (2 : Int32))] [] _
    refine XS.iloadN X0.here hx rfl (hb hby d2_17) rfl ?_
    show oS p e below s₁ m 18 #[.val (.int (2 : Int32))] [(.int (2 : Int32))] _
    refine XS.iconst X0.here hx rfl (hb hby d2_18) ?_
    show oS p e below s₁ m 19 #[.val (.int (2 : Int32))] [(.int (2 : Int32)), (.int (2 : Int32))] _
    refine XS.icmpNo X0.here hx rfl (hb hby d2_19) rfl (teq (by decide : (2 : Int32) = (2 : Int32))).2 ?_
    show oS p e below s₁ m 22 #[.val (.int (2 : Int32))] [] _
    refine st2 _ ?_
    show oS p e below T2 m 25 #[.val (.int (2 : Int32))] [(.ref pR1)] _
    exact retOut X2 hx Bd.returns rfl (Or.inr (Or.inr (Or.inr (Or.inr ⟨rfl, rfl, rfl⟩)))) (hb hby d2_25) hr
  · show Qrole2 Z pR1 h0 n0 _ T2.heap _
    rw [e2]
    exact ⟨rfl, N0, rfl⟩
theorem d2_26 : decode method_4_code 26 = .ok (.iload_n 0, 1) := by decide +kernel
theorem d2_27 : decode method_4_code 27 = .ok (.iconst 3, 1) := by decide +kernel
theorem d2_28 : decode method_4_code 28 = .ok (.if_icmp .ne 7, 3) := by decide +kernel
theorem d2_31 : decode method_4_code 31 = .ok (.getstatic 52, 3) := by decide +kernel
theorem d2_34 : decode method_4_code 34 = .ok (.areturn, 1) := by decide +kernel
theorem ef_role3 (m : MethodId)  : entryFrame m #[(.int (3 : Int32))] 1 = mkF m 0 #[.val (.int (3 : Int32))] [] := by first | (simp [entryFrame, mkF, argsToLocals, Value.category]; done) | rfl
def Qrole3 (Z : State) (pR1 : Addr) (h0 : Heap) (n0 : Nat) (v : Option Value) (h : Heap) (L : List Loc) : Prop := v = some (.ref pR1) ∧ Fr n0 L ∧ h = h0
set_option maxRecDepth 65536 in
set_option maxHeartbeats 40000000 in
theorem role3 (l : Launch) (Z : State) (a0 : Array Value) (hw : ∀ d ∈ tables_1, d.before a0 Z = true) (ws : List Jvm.Cond) (pR1 : Addr) (h0 : Heap) (n0 : Nat) (Z0 : n0 ≤ h0.size) (S_ExternalRole_BILLING : Sta Z h0 "com/example/willenhall/willenhall/external/ExternalRole" "BILLING" "Lcom/example/willenhall/willenhall/external/ExternalRole;" (.ref pR1)) :
    MetFree l yN1 (head1 (Jvm.Cond.code yN1 method_4_code 1 (some (.object "com/example/willenhall/willenhall/external/ExternalRole")) :: ws) ({ frames := 0, cells := 0, slots := 0, locals := 0 } : Room)) (fun a U => a = #[(.int (3 : Int32))] ∧ Z.Warmed39 U.vm ∧ U.heap = h0) (fun _ _ _ _ _ => True) (fun _ U o U' => ∃ v L, o = .returned v ∧ Qrole3 Z pR1 h0 n0 v U'.heap L ∧ FrameEnd U o U' L ({ frames := 0, cells := 0, slots := 0, locals := 0 } : Room).cells ({ frames := 0, cells := 0, slots := 0, locals := 0 } : Room).slots) := by
  refine MetFree.of_bodySF (plainFor_of_name pn_0) hisR ?_
  intro p e s m args below meth c s₁ Bd hml0 hP hK
  obtain ⟨rfl, hZ, hh⟩ := hP
  have hx := Bd.exec
  have hby := Bd.bytes
  have hml : c.maxLocals = 1 := hml0
  have hown : s.vm.findClass "com/example/willenhall/willenhall/external/DocumentViewIsReachedByPinLaw" = some m.cls := findClass_of_methodNamed Bd.named
  have hnm := (name_of_methodNamed Bd.named Bd.method).1
  have X0 : Stand p l e ({ frames := 0, cells := 0, slots := 0, locals := 0 } : Room) s m #[(.int (3 : Int32))] below meth c s₁ [] 0 0 := Stand.of_body Bd
  have e0 : s₁.heap = h0 := by rw [← hh, Bd.state]; rfl
  have N0 := Fr.nil n0
  have pre0 : ∀ t, Steps p.tables e below (s₁.setTop (mkF m 0 #[.val (.int (3 : Int32))] [])) t → Steps p.tables e below (s₁.setTop (entryFrame m #[(.int (3 : Int32))] 1)) t := fun t k => castTop (ef_role3 m ) k
  obtain ⟨T2, X2, e2, st2⟩ := getS2 X0 hx hZ hown (host := "") (Or.inl (ow hw 11 rfl)) Via.refl e0 S_ExternalRole_BILLING (g := (mkF m 31 #[.val (.int (3 : Int32))] [])) rfl (hb hby d2_31)
  obtain ⟨fs, hr, hrun, hended, hW, hsame⟩ := X2.leave (v := some (.ref pR1)) (fun h => by rw [Bd.returns] at h; cases h)
  refine ⟨_, _, pre0 _ ?_, hrun, hended, _, _, rfl, ?_, ⟨_, rfl⟩, hW, hsame.mono (by decide) (by decide)⟩
  · show oS p e below s₁ m 0 #[.val (.int (3 : Int32))] [] _
    refine XS.iloadN X0.here hx rfl (hb hby d2_0) rfl ?_
    show oS p e below s₁ m 1 #[.val (.int (3 : Int32))] [(.int (3 : Int32))] _
    refine XS.ifYes X0.here hx rfl (pc0 := 1) (pc' := 8) rfl (hb hby d2_1) rfl ((if0 _ _).trans (feq (by decide : ¬ ((3 : Int32) = (0 : Int32)))).2) (by decide) (by decide) ?_
    show oS p e below s₁ m 8 #[.val (.int (3 : Int32))] [] _
    refine XS.iloadN X0.here hx rfl (hb hby d2_8) rfl ?_
    show oS p e below s₁ m 9 #[.val (.int (3 : Int32))] [(.int (3 : Int32))] _
    refine XS.iconst X0.here hx rfl (hb hby d2_9) ?_
    show oS p e below s₁ m 10 #[.val (.int (3 : Int32))] [(.int (1 : Int32)), (.int (3 : Int32))] _
    refine XS.icmpYes X0.here hx rfl (pc0 := 10) (pc' := 17) rfl (hb hby d2_10) rfl (feq (by decide : ¬ ((3 : Int32) = (1 : Int32)))).2 (by decide) (by decide) ?_
    show oS p e below s₁ m 17 #[.val (.int (3 : Int32))] [] _
    refine XS.iloadN X0.here hx rfl (hb hby d2_17) rfl ?_
    show oS p e below s₁ m 18 #[.val (.int (3 : Int32))] [(.int (3 : Int32))] _
    refine XS.iconst X0.here hx rfl (hb hby d2_18) ?_
    show oS p e below s₁ m 19 #[.val (.int (3 : Int32))] [(.int (2 : Int32)), (.int (3 : Int32))] _
    refine XS.icmpYes X0.here hx rfl (pc0 := 19) (pc' := 26) rfl (hb hby d2_19) rfl (feq (by decide : ¬ ((3 : Int32) = (2 : Int32)))).2 (by decide) (by decide) ?_
    show oS p e below s₁ m 26 #[.val (.int (3 : Int32))] [] _
    refine XS.iloadN X0.here hx rfl (hb hby d2_26) rfl ?_
    show oS p e below s₁ m 27 #[.val (.int (3 : Int32))] [(.int (3 : Int32))] _
    refine XS.iconst X0.here hx rfl (hb hby d2_27) ?_
    show oS p e below s₁ m 28 #[.val (.int (3 : Int32))] [(.int (3 : Int32)), (.int (3 : Int32))] _
    refine XS.icmpNo X0.here hx rfl (hb hby d2_28) rfl (teq (by decide : (3 : Int32) = (3 : Int32))).2 ?_
    show oS p e below s₁ m 31 #[.val (.int (3 : Int32))] [] _
    refine st2 _ ?_
    show oS p e below T2 m 34 #[.val (.int (3 : Int32))] [(.ref pR1)] _
    exact retOut X2 hx Bd.returns rfl (Or.inr (Or.inr (Or.inr (Or.inr ⟨rfl, rfl, rfl⟩)))) (hb hby d2_34) hr
  · show Qrole3 Z pR1 h0 n0 _ T2.heap _
    rw [e2]
    exact ⟨rfl, N0, rfl⟩
theorem d2_35 : decode method_4_code 35 = .ok (.iload_n 0, 1) := by decide +kernel
theorem d2_36 : decode method_4_code 36 = .ok (.iconst 4, 1) := by decide +kernel
theorem d2_37 : decode method_4_code 37 = .ok (.if_icmp .ne 7, 3) := by decide +kernel
theorem d2_40 : decode method_4_code 40 = .ok (.getstatic 55, 3) := by decide +kernel
theorem d2_43 : decode method_4_code 43 = .ok (.areturn, 1) := by decide +kernel
theorem ef_role4 (m : MethodId)  : entryFrame m #[(.int (4 : Int32))] 1 = mkF m 0 #[.val (.int (4 : Int32))] [] := by first | (simp [entryFrame, mkF, argsToLocals, Value.category]; done) | rfl
def Qrole4 (Z : State) (pR1 : Addr) (h0 : Heap) (n0 : Nat) (v : Option Value) (h : Heap) (L : List Loc) : Prop := v = some (.ref pR1) ∧ Fr n0 L ∧ h = h0
set_option maxRecDepth 65536 in
set_option maxHeartbeats 40000000 in
theorem role4 (l : Launch) (Z : State) (a0 : Array Value) (hw : ∀ d ∈ tables_1, d.before a0 Z = true) (ws : List Jvm.Cond) (pR1 : Addr) (h0 : Heap) (n0 : Nat) (Z0 : n0 ≤ h0.size) (S_ExternalRole_ADMIN : Sta Z h0 "com/example/willenhall/willenhall/external/ExternalRole" "ADMIN" "Lcom/example/willenhall/willenhall/external/ExternalRole;" (.ref pR1)) :
    MetFree l yN1 (head1 (Jvm.Cond.code yN1 method_4_code 1 (some (.object "com/example/willenhall/willenhall/external/ExternalRole")) :: ws) ({ frames := 0, cells := 0, slots := 0, locals := 0 } : Room)) (fun a U => a = #[(.int (4 : Int32))] ∧ Z.Warmed39 U.vm ∧ U.heap = h0) (fun _ _ _ _ _ => True) (fun _ U o U' => ∃ v L, o = .returned v ∧ Qrole4 Z pR1 h0 n0 v U'.heap L ∧ FrameEnd U o U' L ({ frames := 0, cells := 0, slots := 0, locals := 0 } : Room).cells ({ frames := 0, cells := 0, slots := 0, locals := 0 } : Room).slots) := by
  refine MetFree.of_bodySF (plainFor_of_name pn_0) hisR ?_
  intro p e s m args below meth c s₁ Bd hml0 hP hK
  obtain ⟨rfl, hZ, hh⟩ := hP
  have hx := Bd.exec
  have hby := Bd.bytes
  have hml : c.maxLocals = 1 := hml0
  have hown : s.vm.findClass "com/example/willenhall/willenhall/external/DocumentViewIsReachedByPinLaw" = some m.cls := findClass_of_methodNamed Bd.named
  have hnm := (name_of_methodNamed Bd.named Bd.method).1
  have X0 : Stand p l e ({ frames := 0, cells := 0, slots := 0, locals := 0 } : Room) s m #[(.int (4 : Int32))] below meth c s₁ [] 0 0 := Stand.of_body Bd
  have e0 : s₁.heap = h0 := by rw [← hh, Bd.state]; rfl
  have N0 := Fr.nil n0
  have pre0 : ∀ t, Steps p.tables e below (s₁.setTop (mkF m 0 #[.val (.int (4 : Int32))] [])) t → Steps p.tables e below (s₁.setTop (entryFrame m #[(.int (4 : Int32))] 1)) t := fun t k => castTop (ef_role4 m ) k
  obtain ⟨T2, X2, e2, st2⟩ := getS2 X0 hx hZ hown (host := "") (Or.inl (ow hw 50 rfl)) Via.refl e0 S_ExternalRole_ADMIN (g := (mkF m 40 #[.val (.int (4 : Int32))] [])) rfl (hb hby d2_40)
  obtain ⟨fs, hr, hrun, hended, hW, hsame⟩ := X2.leave (v := some (.ref pR1)) (fun h => by rw [Bd.returns] at h; cases h)
  refine ⟨_, _, pre0 _ ?_, hrun, hended, _, _, rfl, ?_, ⟨_, rfl⟩, hW, hsame.mono (by decide) (by decide)⟩
  · show oS p e below s₁ m 0 #[.val (.int (4 : Int32))] [] _
    refine XS.iloadN X0.here hx rfl (hb hby d2_0) rfl ?_
    show oS p e below s₁ m 1 #[.val (.int (4 : Int32))] [(.int (4 : Int32))] _
    refine XS.ifYes X0.here hx rfl (pc0 := 1) (pc' := 8) rfl (hb hby d2_1) rfl ((if0 _ _).trans (feq (by decide : ¬ ((4 : Int32) = (0 : Int32)))).2) (by decide) (by decide) ?_
    show oS p e below s₁ m 8 #[.val (.int (4 : Int32))] [] _
    refine XS.iloadN X0.here hx rfl (hb hby d2_8) rfl ?_
    show oS p e below s₁ m 9 #[.val (.int (4 : Int32))] [(.int (4 : Int32))] _
    refine XS.iconst X0.here hx rfl (hb hby d2_9) ?_
    show oS p e below s₁ m 10 #[.val (.int (4 : Int32))] [(.int (1 : Int32)), (.int (4 : Int32))] _
    refine XS.icmpYes X0.here hx rfl (pc0 := 10) (pc' := 17) rfl (hb hby d2_10) rfl (feq (by decide : ¬ ((4 : Int32) = (1 : Int32)))).2 (by decide) (by decide) ?_
    show oS p e below s₁ m 17 #[.val (.int (4 : Int32))] [] _
    refine XS.iloadN X0.here hx rfl (hb hby d2_17) rfl ?_
    show oS p e below s₁ m 18 #[.val (.int (4 : Int32))] [(.int (4 : Int32))] _
    refine XS.iconst X0.here hx rfl (hb hby d2_18) ?_
    show oS p e below s₁ m 19 #[.val (.int (4 : Int32))] [(.int (2 : Int32)), (.int (4 : Int32))] _
    refine XS.icmpYes X0.here hx rfl (pc0 := 19) (pc' := 26) rfl (hb hby d2_19) rfl (feq (by decide : ¬ ((4 : Int32) = (2 : Int32)))).2 (by decide) (by decide) ?_
    show oS p e below s₁ m 26 #[.val (.int (4 : Int32))] [] _
    refine XS.iloadN X0.here hx rfl (hb hby d2_26) rfl ?_
    show oS p e below s₁ m 27 #[.val (.int (4 : Int32))] [(.int (4 : Int32))] _
    refine XS.iconst X0.here hx rfl (hb hby d2_27) ?_
    show oS p e below s₁ m 28 #[.val (.int (4 : Int32))] [(.int (3 : Int32)), (.int (4 : Int32))] _
    refine XS.icmpYes X0.here hx rfl (pc0 := 28) (pc' := 35) rfl (hb hby d2_28) rfl (feq (by decide : ¬ ((4 : Int32) = (3 : Int32)))).2 (by decide) (by decide) ?_
    show oS p e below s₁ m 35 #[.val (.int (4 : Int32))] [] _
    refine XS.iloadN X0.here hx rfl (hb hby d2_35) rfl ?_
    show oS p e below s₁ m 36 #[.val (.int (4 : Int32))] [(.int (4 : Int32))] _
    refine XS.iconst X0.here hx rfl (hb hby d2_36) ?_
    show oS p e below s₁ m 37 #[.val (.int (4 : Int32))] [(.int (4 : Int32)), (.int (4 : Int32))] _
    refine XS.icmpNo X0.here hx rfl (hb hby d2_37) rfl (teq (by decide : (4 : Int32) = (4 : Int32))).2 ?_
    show oS p e below s₁ m 40 #[.val (.int (4 : Int32))] [] _
    refine st2 _ ?_
    show oS p e below T2 m 43 #[.val (.int (4 : Int32))] [(.ref pR1)] _
    exact retOut X2 hx Bd.returns rfl (Or.inr (Or.inr (Or.inr (Or.inr ⟨rfl, rfl, rfl⟩)))) (hb hby d2_43) hr
  · show Qrole4 Z pR1 h0 n0 _ T2.heap _
    rw [e2]
    exact ⟨rfl, N0, rfl⟩
theorem d2_44 : decode method_4_code 44 = .ok (.getstatic 58, 3) := by decide +kernel
theorem d2_47 : decode method_4_code 47 = .ok (.areturn, 1) := by decide +kernel
theorem ef_role5 (m : MethodId)  : entryFrame m #[(.int (5 : Int32))] 1 = mkF m 0 #[.val (.int (5 : Int32))] [] := by first | (simp [entryFrame, mkF, argsToLocals, Value.category]; done) | rfl
def Qrole5 (Z : State) (pR1 : Addr) (h0 : Heap) (n0 : Nat) (v : Option Value) (h : Heap) (L : List Loc) : Prop := v = some (.ref pR1) ∧ Fr n0 L ∧ h = h0
set_option maxRecDepth 65536 in
set_option maxHeartbeats 40000000 in
theorem role5 (l : Launch) (Z : State) (a0 : Array Value) (hw : ∀ d ∈ tables_1, d.before a0 Z = true) (ws : List Jvm.Cond) (pR1 : Addr) (h0 : Heap) (n0 : Nat) (Z0 : n0 ≤ h0.size) (S_ExternalRole_OWNER : Sta Z h0 "com/example/willenhall/willenhall/external/ExternalRole" "OWNER" "Lcom/example/willenhall/willenhall/external/ExternalRole;" (.ref pR1)) :
    MetFree l yN1 (head1 (Jvm.Cond.code yN1 method_4_code 1 (some (.object "com/example/willenhall/willenhall/external/ExternalRole")) :: ws) ({ frames := 0, cells := 0, slots := 0, locals := 0 } : Room)) (fun a U => a = #[(.int (5 : Int32))] ∧ Z.Warmed39 U.vm ∧ U.heap = h0) (fun _ _ _ _ _ => True) (fun _ U o U' => ∃ v L, o = .returned v ∧ Qrole5 Z pR1 h0 n0 v U'.heap L ∧ FrameEnd U o U' L ({ frames := 0, cells := 0, slots := 0, locals := 0 } : Room).cells ({ frames := 0, cells := 0, slots := 0, locals := 0 } : Room).slots) := by
  refine MetFree.of_bodySF (plainFor_of_name pn_0) hisR ?_
  intro p e s m args below meth c s₁ Bd hml0 hP hK
  obtain ⟨rfl, hZ, hh⟩ := hP
  have hx := Bd.exec
  have hby := Bd.bytes
  have hml : c.maxLocals = 1 := hml0
  have hown : s.vm.findClass "com/example/willenhall/willenhall/external/DocumentViewIsReachedByPinLaw" = some m.cls := findClass_of_methodNamed Bd.named
  have hnm := (name_of_methodNamed Bd.named Bd.method).1
  have X0 : Stand p l e ({ frames := 0, cells := 0, slots := 0, locals := 0 } : Room) s m #[(.int (5 : Int32))] below meth c s₁ [] 0 0 := Stand.of_body Bd
  have e0 : s₁.heap = h0 := by rw [← hh, Bd.state]; rfl
  have N0 := Fr.nil n0
  have pre0 : ∀ t, Steps p.tables e below (s₁.setTop (mkF m 0 #[.val (.int (5 : Int32))] [])) t → Steps p.tables e below (s₁.setTop (entryFrame m #[(.int (5 : Int32))] 1)) t := fun t k => castTop (ef_role5 m ) k
  obtain ⟨T2, X2, e2, st2⟩ := getS2 X0 hx hZ hown (host := "") (Or.inl (ow hw 42 rfl)) Via.refl e0 S_ExternalRole_OWNER (g := (mkF m 44 #[.val (.int (5 : Int32))] [])) rfl (hb hby d2_44)
  obtain ⟨fs, hr, hrun, hended, hW, hsame⟩ := X2.leave (v := some (.ref pR1)) (fun h => by rw [Bd.returns] at h; cases h)
  refine ⟨_, _, pre0 _ ?_, hrun, hended, _, _, rfl, ?_, ⟨_, rfl⟩, hW, hsame.mono (by decide) (by decide)⟩
  · show oS p e below s₁ m 0 #[.val (.int (5 : Int32))] [] _
    refine XS.iloadN X0.here hx rfl (hb hby d2_0) rfl ?_
    show oS p e below s₁ m 1 #[.val (.int (5 : Int32))] [(.int (5 : Int32))] _
    refine XS.ifYes X0.here hx rfl (pc0 := 1) (pc' := 8) rfl (hb hby d2_1) rfl ((if0 _ _).trans (feq (by decide : ¬ ((5 : Int32) = (0 : Int32)))).2) (by decide) (by decide) ?_
    show oS p e below s₁ m 8 #[.val (.int (5 : Int32))] [] _
    refine XS.iloadN X0.here hx rfl (hb hby d2_8) rfl ?_
    show oS p e below s₁ m 9 #[.val (.int (5 : Int32))] [(.int (5 : Int32))] _
    refine XS.iconst X0.here hx rfl (hb hby d2_9) ?_
    show oS p e below s₁ m 10 #[.val (.int (5 : Int32))] [(.int (1 : Int32)), (.int (5 : Int32))] _
    refine XS.icmpYes X0.here hx rfl (pc0 := 10) (pc' := 17) rfl (hb hby d2_10) rfl (feq (by decide : ¬ ((5 : Int32) = (1 : Int32)))).2 (by decide) (by decide) ?_
    show oS p e below s₁ m 17 #[.val (.int (5 : Int32))] [] _
    refine XS.iloadN X0.here hx rfl (hb hby d2_17) rfl ?_
    show oS p e below s₁ m 18 #[.val (.int (5 : Int32))] [(.int (5 : Int32))] _
    refine XS.iconst X0.here hx rfl (hb hby d2_18) ?_
    show oS p e below s₁ m 19 #[.val (.int (5 : Int32))] [(.int (2 : Int32)), (.int (5 : Int32))] _
    refine XS.icmpYes X0.here hx rfl (pc0 := 19) (pc' := 26) rfl (hb hby d2_19) rfl (feq (by decide : ¬ ((5 : Int32) = (2 : Int32)))).2 (by decide) (by decide) ?_
    show oS p e below s₁ m 26 #[.val (.int (5 : Int32))] [] _
    refine XS.iloadN X0.here hx rfl (hb hby d2_26) rfl ?_
    show oS p e below s₁ m 27 #[.val (.int (5 : Int32))] [(.int (5 : Int32))] _
    refine XS.iconst X0.here hx rfl (hb hby d2_27) ?_
    show oS p e below s₁ m 28 #[.val (.int (5 : Int32))] [(.int (3 : Int32)), (.int (5 : Int32))] _
    refine XS.icmpYes X0.here hx rfl (pc0 := 28) (pc' := 35) rfl (hb hby d2_28) rfl (feq (by decide : ¬ ((5 : Int32) = (3 : Int32)))).2 (by decide) (by decide) ?_
    show oS p e below s₁ m 35 #[.val (.int (5 : Int32))] [] _
    refine XS.iloadN X0.here hx rfl (hb hby d2_35) rfl ?_
    show oS p e below s₁ m 36 #[.val (.int (5 : Int32))] [(.int (5 : Int32))] _
    refine XS.iconst X0.here hx rfl (hb hby d2_36) ?_
    show oS p e below s₁ m 37 #[.val (.int (5 : Int32))] [(.int (4 : Int32)), (.int (5 : Int32))] _
    refine XS.icmpYes X0.here hx rfl (pc0 := 37) (pc' := 44) rfl (hb hby d2_37) rfl (feq (by decide : ¬ ((5 : Int32) = (4 : Int32)))).2 (by decide) (by decide) ?_
    show oS p e below s₁ m 44 #[.val (.int (5 : Int32))] [] _
    refine st2 _ ?_
    show oS p e below T2 m 47 #[.val (.int (5 : Int32))] [(.ref pR1)] _
    exact retOut X2 hx Bd.returns rfl (Or.inr (Or.inr (Or.inr (Or.inr ⟨rfl, rfl, rfl⟩)))) (hb hby d2_47) hr
  · show Qrole5 Z pR1 h0 n0 _ T2.heap _
    rw [e2]
    exact ⟨rfl, N0, rfl⟩
theorem d3_0 : decode method_5_code 0 = .ok (.iload_n 0, 1) := by decide +kernel
theorem d3_1 : decode method_5_code 1 = .ok (.ifCond .ne 5, 3) := by decide +kernel
theorem d3_4 : decode method_5_code 4 = .ok (.iconst 1, 1) := by decide +kernel
theorem d3_5 : decode method_5_code 5 = .ok (.ireturn, 1) := by decide +kernel
theorem ef_lowest0 (m : MethodId)  : entryFrame m #[(.int (0 : Int32))] 1 = mkF m 0 #[.val (.int (0 : Int32))] [] := by first | (simp [entryFrame, mkF, argsToLocals, Value.category]; done) | rfl
def Qlowest0 (Z : State)  (h0 : Heap) (n0 : Nat) (v : Option Value) (h : Heap) (L : List Loc) : Prop := v = some (.int (1 : Int32)) ∧ Fr n0 L ∧ h = h0
set_option maxRecDepth 65536 in
set_option maxHeartbeats 40000000 in
theorem lowest0 (l : Launch) (Z : State) (a0 : Array Value) (hw : ∀ d ∈ tables_1, d.before a0 Z = true) (ws : List Jvm.Cond)  (h0 : Heap) (n0 : Nat) (Z0 : n0 ≤ h0.size) :
    MetFree l yN2 (head1 (Jvm.Cond.code yN2 method_5_code 1 (some .int) :: ws) ({ frames := 0, cells := 0, slots := 0, locals := 0 } : Room)) (fun a U => a = #[(.int (0 : Int32))] ∧ Z.Warmed39 U.vm ∧ U.heap = h0) (fun _ _ _ _ _ => True) (fun _ U o U' => ∃ v L, o = .returned v ∧ Qlowest0 Z  h0 n0 v U'.heap L ∧ FrameEnd U o U' L ({ frames := 0, cells := 0, slots := 0, locals := 0 } : Room).cells ({ frames := 0, cells := 0, slots := 0, locals := 0 } : Room).slots) := by
  refine MetFree.of_bodySF (plainFor_of_name pn_0) hisR ?_
  intro p e s m args below meth c s₁ Bd hml0 hP hK
  obtain ⟨rfl, hZ, hh⟩ := hP
  have hx := Bd.exec
  have hby := Bd.bytes
  have hml : c.maxLocals = 1 := hml0
  have hown : s.vm.findClass "com/example/willenhall/willenhall/external/DocumentViewIsReachedByPinLaw" = some m.cls := findClass_of_methodNamed Bd.named
  have hnm := (name_of_methodNamed Bd.named Bd.method).1
  have X0 : Stand p l e ({ frames := 0, cells := 0, slots := 0, locals := 0 } : Room) s m #[(.int (0 : Int32))] below meth c s₁ [] 0 0 := Stand.of_body Bd
  have e0 : s₁.heap = h0 := by rw [← hh, Bd.state]; rfl
  have N0 := Fr.nil n0
  have pre0 : ∀ t, Steps p.tables e below (s₁.setTop (mkF m 0 #[.val (.int (0 : Int32))] [])) t → Steps p.tables e below (s₁.setTop (entryFrame m #[(.int (0 : Int32))] 1)) t := fun t k => castTop (ef_lowest0 m ) k
  obtain ⟨fs, hr, hrun, hended, hW, hsame⟩ := X0.leave (v := some (.int (1 : Int32))) (fun h => by rw [Bd.returns] at h; cases h)
  refine ⟨_, _, pre0 _ ?_, hrun, hended, _, _, rfl, ?_, ⟨_, rfl⟩, hW, hsame.mono (by decide) (by decide)⟩
  · show oS p e below s₁ m 0 #[.val (.int (0 : Int32))] [] _
    refine XS.iloadN X0.here hx rfl (hb hby d3_0) rfl ?_
    show oS p e below s₁ m 1 #[.val (.int (0 : Int32))] [(.int (0 : Int32))] _
    refine XS.ifNo X0.here hx rfl (hb hby d3_1) rfl ((if0 _ _).trans (teq (by decide : (0 : Int32) = (0 : Int32))).2) ?_
    show oS p e below s₁ m 4 #[.val (.int (0 : Int32))] [] _
    refine XS.iconst X0.here hx rfl (hb hby d3_4) ?_
    show oS p e below s₁ m 5 #[.val (.int (0 : Int32))] [(.int (1 : Int32))] _
    exact retI X0 hx Bd.returns (hb hby d3_5) hr
  · show Qlowest0 Z  h0 n0 _ s₁.heap _
    rw [e0]
    exact ⟨rfl, N0, rfl⟩
theorem d3_6 : decode method_5_code 6 = .ok (.iload_n 0, 1) := by decide +kernel
theorem d3_7 : decode method_5_code 7 = .ok (.iconst 1, 1) := by decide +kernel
theorem d3_8 : decode method_5_code 8 = .ok (.if_icmp .ne 5, 3) := by decide +kernel
theorem d3_11 : decode method_5_code 11 = .ok (.iconst 2, 1) := by decide +kernel
theorem d3_12 : decode method_5_code 12 = .ok (.ireturn, 1) := by decide +kernel
theorem ef_lowest1 (m : MethodId)  : entryFrame m #[(.int (1 : Int32))] 1 = mkF m 0 #[.val (.int (1 : Int32))] [] := by first | (simp [entryFrame, mkF, argsToLocals, Value.category]; done) | rfl
def Qlowest1 (Z : State)  (h0 : Heap) (n0 : Nat) (v : Option Value) (h : Heap) (L : List Loc) : Prop := v = some (.int (2 : Int32)) ∧ Fr n0 L ∧ h = h0
set_option maxRecDepth 65536 in
set_option maxHeartbeats 40000000 in
theorem lowest1 (l : Launch) (Z : State) (a0 : Array Value) (hw : ∀ d ∈ tables_1, d.before a0 Z = true) (ws : List Jvm.Cond)  (h0 : Heap) (n0 : Nat) (Z0 : n0 ≤ h0.size) :
    MetFree l yN2 (head1 (Jvm.Cond.code yN2 method_5_code 1 (some .int) :: ws) ({ frames := 0, cells := 0, slots := 0, locals := 0 } : Room)) (fun a U => a = #[(.int (1 : Int32))] ∧ Z.Warmed39 U.vm ∧ U.heap = h0) (fun _ _ _ _ _ => True) (fun _ U o U' => ∃ v L, o = .returned v ∧ Qlowest1 Z  h0 n0 v U'.heap L ∧ FrameEnd U o U' L ({ frames := 0, cells := 0, slots := 0, locals := 0 } : Room).cells ({ frames := 0, cells := 0, slots := 0, locals := 0 } : Room).slots) := by
  refine MetFree.of_bodySF (plainFor_of_name pn_0) hisR ?_
  intro p e s m args below meth c s₁ Bd hml0 hP hK
  obtain ⟨rfl, hZ, hh⟩ := hP
  have hx := Bd.exec
  have hby := Bd.bytes
  have hml : c.maxLocals = 1 := hml0
  have hown : s.vm.findClass "com/example/willenhall/willenhall/external/DocumentViewIsReachedByPinLaw" = some m.cls := findClass_of_methodNamed Bd.named
  have hnm := (name_of_methodNamed Bd.named Bd.method).1
  have X0 : Stand p l e ({ frames := 0, cells := 0, slots := 0, locals := 0 } : Room) s m #[(.int (1 : Int32))] below meth c s₁ [] 0 0 := Stand.of_body Bd
  have e0 : s₁.heap = h0 := by rw [← hh, Bd.state]; rfl
  have N0 := Fr.nil n0
  have pre0 : ∀ t, Steps p.tables e below (s₁.setTop (mkF m 0 #[.val (.int (1 : Int32))] [])) t → Steps p.tables e below (s₁.setTop (entryFrame m #[(.int (1 : Int32))] 1)) t := fun t k => castTop (ef_lowest1 m ) k
  obtain ⟨fs, hr, hrun, hended, hW, hsame⟩ := X0.leave (v := some (.int (2 : Int32))) (fun h => by rw [Bd.returns] at h; cases h)
  refine ⟨_, _, pre0 _ ?_, hrun, hended, _, _, rfl, ?_, ⟨_, rfl⟩, hW, hsame.mono (by decide) (by decide)⟩
  · show oS p e below s₁ m 0 #[.val (.int (1 : Int32))] [] _
    refine XS.iloadN X0.here hx rfl (hb hby d3_0) rfl ?_
    show oS p e below s₁ m 1 #[.val (.int (1 : Int32))] [(.int (1 : Int32))] _
    refine XS.ifYes X0.here hx rfl (pc0 := 1) (pc' := 6) rfl (hb hby d3_1) rfl ((if0 _ _).trans (feq (by decide : ¬ ((1 : Int32) = (0 : Int32)))).2) (by decide) (by decide) ?_
    show oS p e below s₁ m 6 #[.val (.int (1 : Int32))] [] _
    refine XS.iloadN X0.here hx rfl (hb hby d3_6) rfl ?_
    show oS p e below s₁ m 7 #[.val (.int (1 : Int32))] [(.int (1 : Int32))] _
    refine XS.iconst X0.here hx rfl (hb hby d3_7) ?_
    show oS p e below s₁ m 8 #[.val (.int (1 : Int32))] [(.int (1 : Int32)), (.int (1 : Int32))] _
    refine XS.icmpNo X0.here hx rfl (hb hby d3_8) rfl (teq (by decide : (1 : Int32) = (1 : Int32))).2 ?_
    show oS p e below s₁ m 11 #[.val (.int (1 : Int32))] [] _
    refine XS.iconst X0.here hx rfl (hb hby d3_11) ?_
    show oS p e below s₁ m 12 #[.val (.int (1 : Int32))] [(.int (2 : Int32))] _
    exact retI X0 hx Bd.returns (hb hby d3_12) hr
  · show Qlowest1 Z  h0 n0 _ s₁.heap _
    rw [e0]
    exact ⟨rfl, N0, rfl⟩
theorem d3_13 : decode method_5_code 13 = .ok (.iconst 3, 1) := by decide +kernel
theorem d3_14 : decode method_5_code 14 = .ok (.ireturn, 1) := by decide +kernel
theorem ef_lowest2 (m : MethodId)  : entryFrame m #[(.int (2 : Int32))] 1 = mkF m 0 #[.val (.int (2 : Int32))] [] := by first | (simp [entryFrame, mkF, argsToLocals, Value.category]; done) | rfl
def Qlowest2 (Z : State)  (h0 : Heap) (n0 : Nat) (v : Option Value) (h : Heap) (L : List Loc) : Prop := v = some (.int (3 : Int32)) ∧ Fr n0 L ∧ h = h0
set_option maxRecDepth 65536 in
set_option maxHeartbeats 40000000 in
theorem lowest2 (l : Launch) (Z : State) (a0 : Array Value) (hw : ∀ d ∈ tables_1, d.before a0 Z = true) (ws : List Jvm.Cond)  (h0 : Heap) (n0 : Nat) (Z0 : n0 ≤ h0.size) :
    MetFree l yN2 (head1 (Jvm.Cond.code yN2 method_5_code 1 (some .int) :: ws) ({ frames := 0, cells := 0, slots := 0, locals := 0 } : Room)) (fun a U => a = #[(.int (2 : Int32))] ∧ Z.Warmed39 U.vm ∧ U.heap = h0) (fun _ _ _ _ _ => True) (fun _ U o U' => ∃ v L, o = .returned v ∧ Qlowest2 Z  h0 n0 v U'.heap L ∧ FrameEnd U o U' L ({ frames := 0, cells := 0, slots := 0, locals := 0 } : Room).cells ({ frames := 0, cells := 0, slots := 0, locals := 0 } : Room).slots) := by
  refine MetFree.of_bodySF (plainFor_of_name pn_0) hisR ?_
  intro p e s m args below meth c s₁ Bd hml0 hP hK
  obtain ⟨rfl, hZ, hh⟩ := hP
  have hx := Bd.exec
  have hby := Bd.bytes
  have hml : c.maxLocals = 1 := hml0
  have hown : s.vm.findClass "com/example/willenhall/willenhall/external/DocumentViewIsReachedByPinLaw" = some m.cls := findClass_of_methodNamed Bd.named
  have hnm := (name_of_methodNamed Bd.named Bd.method).1
  have X0 : Stand p l e ({ frames := 0, cells := 0, slots := 0, locals := 0 } : Room) s m #[(.int (2 : Int32))] below meth c s₁ [] 0 0 := Stand.of_body Bd
  have e0 : s₁.heap = h0 := by rw [← hh, Bd.state]; rfl
  have N0 := Fr.nil n0
  have pre0 : ∀ t, Steps p.tables e below (s₁.setTop (mkF m 0 #[.val (.int (2 : Int32))] [])) t → Steps p.tables e below (s₁.setTop (entryFrame m #[(.int (2 : Int32))] 1)) t := fun t k => castTop (ef_lowest2 m ) k
  obtain ⟨fs, hr, hrun, hended, hW, hsame⟩ := X0.leave (v := some (.int (3 : Int32))) (fun h => by rw [Bd.returns] at h; cases h)
  refine ⟨_, _, pre0 _ ?_, hrun, hended, _, _, rfl, ?_, ⟨_, rfl⟩, hW, hsame.mono (by decide) (by decide)⟩
  · show oS p e below s₁ m 0 #[.val (.int (2 : Int32))] [] _
    refine XS.iloadN X0.here hx rfl (hb hby d3_0) rfl ?_
    show oS p e below s₁ m 1 #[.val (.int (2 : Int32))] [(.int (2 : Int32))] _
    refine XS.ifYes X0.here hx rfl (pc0 := 1) (pc' := 6) rfl (hb hby d3_1) rfl ((if0 _ _).trans (feq (by decide : ¬ ((2 : Int32) = (0 : Int32)))).2) (by decide) (by decide) ?_
    show oS p e below s₁ m 6 #[.val (.int (2 : Int32))] [] _
    refine XS.iloadN X0.here hx rfl (hb hby d3_6) rfl ?_
    show oS p e below s₁ m 7 #[.val (.int (2 : Int32))] [(.int (2 : Int32))] _
    refine XS.iconst X0.here hx rfl (hb hby d3_7) ?_
    show oS p e below s₁ m 8 #[.val (.int (2 : Int32))] [(.int (1 : Int32)), (.int (2 : Int32))] _
    refine XS.icmpYes X0.here hx rfl (pc0 := 8) (pc' := 13) rfl (hb hby d3_8) rfl (feq (by decide : ¬ ((2 : Int32) = (1 : Int32)))).2 (by decide) (by decide) ?_
    show oS p e below s₁ m 13 #[.val (.int (2 : Int32))] [] _
    refine XS.iconst X0.here hx rfl (hb hby d3_13) ?_
    show oS p e below s₁ m 14 #[.val (.int (2 : Int32))] [(.int (3 : Int32))] _
    exact retI X0 hx Bd.returns (hb hby d3_14) hr
  · show Qlowest2 Z  h0 n0 _ s₁.heap _
    rw [e0]
    exact ⟨rfl, N0, rfl⟩
theorem ef_lowest3 (m : MethodId)  : entryFrame m #[(.int (3 : Int32))] 1 = mkF m 0 #[.val (.int (3 : Int32))] [] := by first | (simp [entryFrame, mkF, argsToLocals, Value.category]; done) | rfl
def Qlowest3 (Z : State)  (h0 : Heap) (n0 : Nat) (v : Option Value) (h : Heap) (L : List Loc) : Prop := v = some (.int (3 : Int32)) ∧ Fr n0 L ∧ h = h0
set_option maxRecDepth 65536 in
set_option maxHeartbeats 40000000 in
theorem lowest3 (l : Launch) (Z : State) (a0 : Array Value) (hw : ∀ d ∈ tables_1, d.before a0 Z = true) (ws : List Jvm.Cond)  (h0 : Heap) (n0 : Nat) (Z0 : n0 ≤ h0.size) :
    MetFree l yN2 (head1 (Jvm.Cond.code yN2 method_5_code 1 (some .int) :: ws) ({ frames := 0, cells := 0, slots := 0, locals := 0 } : Room)) (fun a U => a = #[(.int (3 : Int32))] ∧ Z.Warmed39 U.vm ∧ U.heap = h0) (fun _ _ _ _ _ => True) (fun _ U o U' => ∃ v L, o = .returned v ∧ Qlowest3 Z  h0 n0 v U'.heap L ∧ FrameEnd U o U' L ({ frames := 0, cells := 0, slots := 0, locals := 0 } : Room).cells ({ frames := 0, cells := 0, slots := 0, locals := 0 } : Room).slots) := by
  refine MetFree.of_bodySF (plainFor_of_name pn_0) hisR ?_
  intro p e s m args below meth c s₁ Bd hml0 hP hK
  obtain ⟨rfl, hZ, hh⟩ := hP
  have hx := Bd.exec
  have hby := Bd.bytes
  have hml : c.maxLocals = 1 := hml0
  have hown : s.vm.findClass "com/example/willenhall/willenhall/external/DocumentViewIsReachedByPinLaw" = some m.cls := findClass_of_methodNamed Bd.named
  have hnm := (name_of_methodNamed Bd.named Bd.method).1
  have X0 : Stand p l e ({ frames := 0, cells := 0, slots := 0, locals := 0 } : Room) s m #[(.int (3 : Int32))] below meth c s₁ [] 0 0 := Stand.of_body Bd
  have e0 : s₁.heap = h0 := by rw [← hh, Bd.state]; rfl
  have N0 := Fr.nil n0
  have pre0 : ∀ t, Steps p.tables e below (s₁.setTop (mkF m 0 #[.val (.int (3 : Int32))] [])) t → Steps p.tables e below (s₁.setTop (entryFrame m #[(.int (3 : Int32))] 1)) t := fun t k => castTop (ef_lowest3 m ) k
  obtain ⟨fs, hr, hrun, hended, hW, hsame⟩ := X0.leave (v := some (.int (3 : Int32))) (fun h => by rw [Bd.returns] at h; cases h)
  refine ⟨_, _, pre0 _ ?_, hrun, hended, _, _, rfl, ?_, ⟨_, rfl⟩, hW, hsame.mono (by decide) (by decide)⟩
  · show oS p e below s₁ m 0 #[.val (.int (3 : Int32))] [] _
    refine XS.iloadN X0.here hx rfl (hb hby d3_0) rfl ?_
    show oS p e below s₁ m 1 #[.val (.int (3 : Int32))] [(.int (3 : Int32))] _
    refine XS.ifYes X0.here hx rfl (pc0 := 1) (pc' := 6) rfl (hb hby d3_1) rfl ((if0 _ _).trans (feq (by decide : ¬ ((3 : Int32) = (0 : Int32)))).2) (by decide) (by decide) ?_
    show oS p e below s₁ m 6 #[.val (.int (3 : Int32))] [] _
    refine XS.iloadN X0.here hx rfl (hb hby d3_6) rfl ?_
    show oS p e below s₁ m 7 #[.val (.int (3 : Int32))] [(.int (3 : Int32))] _
    refine XS.iconst X0.here hx rfl (hb hby d3_7) ?_
    show oS p e below s₁ m 8 #[.val (.int (3 : Int32))] [(.int (1 : Int32)), (.int (3 : Int32))] _
    refine XS.icmpYes X0.here hx rfl (pc0 := 8) (pc' := 13) rfl (hb hby d3_8) rfl (feq (by decide : ¬ ((3 : Int32) = (1 : Int32)))).2 (by decide) (by decide) ?_
    show oS p e below s₁ m 13 #[.val (.int (3 : Int32))] [] _
    refine XS.iconst X0.here hx rfl (hb hby d3_13) ?_
    show oS p e below s₁ m 14 #[.val (.int (3 : Int32))] [(.int (3 : Int32))] _
    exact retI X0 hx Bd.returns (hb hby d3_14) hr
  · show Qlowest3 Z  h0 n0 _ s₁.heap _
    rw [e0]
    exact ⟨rfl, N0, rfl⟩
theorem d6_0 : decode jdk_37_method_2_code 0 = .ok (.aload_n 0, 1) := by decide +kernel
theorem d6_1 : decode jdk_37_method_2_code 1 = .ok (.getfield 7, 3) := by decide +kernel
theorem d6_4 : decode jdk_37_method_2_code 4 = .ok (.ireturn, 1) := by decide +kernel
theorem pn_1 : plainName "java/lang/Enum" = true := by first | (simp [plainName, overriddenIn]; done) | decide +kernel
theorem ef_ordinal (m : MethodId) (pR1 : Addr) : entryFrame m #[(.ref pR1)] 1 = mkF m 0 #[.val (.ref pR1)] [] := by first | (simp [entryFrame, mkF, argsToLocals, Value.category]; done) | rfl
def Qordinal (Z : State) (pR1 : Addr) (pI2 : Int32) (h0 : Heap) (n0 : Nat) (v : Option Value) (h : Heap) (L : List Loc) : Prop := v = some (.int pI2) ∧ Fr n0 L ∧ h = h0
set_option maxRecDepth 65536 in
set_option maxHeartbeats 40000000 in
theorem ordinal (l : Launch) (Z : State) (a0 : Array Value) (hw : ∀ d ∈ tables_1, d.before a0 Z = true) (ws : List Jvm.Cond) (pR1 : Addr) (pI2 : Int32) (h0 : Heap) (n0 : Nat) (Z0 : n0 ≤ h0.size) (F_ordinal_pR1 : Fld Z h0 pR1 "java/lang/Enum" "ordinal" "I" (.int pI2)) :
    MetFree l yN3 (head1 (Jvm.Cond.code yN3 jdk_37_method_2_code 1 (some .int) :: ws) ({ frames := 0, cells := 0, slots := 0, locals := 0 } : Room)) (fun a U => a = #[(.ref pR1)] ∧ Z.Warmed39 U.vm ∧ U.heap = h0) (fun _ _ _ _ _ => True) (fun _ U o U' => ∃ v L, o = .returned v ∧ Qordinal Z pR1 pI2 h0 n0 v U'.heap L ∧ FrameEnd U o U' L ({ frames := 0, cells := 0, slots := 0, locals := 0 } : Room).cells ({ frames := 0, cells := 0, slots := 0, locals := 0 } : Room).slots) := by
  refine MetFree.of_bodySF (plainFor_of_name pn_1) hisR ?_
  intro p e s m args below meth c s₁ Bd hml0 hP hK
  obtain ⟨rfl, hZ, hh⟩ := hP
  have hx := Bd.exec
  have hby := Bd.bytes
  have hml : c.maxLocals = 1 := hml0
  have hown : s.vm.findClass "java/lang/Enum" = some m.cls := findClass_of_methodNamed Bd.named
  have hnm := (name_of_methodNamed Bd.named Bd.method).1
  have X0 : Stand p l e ({ frames := 0, cells := 0, slots := 0, locals := 0 } : Room) s m #[(.ref pR1)] below meth c s₁ [] 0 0 := Stand.of_body Bd
  have e0 : s₁.heap = h0 := by rw [← hh, Bd.state]; rfl
  have N0 := Fr.nil n0
  have pre0 : ∀ t, Steps p.tables e below (s₁.setTop (mkF m 0 #[.val (.ref pR1)] [])) t → Steps p.tables e below (s₁.setTop (entryFrame m #[(.ref pR1)] 1)) t := fun t k => castTop (ef_ordinal m pR1) k
  obtain ⟨T3, X3, e3, st3⟩ := getF X0 hx hZ hown (host := "") (Or.inl (ow hw 34 rfl)) Via.refl e0 F_ordinal_pR1 (g := (mkF m 1 #[.val (.ref pR1)] [(.ref pR1)])) rfl rfl (hb hby d6_1)
  obtain ⟨fs, hr, hrun, hended, hW, hsame⟩ := X3.leave (v := some (.int pI2)) (fun h => by rw [Bd.returns] at h; cases h)
  refine ⟨_, _, pre0 _ ?_, hrun, hended, _, _, rfl, ?_, ⟨_, rfl⟩, hW, hsame.mono (by decide) (by decide)⟩
  · show oS p e below s₁ m 0 #[.val (.ref pR1)] [] _
    refine XS.aloadN X0.here hx rfl (hb hby d6_0) rfl rfl ?_
    show oS p e below s₁ m 1 #[.val (.ref pR1)] [(.ref pR1)] _
    refine st3 _ ?_
    show oS p e below T3 m 4 #[.val (.ref pR1)] [(.int pI2)] _
    exact retI X3 hx Bd.returns (hb hby d6_4) hr
  · show Qordinal Z pR1 pI2 h0 n0 _ T3.heap _
    rw [e3]
    exact ⟨rfl, N0, rfl⟩
theorem d5_0 : decode prog_13_method_8_code 0 = .ok (.aload_n 0, 1) := by decide +kernel
theorem d5_1 : decode prog_13_method_8_code 1 = .ok (.invokevirtual 94, 3) := by decide +kernel
theorem pd_0 : parseMethodDescriptor "()I" = some ⟨[], some .int⟩ := by decide +kernel
theorem d5_4 : decode prog_13_method_8_code 4 = .ok (.ireturn, 1) := by decide +kernel
theorem pn_2 : plainName "com/example/willenhall/willenhall/external/ExternalRole" = true := by first | (simp [plainName, overriddenIn]; done) | decide +kernel
theorem ef_rank (m : MethodId) (pR1 : Addr) : entryFrame m #[(.ref pR1)] 1 = mkF m 0 #[.val (.ref pR1)] [] := by first | (simp [entryFrame, mkF, argsToLocals, Value.category]; done) | rfl
def Qrank (Z : State) (pR1 : Addr) (pI2 : Int32) (h0 : Heap) (n0 : Nat) (v : Option Value) (h : Heap) (L : List Loc) : Prop := v = some (.int pI2) ∧ Fr n0 L ∧ h = h0
set_option maxRecDepth 65536 in
set_option maxHeartbeats 40000000 in
theorem rank (l : Launch) (Z : State) (a0 : Array Value) (hw : ∀ d ∈ tables_1, d.before a0 Z = true) (ws : List Jvm.Cond) (pR1 : Addr) (pI2 : Int32) (h0 : Heap) (n0 : Nat) (Z0 : n0 ≤ h0.size) (F_ordinal_pR1 : Fld Z h0 pR1 "java/lang/Enum" "ordinal" "I" (.int pI2)) (E_pR1 : Exa Z h0 pR1 "com/example/willenhall/willenhall/external/ExternalRole") :
    MetFree l yN5 (head1 (Jvm.Cond.code yN5 prog_13_method_8_code 1 (some .int) :: ws) ({ frames := 1, cells := 0, slots := 0, locals := 12 } : Room)) (fun a U => a = #[(.ref pR1)] ∧ Z.Warmed39 U.vm ∧ U.heap = h0) (fun _ _ _ _ _ => True) (fun _ U o U' => ∃ v L, o = .returned v ∧ Qrank Z pR1 pI2 h0 n0 v U'.heap L ∧ FrameEnd U o U' L ({ frames := 1, cells := 0, slots := 0, locals := 12 } : Room).cells ({ frames := 1, cells := 0, slots := 0, locals := 12 } : Room).slots) := by
  refine MetFree.of_bodySF (plainFor_of_name pn_2) hisR ?_
  intro p e s m args below meth c s₁ Bd hml0 hP hK
  obtain ⟨rfl, hZ, hh⟩ := hP
  have hx := Bd.exec
  have hby := Bd.bytes
  have hml : c.maxLocals = 1 := hml0
  have hown : s.vm.findClass "com/example/willenhall/willenhall/external/ExternalRole" = some m.cls := findClass_of_methodNamed Bd.named
  have hnm := (name_of_methodNamed Bd.named Bd.method).1
  have X0 : Stand p l e ({ frames := 1, cells := 0, slots := 0, locals := 12 } : Room) s m #[(.ref pR1)] below meth c s₁ [] 0 0 := Stand.of_body Bd
  have e0 : s₁.heap = h0 := by rw [← hh, Bd.state]; rfl
  have N0 := Fr.nil n0
  have pre0 : ∀ t, Steps p.tables e below (s₁.setTop (mkF m 0 #[.val (.ref pR1)] [])) t → Steps p.tables e below (s₁.setTop (entryFrame m #[(.ref pR1)] 1)) t := fun t k => castTop (ef_rank m pR1) k
  obtain ⟨cq3, kq3, q3a, q3b, q3c⟩ := isOf hZ e0 E_pR1
  obtain ⟨_, _, ⟨T3, L3, k3, n3⟩, -, X3, ⟨Lc3, hQ3, l3, y3, z3⟩, st3⟩ := X0.virtualBackUp hx (owner := "java/lang/Enum") (x := yN4) (y := yN3) hown (mvT hZ (ow hw 27 rfl)) (mvT hZ (ow hw 28 rfl)) (mvT hZ (ow hw 29 rfl)) (by decide) (mvT hZ (ow hw 31 rfl)) (mvT hZ (ow hw 30 rfl)) (backOf (W := 0) (ordinal l Z a0 hw [] pR1 pI2 h0 n0 Z0 F_ordinal_pR1) hZ (ow hw 33 rfl) (ow hw 32 rfl) (by decide) (by decide)) q3a q3c (g := (mkF m 1 #[.val (.ref pR1)] [(.ref pR1)])) rfl (by rw [hml]; rfl) (Steps.refl _) (argsL := []) (rest := []) (lenOf pd_0 rfl) rfl (by show 2 * 0 + _ ≤ _; exact Nat.le_of_eq rfl) (hb hby d5_1) (fun _ _ => ⟨rfl, e0, (by decide : 0 + 0 ≤ _), (by decide : 0 + 0 ≤ _)⟩)
  dsimp only [Pt.U, Pt.locs, Pt.cells, Pt.slots] at X3 l3 y3 z3 st3 hQ3
  subst l3 y3 z3
  obtain ⟨rfl, Nq3, e3⟩ := hQ3
  have N3 := Fr.app N0 Nq3
  obtain ⟨fs, hr, hrun, hended, hW, hsame⟩ := X3.leave (v := some (.int pI2)) (fun h => by rw [Bd.returns] at h; cases h)
  refine ⟨_, _, pre0 _ ?_, hrun, hended, _, _, rfl, ?_, ⟨_, rfl⟩, hW, hsame.mono (by decide) (by decide)⟩
  · show oS p e below s₁ m 0 #[.val (.ref pR1)] [] _
    refine XS.aloadN X0.here hx rfl (hb hby d5_0) rfl rfl ?_
    show oS p e below s₁ m 1 #[.val (.ref pR1)] [(.ref pR1)] _
    refine st3.trans ?_
    show oS p e below T3 m 4 #[.val (.ref pR1)] [(.int pI2)] _
    exact retI X3 hx Bd.returns (hb hby d5_4) hr
  · show Qrank Z pR1 pI2 h0 n0 _ T3.heap _
    rw [e3]
    exact ⟨rfl, N3, rfl⟩
theorem d4_0 : decode prog_11_method_6_code 0 = .ok (.aload_n 1, 1) := by decide +kernel
theorem d4_1 : decode prog_11_method_6_code 1 = .ok (.invokevirtual 59, 3) := by decide +kernel
theorem d4_4 : decode prog_11_method_6_code 4 = .ok (.aload_n 0, 1) := by decide +kernel
theorem d4_5 : decode prog_11_method_6_code 5 = .ok (.getfield 39, 3) := by decide +kernel
theorem d4_8 : decode prog_11_method_6_code 8 = .ok (.invokevirtual 59, 3) := by decide +kernel
theorem d4_11 : decode prog_11_method_6_code 11 = .ok (.if_icmp .lt 7, 3) := by decide +kernel
theorem d4_18 : decode prog_11_method_6_code 18 = .ok (.iconst 0, 1) := by decide +kernel
theorem d4_19 : decode prog_11_method_6_code 19 = .ok (.ireturn, 1) := by decide +kernel
theorem pn_3 : plainName "com/example/willenhall/willenhall/external/DocumentView" = true := by first | (simp [plainName, overriddenIn]; done) | decide +kernel
theorem ef_irbN (m : MethodId) (pR1 : Addr) (pR2 : Addr) : entryFrame m #[(.ref pR1), (.ref pR2)] 2 = mkF m 0 #[.val (.ref pR1), .val (.ref pR2)] [] := by first | (simp [entryFrame, mkF, argsToLocals, Value.category]; done) | rfl
def QirbN (Z : State) (pR1 : Addr) (pR2 : Addr) (pI3 : Int32) (pR5 : Addr) (pI7 : Int32) (h0 : Heap) (n0 : Nat) (v : Option Value) (h : Heap) (L : List Loc) : Prop := v = some (.int (0 : Int32)) ∧ Fr n0 L ∧ h = h0
set_option maxRecDepth 65536 in
set_option maxHeartbeats 40000000 in
theorem irbN (l : Launch) (Z : State) (a0 : Array Value) (hw : ∀ d ∈ tables_1, d.before a0 Z = true) (ws : List Jvm.Cond) (pR1 : Addr) (pR2 : Addr) (pI3 : Int32) (pR5 : Addr) (pI7 : Int32) (h0 : Heap) (n0 : Nat) (Z0 : n0 ≤ h0.size) (F_ordinal_pR2 : Fld Z h0 pR2 "java/lang/Enum" "ordinal" "I" (.int pI3)) (E_pR2 : Exa Z h0 pR2 "com/example/willenhall/willenhall/external/ExternalRole") (F_lowestRole_pR1 : Fld Z h0 pR1 "com/example/willenhall/willenhall/external/DocumentView" "lowestRole" "Lcom/example/willenhall/willenhall/external/ExternalRole;" (.ref pR5)) (F_ordinal_pR5 : Fld Z h0 pR5 "java/lang/Enum" "ordinal" "I" (.int pI7)) (E_pR5 : Exa Z h0 pR5 "com/example/willenhall/willenhall/external/ExternalRole") (hc11 : pI3 < pI7) :
    MetFree l yN6 (head1 (Jvm.Cond.code yN6 prog_11_method_6_code 2 (some .boolean) :: ws) ({ frames := 2, cells := 0, slots := 0, locals := 25 } : Room)) (fun a U => a = #[(.ref pR1), (.ref pR2)] ∧ Z.Warmed39 U.vm ∧ U.heap = h0) (fun _ _ _ _ _ => True) (fun _ U o U' => ∃ v L, o = .returned v ∧ QirbN Z pR1 pR2 pI3 pR5 pI7 h0 n0 v U'.heap L ∧ FrameEnd U o U' L ({ frames := 2, cells := 0, slots := 0, locals := 25 } : Room).cells ({ frames := 2, cells := 0, slots := 0, locals := 25 } : Room).slots) := by
  refine MetFree.of_bodySF (plainFor_of_name pn_3) hisR ?_
  intro p e s m args below meth c s₁ Bd hml0 hP hK
  obtain ⟨rfl, hZ, hh⟩ := hP
  have hx := Bd.exec
  have hby := Bd.bytes
  have hml : c.maxLocals = 2 := hml0
  have hown : s.vm.findClass "com/example/willenhall/willenhall/external/DocumentView" = some m.cls := findClass_of_methodNamed Bd.named
  have hnm := (name_of_methodNamed Bd.named Bd.method).1
  have X0 : Stand p l e ({ frames := 2, cells := 0, slots := 0, locals := 25 } : Room) s m #[(.ref pR1), (.ref pR2)] below meth c s₁ [] 0 0 := Stand.of_body Bd
  have e0 : s₁.heap = h0 := by rw [← hh, Bd.state]; rfl
  have N0 := Fr.nil n0
  have pre0 : ∀ t, Steps p.tables e below (s₁.setTop (mkF m 0 #[.val (.ref pR1), .val (.ref pR2)] [])) t → Steps p.tables e below (s₁.setTop (entryFrame m #[(.ref pR1), (.ref pR2)] 2)) t := fun t k => castTop (ef_irbN m pR1 pR2) k
  obtain ⟨cq4, kq4, q4a, q4b, q4c⟩ := isOf hZ e0 E_pR2
  obtain ⟨_, _, ⟨T4, L4, k4, n4⟩, -, X4, ⟨Lc4, hQ4, l4, y4, z4⟩, st4⟩ := X0.virtualBack hx (y := yN5) (z := yN5) hown (mvT hZ (ow hw 22 rfl)) (mvT hZ (ow hw 23 rfl)) (notFace_of_selects (args := #[]) (mvT hZ (ow hw 25 rfl))) (mvT hZ (ow hw 25 rfl)) (mvT hZ (ow hw 24 rfl)) (by decide) (backOf (W := 0) (rank l Z a0 hw [] pR2 pI3 h0 n0 Z0 F_ordinal_pR2 E_pR2) hZ (ow hw 26 rfl) (ow hw 12 rfl) (by decide) (by decide)) q4a q4c (g := (mkF m 1 #[.val (.ref pR1), .val (.ref pR2)] [(.ref pR2)])) rfl (by rw [hml]; rfl) (Steps.refl _) (argsL := []) (rest := []) (lenOf pd_0 rfl) rfl (by show 2 * 0 + _ ≤ _; exact Nat.le_of_eq rfl) (hb hby d4_1) (fun _ _ => ⟨rfl, e0, (by decide : 0 + 0 ≤ _), (by decide : 0 + 0 ≤ _)⟩)
  dsimp only [Pt.U, Pt.locs, Pt.cells, Pt.slots] at X4 l4 y4 z4 st4 hQ4
  subst l4 y4 z4
  obtain ⟨rfl, Nq4, e4⟩ := hQ4
  have N4 := Fr.app N0 Nq4
  obtain ⟨T6, X6, e6, st6⟩ := getF X4 hx hZ hown (host := "") (Or.inl (ow hw 36 rfl)) Via.refl e4 F_lowestRole_pR1 (g := (mkF m 5 #[.val (.ref pR1), .val (.ref pR2)] [(.ref pR1), (.int pI3)])) rfl rfl (hb hby d4_5)
  obtain ⟨cq8, kq8, q8a, q8b, q8c⟩ := isOf hZ e6 E_pR5
  obtain ⟨_, _, ⟨T8, L8, k8, n8⟩, -, X8, ⟨Lc8, hQ8, l8, y8, z8⟩, st8⟩ := X6.virtualBack hx (y := yN5) (z := yN5) hown (mvT hZ (ow hw 22 rfl)) (mvT hZ (ow hw 23 rfl)) (notFace_of_selects (args := #[]) (mvT hZ (ow hw 25 rfl))) (mvT hZ (ow hw 25 rfl)) (mvT hZ (ow hw 24 rfl)) (by decide) (backOf (W := 1) (rank l Z a0 hw [] pR5 pI7 h0 n0 Z0 F_ordinal_pR5 E_pR5) hZ (ow hw 26 rfl) (ow hw 12 rfl) (by decide) (by decide)) q8a q8c (g := (mkF m 8 #[.val (.ref pR1), .val (.ref pR2)] [(.ref pR5), (.int pI3)])) rfl (by rw [hml]; rfl) (Steps.refl _) (argsL := []) (rest := [(.int pI3)]) (lenOf pd_0 rfl) rfl (by show 2 * 0 + _ ≤ _; exact Nat.le_of_eq rfl) (hb hby d4_8) (fun _ _ => ⟨rfl, e6, (by decide : 0 + 0 ≤ _), (by decide : 0 + 0 ≤ _)⟩)
  dsimp only [Pt.U, Pt.locs, Pt.cells, Pt.slots] at X8 l8 y8 z8 st8 hQ8
  subst l8 y8 z8
  obtain ⟨rfl, Nq8, e8⟩ := hQ8
  have N8 := Fr.app N4 Nq8
  obtain ⟨fs, hr, hrun, hended, hW, hsame⟩ := X8.leave (v := some (.int (0 : Int32))) (fun h => by rw [Bd.returns] at h; cases h)
  refine ⟨_, _, pre0 _ ?_, hrun, hended, _, _, rfl, ?_, ⟨_, rfl⟩, hW, hsame.mono (by decide) (by decide)⟩
  · show oS p e below s₁ m 0 #[.val (.ref pR1), .val (.ref pR2)] [] _
    refine XS.aloadN X0.here hx rfl (hb hby d4_0) rfl rfl ?_
    show oS p e below s₁ m 1 #[.val (.ref pR1), .val (.ref pR2)] [(.ref pR2)] _
    refine st4.trans ?_
    show oS p e below T4 m 4 #[.val (.ref pR1), .val (.ref pR2)] [(.int pI3)] _
    refine XS.aloadN X4.here hx rfl (hb hby d4_4) rfl rfl ?_
    show oS p e below T4 m 5 #[.val (.ref pR1), .val (.ref pR2)] [(.ref pR1), (.int pI3)] _
    refine st6 _ ?_
    show oS p e below T6 m 8 #[.val (.ref pR1), .val (.ref pR2)] [(.ref pR5), (.int pI3)] _
    refine st8.trans ?_
    show oS p e below T8 m 11 #[.val (.ref pR1), .val (.ref pR2)] [(.int pI7), (.int pI3)] _
    refine XS.icmpYes X8.here hx rfl (pc0 := 11) (pc' := 18) rfl (hb hby d4_11) rfl (tlt hc11).1 (by decide) (by decide) ?_
    show oS p e below T8 m 18 #[.val (.ref pR1), .val (.ref pR2)] [] _
    refine XS.iconst X8.here hx rfl (hb hby d4_18) ?_
    show oS p e below T8 m 19 #[.val (.ref pR1), .val (.ref pR2)] [(.int (0 : Int32))] _
    exact retN X8 hx (t := .boolean) Bd.returns (by simp) (hb hby d4_19) hr
  · show QirbN Z pR1 pR2 pI3 pR5 pI7 h0 n0 _ T8.heap _
    rw [e8]
    exact ⟨rfl, N8, rfl⟩
theorem d4_14 : decode prog_11_method_6_code 14 = .ok (.iconst 1, 1) := by decide +kernel
theorem d4_15 : decode prog_11_method_6_code 15 = .ok (.goto 4, 3) := by decide +kernel
theorem ef_irbY (m : MethodId) (pR1 : Addr) (pR2 : Addr) : entryFrame m #[(.ref pR1), (.ref pR2)] 2 = mkF m 0 #[.val (.ref pR1), .val (.ref pR2)] [] := by first | (simp [entryFrame, mkF, argsToLocals, Value.category]; done) | rfl
def QirbY (Z : State) (pR1 : Addr) (pR2 : Addr) (pI3 : Int32) (pR5 : Addr) (pI7 : Int32) (h0 : Heap) (n0 : Nat) (v : Option Value) (h : Heap) (L : List Loc) : Prop := v = some (.int (1 : Int32)) ∧ Fr n0 L ∧ h = h0
set_option maxRecDepth 65536 in
set_option maxHeartbeats 40000000 in
theorem irbY (l : Launch) (Z : State) (a0 : Array Value) (hw : ∀ d ∈ tables_1, d.before a0 Z = true) (ws : List Jvm.Cond) (pR1 : Addr) (pR2 : Addr) (pI3 : Int32) (pR5 : Addr) (pI7 : Int32) (h0 : Heap) (n0 : Nat) (Z0 : n0 ≤ h0.size) (F_ordinal_pR2 : Fld Z h0 pR2 "java/lang/Enum" "ordinal" "I" (.int pI3)) (E_pR2 : Exa Z h0 pR2 "com/example/willenhall/willenhall/external/ExternalRole") (F_lowestRole_pR1 : Fld Z h0 pR1 "com/example/willenhall/willenhall/external/DocumentView" "lowestRole" "Lcom/example/willenhall/willenhall/external/ExternalRole;" (.ref pR5)) (F_ordinal_pR5 : Fld Z h0 pR5 "java/lang/Enum" "ordinal" "I" (.int pI7)) (E_pR5 : Exa Z h0 pR5 "com/example/willenhall/willenhall/external/ExternalRole") (hc11 : ¬ (pI3 < pI7)) :
    MetFree l yN6 (head1 (Jvm.Cond.code yN6 prog_11_method_6_code 2 (some .boolean) :: ws) ({ frames := 2, cells := 0, slots := 0, locals := 25 } : Room)) (fun a U => a = #[(.ref pR1), (.ref pR2)] ∧ Z.Warmed39 U.vm ∧ U.heap = h0) (fun _ _ _ _ _ => True) (fun _ U o U' => ∃ v L, o = .returned v ∧ QirbY Z pR1 pR2 pI3 pR5 pI7 h0 n0 v U'.heap L ∧ FrameEnd U o U' L ({ frames := 2, cells := 0, slots := 0, locals := 25 } : Room).cells ({ frames := 2, cells := 0, slots := 0, locals := 25 } : Room).slots) := by
  refine MetFree.of_bodySF (plainFor_of_name pn_3) hisR ?_
  intro p e s m args below meth c s₁ Bd hml0 hP hK
  obtain ⟨rfl, hZ, hh⟩ := hP
  have hx := Bd.exec
  have hby := Bd.bytes
  have hml : c.maxLocals = 2 := hml0
  have hown : s.vm.findClass "com/example/willenhall/willenhall/external/DocumentView" = some m.cls := findClass_of_methodNamed Bd.named
  have hnm := (name_of_methodNamed Bd.named Bd.method).1
  have X0 : Stand p l e ({ frames := 2, cells := 0, slots := 0, locals := 25 } : Room) s m #[(.ref pR1), (.ref pR2)] below meth c s₁ [] 0 0 := Stand.of_body Bd
  have e0 : s₁.heap = h0 := by rw [← hh, Bd.state]; rfl
  have N0 := Fr.nil n0
  have pre0 : ∀ t, Steps p.tables e below (s₁.setTop (mkF m 0 #[.val (.ref pR1), .val (.ref pR2)] [])) t → Steps p.tables e below (s₁.setTop (entryFrame m #[(.ref pR1), (.ref pR2)] 2)) t := fun t k => castTop (ef_irbY m pR1 pR2) k
  obtain ⟨cq4, kq4, q4a, q4b, q4c⟩ := isOf hZ e0 E_pR2
  obtain ⟨_, _, ⟨T4, L4, k4, n4⟩, -, X4, ⟨Lc4, hQ4, l4, y4, z4⟩, st4⟩ := X0.virtualBack hx (y := yN5) (z := yN5) hown (mvT hZ (ow hw 22 rfl)) (mvT hZ (ow hw 23 rfl)) (notFace_of_selects (args := #[]) (mvT hZ (ow hw 25 rfl))) (mvT hZ (ow hw 25 rfl)) (mvT hZ (ow hw 24 rfl)) (by decide) (backOf (W := 0) (rank l Z a0 hw [] pR2 pI3 h0 n0 Z0 F_ordinal_pR2 E_pR2) hZ (ow hw 26 rfl) (ow hw 12 rfl) (by decide) (by decide)) q4a q4c (g := (mkF m 1 #[.val (.ref pR1), .val (.ref pR2)] [(.ref pR2)])) rfl (by rw [hml]; rfl) (Steps.refl _) (argsL := []) (rest := []) (lenOf pd_0 rfl) rfl (by show 2 * 0 + _ ≤ _; exact Nat.le_of_eq rfl) (hb hby d4_1) (fun _ _ => ⟨rfl, e0, (by decide : 0 + 0 ≤ _), (by decide : 0 + 0 ≤ _)⟩)
  dsimp only [Pt.U, Pt.locs, Pt.cells, Pt.slots] at X4 l4 y4 z4 st4 hQ4
  subst l4 y4 z4
  obtain ⟨rfl, Nq4, e4⟩ := hQ4
  have N4 := Fr.app N0 Nq4
  obtain ⟨T6, X6, e6, st6⟩ := getF X4 hx hZ hown (host := "") (Or.inl (ow hw 36 rfl)) Via.refl e4 F_lowestRole_pR1 (g := (mkF m 5 #[.val (.ref pR1), .val (.ref pR2)] [(.ref pR1), (.int pI3)])) rfl rfl (hb hby d4_5)
  obtain ⟨cq8, kq8, q8a, q8b, q8c⟩ := isOf hZ e6 E_pR5
  obtain ⟨_, _, ⟨T8, L8, k8, n8⟩, -, X8, ⟨Lc8, hQ8, l8, y8, z8⟩, st8⟩ := X6.virtualBack hx (y := yN5) (z := yN5) hown (mvT hZ (ow hw 22 rfl)) (mvT hZ (ow hw 23 rfl)) (notFace_of_selects (args := #[]) (mvT hZ (ow hw 25 rfl))) (mvT hZ (ow hw 25 rfl)) (mvT hZ (ow hw 24 rfl)) (by decide) (backOf (W := 1) (rank l Z a0 hw [] pR5 pI7 h0 n0 Z0 F_ordinal_pR5 E_pR5) hZ (ow hw 26 rfl) (ow hw 12 rfl) (by decide) (by decide)) q8a q8c (g := (mkF m 8 #[.val (.ref pR1), .val (.ref pR2)] [(.ref pR5), (.int pI3)])) rfl (by rw [hml]; rfl) (Steps.refl _) (argsL := []) (rest := [(.int pI3)]) (lenOf pd_0 rfl) rfl (by show 2 * 0 + _ ≤ _; exact Nat.le_of_eq rfl) (hb hby d4_8) (fun _ _ => ⟨rfl, e6, (by decide : 0 + 0 ≤ _), (by decide : 0 + 0 ≤ _)⟩)
  dsimp only [Pt.U, Pt.locs, Pt.cells, Pt.slots] at X8 l8 y8 z8 st8 hQ8
  subst l8 y8 z8
  obtain ⟨rfl, Nq8, e8⟩ := hQ8
  have N8 := Fr.app N4 Nq8
  obtain ⟨fs, hr, hrun, hended, hW, hsame⟩ := X8.leave (v := some (.int (1 : Int32))) (fun h => by rw [Bd.returns] at h; cases h)
  refine ⟨_, _, pre0 _ ?_, hrun, hended, _, _, rfl, ?_, ⟨_, rfl⟩, hW, hsame.mono (by decide) (by decide)⟩
  · show oS p e below s₁ m 0 #[.val (.ref pR1), .val (.ref pR2)] [] _
    refine XS.aloadN X0.here hx rfl (hb hby d4_0) rfl rfl ?_
    show oS p e below s₁ m 1 #[.val (.ref pR1), .val (.ref pR2)] [(.ref pR2)] _
    refine st4.trans ?_
    show oS p e below T4 m 4 #[.val (.ref pR1), .val (.ref pR2)] [(.int pI3)] _
    refine XS.aloadN X4.here hx rfl (hb hby d4_4) rfl rfl ?_
    show oS p e below T4 m 5 #[.val (.ref pR1), .val (.ref pR2)] [(.ref pR1), (.int pI3)] _
    refine st6 _ ?_
    show oS p e below T6 m 8 #[.val (.ref pR1), .val (.ref pR2)] [(.ref pR5), (.int pI3)] _
    refine st8.trans ?_
    show oS p e below T8 m 11 #[.val (.ref pR1), .val (.ref pR2)] [(.int pI7), (.int pI3)] _
    refine XS.icmpNo X8.here hx rfl (hb hby d4_11) rfl (flt hc11).1 ?_
    show oS p e below T8 m 14 #[.val (.ref pR1), .val (.ref pR2)] [] _
    refine XS.iconst X8.here hx rfl (hb hby d4_14) ?_
    show oS p e below T8 m 15 #[.val (.ref pR1), .val (.ref pR2)] [(.int (1 : Int32))] _
    refine XS.goto X8.here hx rfl (pc0 := 15) (pc' := 19) rfl (hb hby d4_15) (by decide) (by decide) ?_
    show oS p e below T8 m 19 #[.val (.ref pR1), .val (.ref pR2)] [(.int (1 : Int32))] _
    exact retN X8 hx (t := .boolean) Bd.returns (by simp) (hb hby d4_19) hr
  · show QirbY Z pR1 pR2 pI3 pR5 pI7 h0 n0 _ T8.heap _
    rw [e8]
    exact ⟨rfl, N8, rfl⟩
theorem pd_1 : parseMethodDescriptor "(I)Lcom/example/willenhall/willenhall/external/DocumentView;" = some ⟨[.int], some (.object "com/example/willenhall/willenhall/external/DocumentView")⟩ := by decide +kernel
theorem pd_2 : parseMethodDescriptor "(I)Lcom/example/willenhall/willenhall/external/ExternalRole;" = some ⟨[.int], some (.object "com/example/willenhall/willenhall/external/ExternalRole")⟩ := by decide +kernel
theorem pd_3 : parseMethodDescriptor "(I)I" = some ⟨[.int], some .int⟩ := by decide +kernel
theorem pd_4 : parseMethodDescriptor "(Lcom/example/willenhall/willenhall/external/ExternalRole;)Z" = some ⟨[(.object "com/example/willenhall/willenhall/external/ExternalRole")], some .boolean⟩ := by decide +kernel
theorem ef_law0_0 (m : MethodId) (pI1 : Int32) (pI2 : Int32) : entryFrame m #[(.int pI1), (.int pI2)] maxLocals = mkF m 0 #[.val (.int pI1), .val (.int pI2), .unset, .unset, .unset, .unset, .unset] [] := by first | (simp [entryFrame, mkF, argsToLocals, Value.category, maxLocals]; done) | rfl
def Qlaw0_0 (Z : State) (pI1 : Int32) (pI2 : Int32) (pR3 : Addr) (pR5 : Addr) (pI8 : Int32) (pR9 : Addr) (pI10 : Int32) (h0 : Heap) (n0 : Nat) (v : Option Value) (h : Heap) (L : List Loc) : Prop := v = some (.int (1 : Int32)) ∧ Fr n0 L
set_option maxRecDepth 65536 in
set_option maxHeartbeats 40000000 in
theorem law0_0 (l : Launch) (Z : State) (a0 : Array Value) (hw : ∀ d ∈ tables_1, d.before a0 Z = true) (ws : List Jvm.Cond) (pI1 : Int32) (pI2 : Int32) (pR3 : Addr) (pR5 : Addr) (pI8 : Int32) (pR9 : Addr) (pI10 : Int32) (h0 : Heap) (n0 : Nat) (Z0 : n0 ≤ h0.size) (S_DocumentView_ORDERS : Sta Z h0 "com/example/willenhall/willenhall/external/DocumentView" "ORDERS" "Lcom/example/willenhall/willenhall/external/DocumentView;" (.ref pR3)) (S_ExternalRole_BASIC : Sta Z h0 "com/example/willenhall/willenhall/external/ExternalRole" "BASIC" "Lcom/example/willenhall/willenhall/external/ExternalRole;" (.ref pR5)) (F_ordinal_pR5 : Fld Z h0 pR5 "java/lang/Enum" "ordinal" "I" (.int pI8)) (E_pR5 : Exa Z h0 pR5 "com/example/willenhall/willenhall/external/ExternalRole") (F_lowestRole_pR3 : Fld Z h0 pR3 "com/example/willenhall/willenhall/external/DocumentView" "lowestRole" "Lcom/example/willenhall/willenhall/external/ExternalRole;" (.ref pR9)) (F_ordinal_pR9 : Fld Z h0 pR9 "java/lang/Enum" "ordinal" "I" (.int pI10)) (E_pR9 : Exa Z h0 pR9 "com/example/willenhall/willenhall/external/ExternalRole") (E_pR3 : Exa Z h0 pR3 "com/example/willenhall/willenhall/external/DocumentView") (hc2 : (pI1 &&& (3 : Int32)) = (0 : Int32)) (hc10 : ((pI2 &&& (2147483647 : Int32)) % (6 : Int32)) = (0 : Int32)) (hc43 : pI8 < pI10) :
    MetFree l x (head1 (Jvm.Cond.code x code maxLocals ret :: ws) room_1) (fun a U => a = #[(.int pI1), (.int pI2)] ∧ Z.Warmed39 U.vm ∧ U.heap = h0) (fun _ _ _ _ _ => True) (fun _ U o U' => ∃ v L, o = .returned v ∧ Qlaw0_0 Z pI1 pI2 pR3 pR5 pI8 pR9 pI10 h0 n0 v U'.heap L ∧ FrameEnd U o U' L room_1.cells room_1.slots) := by
  refine MetFree.of_bodySF (plainFor_of_name pn_0) hisR ?_
  intro p e s m args below meth c s₁ Bd hml0 hP hK
  obtain ⟨rfl, hZ, hh⟩ := hP
  have hx := Bd.exec
  have hby := Bd.bytes
  have hml : c.maxLocals = 7 := hml0
  have hown : s.vm.findClass "com/example/willenhall/willenhall/external/DocumentViewIsReachedByPinLaw" = some m.cls := findClass_of_methodNamed Bd.named
  have hnm := (name_of_methodNamed Bd.named Bd.method).1
  have X0 : Stand p l e room_1 s m #[(.int pI1), (.int pI2)] below meth c s₁ [] 0 0 := Stand.of_body Bd
  have e0 : s₁.heap = h0 := by rw [← hh, Bd.state]; rfl
  have N0 := Fr.nil n0
  have pre0 : ∀ t, Steps p.tables e below (s₁.setTop (mkF m 0 #[.val (.int pI1), .val (.int pI2), .unset, .unset, .unset, .unset, .unset] [])) t → Steps p.tables e below (s₁.setTop (entryFrame m #[(.int pI1), (.int pI2)] maxLocals)) t := fun t k => castTop (ef_law0_0 m pI1 pI2) k
  obtain ⟨_, _, ⟨T4, L4, k4, n4⟩, -, X4, ⟨Lc4, hQ4, l4, y4, z4⟩, st4⟩ := Jvm.LawKit.callS X0 hx (y := yN0) hown (mvT hZ (ow hw 1 rfl)) (mvT hZ (ow hw 2 rfl)) (mvT hZ (ow hw 3 rfl)) (mvT hZ (ow hw 4 rfl)) (by decide) (backOf (W := 0) (view0 l Z a0 hw [] pR3 h0 n0 Z0 S_DocumentView_ORDERS) hZ (ow hw 4 rfl) (ow hw 3 rfl) (by decide) (by decide)) (g := (mkF m 13 #[.val (.int pI1), .val (.int pI2), .val (.int (0 : Int32)), .val (.int (0 : Int32)), .unset, .unset, .unset] [(.int (0 : Int32))])) rfl (by rw [hml]; rfl) (argsL := [(.int (0 : Int32))]) (rest := []) (lenOf pd_1 rfl) rfl (by show 2 * 0 + _ ≤ _; exact Nat.le_of_eq rfl) (hb hby at_13) (fun _ _ => ⟨rfl, e0, (by decide : 0 + 0 ≤ _), (by decide : 0 + 0 ≤ _)⟩)
  dsimp only [Pt.U, Pt.locs, Pt.cells, Pt.slots] at X4 l4 y4 z4 st4 hQ4
  subst l4 y4 z4
  obtain ⟨rfl, Nq4, e4⟩ := hQ4
  have N4 := Fr.app N0 Nq4
  obtain ⟨_, _, ⟨T6, L6, k6, n6⟩, -, X6, ⟨Lc6, hQ6, l6, y6, z6⟩, st6⟩ := Jvm.LawKit.callS X4 hx (y := yN1) hown (mvT hZ (ow hw 8 rfl)) (mvT hZ (ow hw 9 rfl)) (mvT hZ (ow hw 3 rfl)) (mvT hZ (ow hw 10 rfl)) (by decide) (backOf (W := 0) (role0 l Z a0 hw [] pR5 h0 n0 Z0 S_ExternalRole_BASIC) hZ (ow hw 10 rfl) (ow hw 3 rfl) (by decide) (by decide)) (g := (mkF m 19 #[.val (.int pI1), .val (.int pI2), .val (.int (0 : Int32)), .val (.int (0 : Int32)), .val (.ref pR3), .unset, .unset] [(.int (0 : Int32))])) rfl (by rw [hml]; rfl) (argsL := [(.int (0 : Int32))]) (rest := []) (lenOf pd_2 rfl) rfl (by show 2 * 0 + _ ≤ _; exact Nat.le_of_eq rfl) (hb hby at_19) (fun _ _ => ⟨rfl, e4, (by decide : 0 + 0 ≤ _), (by decide : 0 + 0 ≤ _)⟩)
  dsimp only [Pt.U, Pt.locs, Pt.cells, Pt.slots] at X6 l6 y6 z6 st6 hQ6
  subst l6 y6 z6
  obtain ⟨rfl, Nq6, e6⟩ := hQ6
  have N6 := Fr.app N4 Nq6
  obtain ⟨_, _, ⟨T7, L7, k7, n7⟩, -, X7, ⟨Lc7, hQ7, l7, y7, z7⟩, st7⟩ := Jvm.LawKit.callS X6 hx (y := yN2) hown (mvT hZ (ow hw 14 rfl)) (mvT hZ (ow hw 15 rfl)) (mvT hZ (ow hw 3 rfl)) (mvT hZ (ow hw 16 rfl)) (by decide) (backOf (W := 1) (lowest0 l Z a0 hw []  h0 n0 Z0 ) hZ (ow hw 16 rfl) (ow hw 3 rfl) (by decide) (by decide)) (g := (mkF m 26 #[.val (.int pI1), .val (.int pI2), .val (.int (0 : Int32)), .val (.int (0 : Int32)), .val (.ref pR3), .val (.ref pR5), .unset] [(.int (0 : Int32)), (.int (0 : Int32))])) rfl (by rw [hml]; rfl) (argsL := [(.int (0 : Int32))]) (rest := [(.int (0 : Int32))]) (lenOf pd_3 rfl) rfl (by show 2 * 0 + _ ≤ _; exact Nat.le_of_eq rfl) (hb hby at_26) (fun _ _ => ⟨rfl, e6, (by decide : 0 + 0 ≤ _), (by decide : 0 + 0 ≤ _)⟩)
  dsimp only [Pt.U, Pt.locs, Pt.cells, Pt.slots] at X7 l7 y7 z7 st7 hQ7
  subst l7 y7 z7
  obtain ⟨rfl, Nq7, e7⟩ := hQ7
  have N7 := Fr.app N6 Nq7
  obtain ⟨cq11, kq11, q11a, q11b, q11c⟩ := isOf hZ e7 E_pR3
  obtain ⟨_, _, ⟨T11, L11, k11, n11⟩, -, X11, ⟨Lc11, hQ11, l11, y11, z11⟩, st11⟩ := X7.virtualBack hx (y := yN6) (z := yN6) hown (mvT hZ (ow hw 17 rfl)) (mvT hZ (ow hw 18 rfl)) (notFace_of_selects (args := #[]) (mvT hZ (ow hw 20 rfl))) (mvT hZ (ow hw 20 rfl)) (mvT hZ (ow hw 19 rfl)) (by decide) (backOf (W := 0) (irbN l Z a0 hw [] pR3 pR5 pI8 pR9 pI10 h0 n0 Z0 F_ordinal_pR5 E_pR5 F_lowestRole_pR3 F_ordinal_pR9 E_pR9 hc43) hZ (ow hw 21 rfl) (ow hw 6 rfl) (by decide) (by decide)) q11a q11c (g := (mkF m 43 #[.val (.int pI1), .val (.int pI2), .val (.int (0 : Int32)), .val (.int (0 : Int32)), .val (.ref pR3), .val (.ref pR5), .val (.int (0 : Int32))] [(.ref pR5), (.ref pR3)])) rfl (by rw [hml]; rfl) (Steps.refl _) (argsL := [(.ref pR5)]) (rest := []) (lenOf pd_4 rfl) rfl (by show 2 * 0 + _ ≤ _; exact Nat.le_of_eq rfl) (hb hby at_43) (fun _ _ => ⟨rfl, e7, (by decide : 0 + 0 ≤ _), (by decide : 0 + 0 ≤ _)⟩)
  dsimp only [Pt.U, Pt.locs, Pt.cells, Pt.slots] at X11 l11 y11 z11 st11 hQ11
  subst l11 y11 z11
  obtain ⟨rfl, Nq11, e11⟩ := hQ11
  have N11 := Fr.app N7 Nq11
  obtain ⟨fs, hr, hrun, hended, hW, hsame⟩ := X11.leave (v := some (.int (1 : Int32))) (fun h => by rw [Bd.returns] at h; cases h)
  refine ⟨_, _, pre0 _ ?_, hrun, hended, _, _, rfl, ?_, ⟨_, rfl⟩, hW, hsame.mono (by decide) (by decide)⟩
  · show oS p e below s₁ m 0 #[.val (.int pI1), .val (.int pI2), .unset, .unset, .unset, .unset, .unset] [] _
    refine XS.iloadN X0.here hx rfl (hb hby at_0) rfl ?_
    show oS p e below s₁ m 1 #[.val (.int pI1), .val (.int pI2), .unset, .unset, .unset, .unset, .unset] [(.int pI1)] _
    refine XS.iconst X0.here hx rfl (hb hby at_1) ?_
    show oS p e below s₁ m 2 #[.val (.int pI1), .val (.int pI2), .unset, .unset, .unset, .unset, .unset] [(.int (3 : Int32)), (.int pI1)] _
    refine XS.iand X0.here hx rfl (hb hby at_2) rfl ?_
    show Steps p.tables e below (s₁.setTop (mkF m 3 #[.val (.int pI1), .val (.int pI2), .unset, .unset, .unset, .unset, .unset] [(.int (pI1 &&& (3 : Int32)))])) _
    rw [hc2]
    show oS p e below s₁ m 3 #[.val (.int pI1), .val (.int pI2), .unset, .unset, .unset, .unset, .unset] [(.int (0 : Int32))] _
    refine XS.istoreN X0.here hx rfl (hb hby at_3) rfl (l' := #[.val (.int pI1), .val (.int pI2), .val (.int (0 : Int32)), .unset, .unset, .unset, .unset]) rfl ?_
    show oS p e below s₁ m 4 #[.val (.int pI1), .val (.int pI2), .val (.int (0 : Int32)), .unset, .unset, .unset, .unset] [] _
    refine XS.iloadN X0.here hx rfl (hb hby at_4) rfl ?_
    show oS p e below s₁ m 5 #[.val (.int pI1), .val (.int pI2), .val (.int (0 : Int32)), .unset, .unset, .unset, .unset] [(.int pI2)] _
    refine X0.ldcInt hx hown (mvT hZ (ow hw 0 rfl)) (g := (mkF m 5 #[.val (.int pI1), .val (.int pI2), .val (.int (0 : Int32)), .unset, .unset, .unset, .unset] [(.int pI2)])) rfl (hb hby at_5) _ ?_
    show oS p e below s₁ m 7 #[.val (.int pI1), .val (.int pI2), .val (.int (0 : Int32)), .unset, .unset, .unset, .unset] [(.int (2147483647 : Int32)), (.int pI2)] _
    refine XS.iand X0.here hx rfl (hb hby at_7) rfl ?_
    show oS p e below s₁ m 8 #[.val (.int pI1), .val (.int pI2), .val (.int (0 : Int32)), .unset, .unset, .unset, .unset] [(.int (pI2 &&& (2147483647 : Int32)))] _
    refine XS.bipush X0.here hx rfl (hb hby at_8) ?_
    show oS p e below s₁ m 10 #[.val (.int pI1), .val (.int pI2), .val (.int (0 : Int32)), .unset, .unset, .unset, .unset] [(.int (6 : Int32)), (.int (pI2 &&& (2147483647 : Int32)))] _
    refine iremM (g := (mkF m 10 #[.val (.int pI1), .val (.int pI2), .val (.int (0 : Int32)), .unset, .unset, .unset, .unset] [(.int (6 : Int32)), (.int (pI2 &&& (2147483647 : Int32)))])) X0 hx rfl (hb hby at_10) rfl (by decide) ?_
    show Steps p.tables e below (s₁.setTop (mkF m 11 #[.val (.int pI1), .val (.int pI2), .val (.int (0 : Int32)), .unset, .unset, .unset, .unset] [(.int ((pI2 &&& (2147483647 : Int32)) % (6 : Int32)))])) _
    rw [hc10]
    show oS p e below s₁ m 11 #[.val (.int pI1), .val (.int pI2), .val (.int (0 : Int32)), .unset, .unset, .unset, .unset] [(.int (0 : Int32))] _
    refine XS.istoreN X0.here hx rfl (hb hby at_11) rfl (l' := #[.val (.int pI1), .val (.int pI2), .val (.int (0 : Int32)), .val (.int (0 : Int32)), .unset, .unset, .unset]) rfl ?_
    show oS p e below s₁ m 12 #[.val (.int pI1), .val (.int pI2), .val (.int (0 : Int32)), .val (.int (0 : Int32)), .unset, .unset, .unset] [] _
    refine XS.iloadN X0.here hx rfl (hb hby at_12) rfl ?_
    show oS p e below s₁ m 13 #[.val (.int pI1), .val (.int pI2), .val (.int (0 : Int32)), .val (.int (0 : Int32)), .unset, .unset, .unset] [(.int (0 : Int32))] _
    refine st4 _ ?_
    show oS p e below T4 m 16 #[.val (.int pI1), .val (.int pI2), .val (.int (0 : Int32)), .val (.int (0 : Int32)), .unset, .unset, .unset] [(.ref pR3)] _
    refine XS.astore X4.here hx rfl (hb hby at_16) rfl rfl (l' := #[.val (.int pI1), .val (.int pI2), .val (.int (0 : Int32)), .val (.int (0 : Int32)), .val (.ref pR3), .unset, .unset]) rfl ?_
    show oS p e below T4 m 18 #[.val (.int pI1), .val (.int pI2), .val (.int (0 : Int32)), .val (.int (0 : Int32)), .val (.ref pR3), .unset, .unset] [] _
    refine XS.iloadN X4.here hx rfl (hb hby at_18) rfl ?_
    show oS p e below T4 m 19 #[.val (.int pI1), .val (.int pI2), .val (.int (0 : Int32)), .val (.int (0 : Int32)), .val (.ref pR3), .unset, .unset] [(.int (0 : Int32))] _
    refine st6 _ ?_
    show oS p e below T6 m 22 #[.val (.int pI1), .val (.int pI2), .val (.int (0 : Int32)), .val (.int (0 : Int32)), .val (.ref pR3), .unset, .unset] [(.ref pR5)] _
    refine XS.astore X6.here hx rfl (hb hby at_22) rfl rfl (l' := #[.val (.int pI1), .val (.int pI2), .val (.int (0 : Int32)), .val (.int (0 : Int32)), .val (.ref pR3), .val (.ref pR5), .unset]) rfl ?_
    show oS p e below T6 m 24 #[.val (.int pI1), .val (.int pI2), .val (.int (0 : Int32)), .val (.int (0 : Int32)), .val (.ref pR3), .val (.ref pR5), .unset] [] _
    refine XS.iloadN X6.here hx rfl (hb hby at_24) rfl ?_
    show oS p e below T6 m 25 #[.val (.int pI1), .val (.int pI2), .val (.int (0 : Int32)), .val (.int (0 : Int32)), .val (.ref pR3), .val (.ref pR5), .unset] [(.int (0 : Int32))] _
    refine XS.iloadN X6.here hx rfl (hb hby at_25) rfl ?_
    show oS p e below T6 m 26 #[.val (.int pI1), .val (.int pI2), .val (.int (0 : Int32)), .val (.int (0 : Int32)), .val (.ref pR3), .val (.ref pR5), .unset] [(.int (0 : Int32)), (.int (0 : Int32))] _
    refine st7 _ ?_
    show oS p e below T7 m 29 #[.val (.int pI1), .val (.int pI2), .val (.int (0 : Int32)), .val (.int (0 : Int32)), .val (.ref pR3), .val (.ref pR5), .unset] [(.int (1 : Int32)), (.int (0 : Int32))] _
    refine XS.icmpYes X7.here hx rfl (pc0 := 29) (pc' := 36) rfl (hb hby at_29) rfl (tlt (by decide : (0 : Int32) < (1 : Int32))).1 (by decide) (by decide) ?_
    show oS p e below T7 m 36 #[.val (.int pI1), .val (.int pI2), .val (.int (0 : Int32)), .val (.int (0 : Int32)), .val (.ref pR3), .val (.ref pR5), .unset] [] _
    refine XS.iconst X7.here hx rfl (hb hby at_36) ?_
    show oS p e below T7 m 37 #[.val (.int pI1), .val (.int pI2), .val (.int (0 : Int32)), .val (.int (0 : Int32)), .val (.ref pR3), .val (.ref pR5), .unset] [(.int (0 : Int32))] _
    refine XS.istore X7.here hx rfl (hb hby at_37) rfl (l' := #[.val (.int pI1), .val (.int pI2), .val (.int (0 : Int32)), .val (.int (0 : Int32)), .val (.ref pR3), .val (.ref pR5), .val (.int (0 : Int32))]) rfl ?_
    show oS p e below T7 m 39 #[.val (.int pI1), .val (.int pI2), .val (.int (0 : Int32)), .val (.int (0 : Int32)), .val (.ref pR3), .val (.ref pR5), .val (.int (0 : Int32))] [] _
    refine XS.aload X7.here hx rfl (hb hby at_39) rfl rfl ?_
    show oS p e below T7 m 41 #[.val (.int pI1), .val (.int pI2), .val (.int (0 : Int32)), .val (.int (0 : Int32)), .val (.ref pR3), .val (.ref pR5), .val (.int (0 : Int32))] [(.ref pR3)] _
    refine XS.aload X7.here hx rfl (hb hby at_41) rfl rfl ?_
    show oS p e below T7 m 43 #[.val (.int pI1), .val (.int pI2), .val (.int (0 : Int32)), .val (.int (0 : Int32)), .val (.ref pR3), .val (.ref pR5), .val (.int (0 : Int32))] [(.ref pR5), (.ref pR3)] _
    refine st11.trans ?_
    show oS p e below T11 m 46 #[.val (.int pI1), .val (.int pI2), .val (.int (0 : Int32)), .val (.int (0 : Int32)), .val (.ref pR3), .val (.ref pR5), .val (.int (0 : Int32))] [(.int (0 : Int32))] _
    refine XS.iload X11.here hx rfl (hb hby at_46) rfl ?_
    show oS p e below T11 m 48 #[.val (.int pI1), .val (.int pI2), .val (.int (0 : Int32)), .val (.int (0 : Int32)), .val (.ref pR3), .val (.ref pR5), .val (.int (0 : Int32))] [(.int (0 : Int32)), (.int (0 : Int32))] _
    refine XS.icmpNo X11.here hx rfl (hb hby at_48) rfl (teq (by decide : (0 : Int32) = (0 : Int32))).2 ?_
    show oS p e below T11 m 51 #[.val (.int pI1), .val (.int pI2), .val (.int (0 : Int32)), .val (.int (0 : Int32)), .val (.ref pR3), .val (.ref pR5), .val (.int (0 : Int32))] [] _
    refine XS.iconst X11.here hx rfl (hb hby at_51) ?_
    show oS p e below T11 m 52 #[.val (.int pI1), .val (.int pI2), .val (.int (0 : Int32)), .val (.int (0 : Int32)), .val (.ref pR3), .val (.ref pR5), .val (.int (0 : Int32))] [(.int (1 : Int32))] _
    refine XS.goto X11.here hx rfl (pc0 := 52) (pc' := 56) rfl (hb hby at_52) (by decide) (by decide) ?_
    show oS p e below T11 m 56 #[.val (.int pI1), .val (.int pI2), .val (.int (0 : Int32)), .val (.int (0 : Int32)), .val (.ref pR3), .val (.ref pR5), .val (.int (0 : Int32))] [(.int (1 : Int32))] _
    exact retN X11 hx (t := .boolean) Bd.returns (by simp) (hb hby at_56) hr
  · show Qlaw0_0 Z pI1 pI2 pR3 pR5 pI8 pR9 pI10 h0 n0 _ T11.heap _
    rw [e11]
    exact ⟨rfl, N11⟩
theorem ef_law0_1 (m : MethodId) (pI1 : Int32) (pI2 : Int32) : entryFrame m #[(.int pI1), (.int pI2)] maxLocals = mkF m 0 #[.val (.int pI1), .val (.int pI2), .unset, .unset, .unset, .unset, .unset] [] := by first | (simp [entryFrame, mkF, argsToLocals, Value.category, maxLocals]; done) | rfl
def Qlaw0_1 (Z : State) (pI1 : Int32) (pI2 : Int32) (pR3 : Addr) (pR5 : Addr) (pI8 : Int32) (pR9 : Addr) (pI10 : Int32) (h0 : Heap) (n0 : Nat) (v : Option Value) (h : Heap) (L : List Loc) : Prop := v = some (.int (1 : Int32)) ∧ Fr n0 L
set_option maxRecDepth 65536 in
set_option maxHeartbeats 40000000 in
theorem law0_1 (l : Launch) (Z : State) (a0 : Array Value) (hw : ∀ d ∈ tables_1, d.before a0 Z = true) (ws : List Jvm.Cond) (pI1 : Int32) (pI2 : Int32) (pR3 : Addr) (pR5 : Addr) (pI8 : Int32) (pR9 : Addr) (pI10 : Int32) (h0 : Heap) (n0 : Nat) (Z0 : n0 ≤ h0.size) (S_DocumentView_ORDERS : Sta Z h0 "com/example/willenhall/willenhall/external/DocumentView" "ORDERS" "Lcom/example/willenhall/willenhall/external/DocumentView;" (.ref pR3)) (S_ExternalRole_ORDERS : Sta Z h0 "com/example/willenhall/willenhall/external/ExternalRole" "ORDERS" "Lcom/example/willenhall/willenhall/external/ExternalRole;" (.ref pR5)) (F_ordinal_pR5 : Fld Z h0 pR5 "java/lang/Enum" "ordinal" "I" (.int pI8)) (E_pR5 : Exa Z h0 pR5 "com/example/willenhall/willenhall/external/ExternalRole") (F_lowestRole_pR3 : Fld Z h0 pR3 "com/example/willenhall/willenhall/external/DocumentView" "lowestRole" "Lcom/example/willenhall/willenhall/external/ExternalRole;" (.ref pR9)) (F_ordinal_pR9 : Fld Z h0 pR9 "java/lang/Enum" "ordinal" "I" (.int pI10)) (E_pR9 : Exa Z h0 pR9 "com/example/willenhall/willenhall/external/ExternalRole") (E_pR3 : Exa Z h0 pR3 "com/example/willenhall/willenhall/external/DocumentView") (hc2 : (pI1 &&& (3 : Int32)) = (0 : Int32)) (hc10 : ((pI2 &&& (2147483647 : Int32)) % (6 : Int32)) = (1 : Int32)) (hc43 : ¬ (pI8 < pI10)) :
    MetFree l x (head1 (Jvm.Cond.code x code maxLocals ret :: ws) room_1) (fun a U => a = #[(.int pI1), (.int pI2)] ∧ Z.Warmed39 U.vm ∧ U.heap = h0) (fun _ _ _ _ _ => True) (fun _ U o U' => ∃ v L, o = .returned v ∧ Qlaw0_1 Z pI1 pI2 pR3 pR5 pI8 pR9 pI10 h0 n0 v U'.heap L ∧ FrameEnd U o U' L room_1.cells room_1.slots) := by
  refine MetFree.of_bodySF (plainFor_of_name pn_0) hisR ?_
  intro p e s m args below meth c s₁ Bd hml0 hP hK
  obtain ⟨rfl, hZ, hh⟩ := hP
  have hx := Bd.exec
  have hby := Bd.bytes
  have hml : c.maxLocals = 7 := hml0
  have hown : s.vm.findClass "com/example/willenhall/willenhall/external/DocumentViewIsReachedByPinLaw" = some m.cls := findClass_of_methodNamed Bd.named
  have hnm := (name_of_methodNamed Bd.named Bd.method).1
  have X0 : Stand p l e room_1 s m #[(.int pI1), (.int pI2)] below meth c s₁ [] 0 0 := Stand.of_body Bd
  have e0 : s₁.heap = h0 := by rw [← hh, Bd.state]; rfl
  have N0 := Fr.nil n0
  have pre0 : ∀ t, Steps p.tables e below (s₁.setTop (mkF m 0 #[.val (.int pI1), .val (.int pI2), .unset, .unset, .unset, .unset, .unset] [])) t → Steps p.tables e below (s₁.setTop (entryFrame m #[(.int pI1), (.int pI2)] maxLocals)) t := fun t k => castTop (ef_law0_1 m pI1 pI2) k
  obtain ⟨_, _, ⟨T4, L4, k4, n4⟩, -, X4, ⟨Lc4, hQ4, l4, y4, z4⟩, st4⟩ := Jvm.LawKit.callS X0 hx (y := yN0) hown (mvT hZ (ow hw 1 rfl)) (mvT hZ (ow hw 2 rfl)) (mvT hZ (ow hw 3 rfl)) (mvT hZ (ow hw 4 rfl)) (by decide) (backOf (W := 0) (view0 l Z a0 hw [] pR3 h0 n0 Z0 S_DocumentView_ORDERS) hZ (ow hw 4 rfl) (ow hw 3 rfl) (by decide) (by decide)) (g := (mkF m 13 #[.val (.int pI1), .val (.int pI2), .val (.int (0 : Int32)), .val (.int (1 : Int32)), .unset, .unset, .unset] [(.int (0 : Int32))])) rfl (by rw [hml]; rfl) (argsL := [(.int (0 : Int32))]) (rest := []) (lenOf pd_1 rfl) rfl (by show 2 * 0 + _ ≤ _; exact Nat.le_of_eq rfl) (hb hby at_13) (fun _ _ => ⟨rfl, e0, (by decide : 0 + 0 ≤ _), (by decide : 0 + 0 ≤ _)⟩)
  dsimp only [Pt.U, Pt.locs, Pt.cells, Pt.slots] at X4 l4 y4 z4 st4 hQ4
  subst l4 y4 z4
  obtain ⟨rfl, Nq4, e4⟩ := hQ4
  have N4 := Fr.app N0 Nq4
  obtain ⟨_, _, ⟨T6, L6, k6, n6⟩, -, X6, ⟨Lc6, hQ6, l6, y6, z6⟩, st6⟩ := Jvm.LawKit.callS X4 hx (y := yN1) hown (mvT hZ (ow hw 8 rfl)) (mvT hZ (ow hw 9 rfl)) (mvT hZ (ow hw 3 rfl)) (mvT hZ (ow hw 10 rfl)) (by decide) (backOf (W := 0) (role1 l Z a0 hw [] pR5 h0 n0 Z0 S_ExternalRole_ORDERS) hZ (ow hw 10 rfl) (ow hw 3 rfl) (by decide) (by decide)) (g := (mkF m 19 #[.val (.int pI1), .val (.int pI2), .val (.int (0 : Int32)), .val (.int (1 : Int32)), .val (.ref pR3), .unset, .unset] [(.int (1 : Int32))])) rfl (by rw [hml]; rfl) (argsL := [(.int (1 : Int32))]) (rest := []) (lenOf pd_2 rfl) rfl (by show 2 * 0 + _ ≤ _; exact Nat.le_of_eq rfl) (hb hby at_19) (fun _ _ => ⟨rfl, e4, (by decide : 0 + 0 ≤ _), (by decide : 0 + 0 ≤ _)⟩)
  dsimp only [Pt.U, Pt.locs, Pt.cells, Pt.slots] at X6 l6 y6 z6 st6 hQ6
  subst l6 y6 z6
  obtain ⟨rfl, Nq6, e6⟩ := hQ6
  have N6 := Fr.app N4 Nq6
  obtain ⟨_, _, ⟨T7, L7, k7, n7⟩, -, X7, ⟨Lc7, hQ7, l7, y7, z7⟩, st7⟩ := Jvm.LawKit.callS X6 hx (y := yN2) hown (mvT hZ (ow hw 14 rfl)) (mvT hZ (ow hw 15 rfl)) (mvT hZ (ow hw 3 rfl)) (mvT hZ (ow hw 16 rfl)) (by decide) (backOf (W := 1) (lowest0 l Z a0 hw []  h0 n0 Z0 ) hZ (ow hw 16 rfl) (ow hw 3 rfl) (by decide) (by decide)) (g := (mkF m 26 #[.val (.int pI1), .val (.int pI2), .val (.int (0 : Int32)), .val (.int (1 : Int32)), .val (.ref pR3), .val (.ref pR5), .unset] [(.int (0 : Int32)), (.int (1 : Int32))])) rfl (by rw [hml]; rfl) (argsL := [(.int (0 : Int32))]) (rest := [(.int (1 : Int32))]) (lenOf pd_3 rfl) rfl (by show 2 * 0 + _ ≤ _; exact Nat.le_of_eq rfl) (hb hby at_26) (fun _ _ => ⟨rfl, e6, (by decide : 0 + 0 ≤ _), (by decide : 0 + 0 ≤ _)⟩)
  dsimp only [Pt.U, Pt.locs, Pt.cells, Pt.slots] at X7 l7 y7 z7 st7 hQ7
  subst l7 y7 z7
  obtain ⟨rfl, Nq7, e7⟩ := hQ7
  have N7 := Fr.app N6 Nq7
  obtain ⟨cq11, kq11, q11a, q11b, q11c⟩ := isOf hZ e7 E_pR3
  obtain ⟨_, _, ⟨T11, L11, k11, n11⟩, -, X11, ⟨Lc11, hQ11, l11, y11, z11⟩, st11⟩ := X7.virtualBack hx (y := yN6) (z := yN6) hown (mvT hZ (ow hw 17 rfl)) (mvT hZ (ow hw 18 rfl)) (notFace_of_selects (args := #[]) (mvT hZ (ow hw 20 rfl))) (mvT hZ (ow hw 20 rfl)) (mvT hZ (ow hw 19 rfl)) (by decide) (backOf (W := 0) (irbY l Z a0 hw [] pR3 pR5 pI8 pR9 pI10 h0 n0 Z0 F_ordinal_pR5 E_pR5 F_lowestRole_pR3 F_ordinal_pR9 E_pR9 hc43) hZ (ow hw 21 rfl) (ow hw 6 rfl) (by decide) (by decide)) q11a q11c (g := (mkF m 43 #[.val (.int pI1), .val (.int pI2), .val (.int (0 : Int32)), .val (.int (1 : Int32)), .val (.ref pR3), .val (.ref pR5), .val (.int (1 : Int32))] [(.ref pR5), (.ref pR3)])) rfl (by rw [hml]; rfl) (Steps.refl _) (argsL := [(.ref pR5)]) (rest := []) (lenOf pd_4 rfl) rfl (by show 2 * 0 + _ ≤ _; exact Nat.le_of_eq rfl) (hb hby at_43) (fun _ _ => ⟨rfl, e7, (by decide : 0 + 0 ≤ _), (by decide : 0 + 0 ≤ _)⟩)
  dsimp only [Pt.U, Pt.locs, Pt.cells, Pt.slots] at X11 l11 y11 z11 st11 hQ11
  subst l11 y11 z11
  obtain ⟨rfl, Nq11, e11⟩ := hQ11
  have N11 := Fr.app N7 Nq11
  obtain ⟨fs, hr, hrun, hended, hW, hsame⟩ := X11.leave (v := some (.int (1 : Int32))) (fun h => by rw [Bd.returns] at h; cases h)
  refine ⟨_, _, pre0 _ ?_, hrun, hended, _, _, rfl, ?_, ⟨_, rfl⟩, hW, hsame.mono (by decide) (by decide)⟩
  · show oS p e below s₁ m 0 #[.val (.int pI1), .val (.int pI2), .unset, .unset, .unset, .unset, .unset] [] _
    refine XS.iloadN X0.here hx rfl (hb hby at_0) rfl ?_
    show oS p e below s₁ m 1 #[.val (.int pI1), .val (.int pI2), .unset, .unset, .unset, .unset, .unset] [(.int pI1)] _
    refine XS.iconst X0.here hx rfl (hb hby at_1) ?_
    show oS p e below s₁ m 2 #[.val (.int pI1), .val (.int pI2), .unset, .unset, .unset, .unset, .unset] [(.int (3 : Int32)), (.int pI1)] _
    refine XS.iand X0.here hx rfl (hb hby at_2) rfl ?_
    show Steps p.tables e below (s₁.setTop (mkF m 3 #[.val (.int pI1), .val (.int pI2), .unset, .unset, .unset, .unset, .unset] [(.int (pI1 &&& (3 : Int32)))])) _
    rw [hc2]
    show oS p e below s₁ m 3 #[.val (.int pI1), .val (.int pI2), .unset, .unset, .unset, .unset, .unset] [(.int (0 : Int32))] _
    refine XS.istoreN X0.here hx rfl (hb hby at_3) rfl (l' := #[.val (.int pI1), .val (.int pI2), .val (.int (0 : Int32)), .unset, .unset, .unset, .unset]) rfl ?_
    show oS p e below s₁ m 4 #[.val (.int pI1), .val (.int pI2), .val (.int (0 : Int32)), .unset, .unset, .unset, .unset] [] _
    refine XS.iloadN X0.here hx rfl (hb hby at_4) rfl ?_
    show oS p e below s₁ m 5 #[.val (.int pI1), .val (.int pI2), .val (.int (0 : Int32)), .unset, .unset, .unset, .unset] [(.int pI2)] _
    refine X0.ldcInt hx hown (mvT hZ (ow hw 0 rfl)) (g := (mkF m 5 #[.val (.int pI1), .val (.int pI2), .val (.int (0 : Int32)), .unset, .unset, .unset, .unset] [(.int pI2)])) rfl (hb hby at_5) _ ?_
    show oS p e below s₁ m 7 #[.val (.int pI1), .val (.int pI2), .val (.int (0 : Int32)), .unset, .unset, .unset, .unset] [(.int (2147483647 : Int32)), (.int pI2)] _
    refine XS.iand X0.here hx rfl (hb hby at_7) rfl ?_
    show oS p e below s₁ m 8 #[.val (.int pI1), .val (.int pI2), .val (.int (0 : Int32)), .unset, .unset, .unset, .unset] [(.int (pI2 &&& (2147483647 : Int32)))] _
    refine XS.bipush X0.here hx rfl (hb hby at_8) ?_
    show oS p e below s₁ m 10 #[.val (.int pI1), .val (.int pI2), .val (.int (0 : Int32)), .unset, .unset, .unset, .unset] [(.int (6 : Int32)), (.int (pI2 &&& (2147483647 : Int32)))] _
    refine iremM (g := (mkF m 10 #[.val (.int pI1), .val (.int pI2), .val (.int (0 : Int32)), .unset, .unset, .unset, .unset] [(.int (6 : Int32)), (.int (pI2 &&& (2147483647 : Int32)))])) X0 hx rfl (hb hby at_10) rfl (by decide) ?_
    show Steps p.tables e below (s₁.setTop (mkF m 11 #[.val (.int pI1), .val (.int pI2), .val (.int (0 : Int32)), .unset, .unset, .unset, .unset] [(.int ((pI2 &&& (2147483647 : Int32)) % (6 : Int32)))])) _
    rw [hc10]
    show oS p e below s₁ m 11 #[.val (.int pI1), .val (.int pI2), .val (.int (0 : Int32)), .unset, .unset, .unset, .unset] [(.int (1 : Int32))] _
    refine XS.istoreN X0.here hx rfl (hb hby at_11) rfl (l' := #[.val (.int pI1), .val (.int pI2), .val (.int (0 : Int32)), .val (.int (1 : Int32)), .unset, .unset, .unset]) rfl ?_
    show oS p e below s₁ m 12 #[.val (.int pI1), .val (.int pI2), .val (.int (0 : Int32)), .val (.int (1 : Int32)), .unset, .unset, .unset] [] _
    refine XS.iloadN X0.here hx rfl (hb hby at_12) rfl ?_
    show oS p e below s₁ m 13 #[.val (.int pI1), .val (.int pI2), .val (.int (0 : Int32)), .val (.int (1 : Int32)), .unset, .unset, .unset] [(.int (0 : Int32))] _
    refine st4 _ ?_
    show oS p e below T4 m 16 #[.val (.int pI1), .val (.int pI2), .val (.int (0 : Int32)), .val (.int (1 : Int32)), .unset, .unset, .unset] [(.ref pR3)] _
    refine XS.astore X4.here hx rfl (hb hby at_16) rfl rfl (l' := #[.val (.int pI1), .val (.int pI2), .val (.int (0 : Int32)), .val (.int (1 : Int32)), .val (.ref pR3), .unset, .unset]) rfl ?_
    show oS p e below T4 m 18 #[.val (.int pI1), .val (.int pI2), .val (.int (0 : Int32)), .val (.int (1 : Int32)), .val (.ref pR3), .unset, .unset] [] _
    refine XS.iloadN X4.here hx rfl (hb hby at_18) rfl ?_
    show oS p e below T4 m 19 #[.val (.int pI1), .val (.int pI2), .val (.int (0 : Int32)), .val (.int (1 : Int32)), .val (.ref pR3), .unset, .unset] [(.int (1 : Int32))] _
    refine st6 _ ?_
    show oS p e below T6 m 22 #[.val (.int pI1), .val (.int pI2), .val (.int (0 : Int32)), .val (.int (1 : Int32)), .val (.ref pR3), .unset, .unset] [(.ref pR5)] _
    refine XS.astore X6.here hx rfl (hb hby at_22) rfl rfl (l' := #[.val (.int pI1), .val (.int pI2), .val (.int (0 : Int32)), .val (.int (1 : Int32)), .val (.ref pR3), .val (.ref pR5), .unset]) rfl ?_
    show oS p e below T6 m 24 #[.val (.int pI1), .val (.int pI2), .val (.int (0 : Int32)), .val (.int (1 : Int32)), .val (.ref pR3), .val (.ref pR5), .unset] [] _
    refine XS.iloadN X6.here hx rfl (hb hby at_24) rfl ?_
    show oS p e below T6 m 25 #[.val (.int pI1), .val (.int pI2), .val (.int (0 : Int32)), .val (.int (1 : Int32)), .val (.ref pR3), .val (.ref pR5), .unset] [(.int (1 : Int32))] _
    refine XS.iloadN X6.here hx rfl (hb hby at_25) rfl ?_
    show oS p e below T6 m 26 #[.val (.int pI1), .val (.int pI2), .val (.int (0 : Int32)), .val (.int (1 : Int32)), .val (.ref pR3), .val (.ref pR5), .unset] [(.int (0 : Int32)), (.int (1 : Int32))] _
    refine st7 _ ?_
    show oS p e below T7 m 29 #[.val (.int pI1), .val (.int pI2), .val (.int (0 : Int32)), .val (.int (1 : Int32)), .val (.ref pR3), .val (.ref pR5), .unset] [(.int (1 : Int32)), (.int (1 : Int32))] _
    refine XS.icmpNo X7.here hx rfl (hb hby at_29) rfl (flt (by decide : ¬ ((1 : Int32) < (1 : Int32)))).1 ?_
    show oS p e below T7 m 32 #[.val (.int pI1), .val (.int pI2), .val (.int (0 : Int32)), .val (.int (1 : Int32)), .val (.ref pR3), .val (.ref pR5), .unset] [] _
    refine XS.iconst X7.here hx rfl (hb hby at_32) ?_
    show oS p e below T7 m 33 #[.val (.int pI1), .val (.int pI2), .val (.int (0 : Int32)), .val (.int (1 : Int32)), .val (.ref pR3), .val (.ref pR5), .unset] [(.int (1 : Int32))] _
    refine XS.goto X7.here hx rfl (pc0 := 33) (pc' := 37) rfl (hb hby at_33) (by decide) (by decide) ?_
    show oS p e below T7 m 37 #[.val (.int pI1), .val (.int pI2), .val (.int (0 : Int32)), .val (.int (1 : Int32)), .val (.ref pR3), .val (.ref pR5), .unset] [(.int (1 : Int32))] _
    refine XS.istore X7.here hx rfl (hb hby at_37) rfl (l' := #[.val (.int pI1), .val (.int pI2), .val (.int (0 : Int32)), .val (.int (1 : Int32)), .val (.ref pR3), .val (.ref pR5), .val (.int (1 : Int32))]) rfl ?_
    show oS p e below T7 m 39 #[.val (.int pI1), .val (.int pI2), .val (.int (0 : Int32)), .val (.int (1 : Int32)), .val (.ref pR3), .val (.ref pR5), .val (.int (1 : Int32))] [] _
    refine XS.aload X7.here hx rfl (hb hby at_39) rfl rfl ?_
    show oS p e below T7 m 41 #[.val (.int pI1), .val (.int pI2), .val (.int (0 : Int32)), .val (.int (1 : Int32)), .val (.ref pR3), .val (.ref pR5), .val (.int (1 : Int32))] [(.ref pR3)] _
    refine XS.aload X7.here hx rfl (hb hby at_41) rfl rfl ?_
    show oS p e below T7 m 43 #[.val (.int pI1), .val (.int pI2), .val (.int (0 : Int32)), .val (.int (1 : Int32)), .val (.ref pR3), .val (.ref pR5), .val (.int (1 : Int32))] [(.ref pR5), (.ref pR3)] _
    refine st11.trans ?_
    show oS p e below T11 m 46 #[.val (.int pI1), .val (.int pI2), .val (.int (0 : Int32)), .val (.int (1 : Int32)), .val (.ref pR3), .val (.ref pR5), .val (.int (1 : Int32))] [(.int (1 : Int32))] _
    refine XS.iload X11.here hx rfl (hb hby at_46) rfl ?_
    show oS p e below T11 m 48 #[.val (.int pI1), .val (.int pI2), .val (.int (0 : Int32)), .val (.int (1 : Int32)), .val (.ref pR3), .val (.ref pR5), .val (.int (1 : Int32))] [(.int (1 : Int32)), (.int (1 : Int32))] _
    refine XS.icmpNo X11.here hx rfl (hb hby at_48) rfl (teq (by decide : (1 : Int32) = (1 : Int32))).2 ?_
    show oS p e below T11 m 51 #[.val (.int pI1), .val (.int pI2), .val (.int (0 : Int32)), .val (.int (1 : Int32)), .val (.ref pR3), .val (.ref pR5), .val (.int (1 : Int32))] [] _
    refine XS.iconst X11.here hx rfl (hb hby at_51) ?_
    show oS p e below T11 m 52 #[.val (.int pI1), .val (.int pI2), .val (.int (0 : Int32)), .val (.int (1 : Int32)), .val (.ref pR3), .val (.ref pR5), .val (.int (1 : Int32))] [(.int (1 : Int32))] _
    refine XS.goto X11.here hx rfl (pc0 := 52) (pc' := 56) rfl (hb hby at_52) (by decide) (by decide) ?_
    show oS p e below T11 m 56 #[.val (.int pI1), .val (.int pI2), .val (.int (0 : Int32)), .val (.int (1 : Int32)), .val (.ref pR3), .val (.ref pR5), .val (.int (1 : Int32))] [(.int (1 : Int32))] _
    exact retN X11 hx (t := .boolean) Bd.returns (by simp) (hb hby at_56) hr
  · show Qlaw0_1 Z pI1 pI2 pR3 pR5 pI8 pR9 pI10 h0 n0 _ T11.heap _
    rw [e11]
    exact ⟨rfl, N11⟩
theorem ef_law0_2 (m : MethodId) (pI1 : Int32) (pI2 : Int32) : entryFrame m #[(.int pI1), (.int pI2)] maxLocals = mkF m 0 #[.val (.int pI1), .val (.int pI2), .unset, .unset, .unset, .unset, .unset] [] := by first | (simp [entryFrame, mkF, argsToLocals, Value.category, maxLocals]; done) | rfl
def Qlaw0_2 (Z : State) (pI1 : Int32) (pI2 : Int32) (pR3 : Addr) (pR5 : Addr) (pI8 : Int32) (pR9 : Addr) (pI10 : Int32) (h0 : Heap) (n0 : Nat) (v : Option Value) (h : Heap) (L : List Loc) : Prop := v = some (.int (1 : Int32)) ∧ Fr n0 L
set_option maxRecDepth 65536 in
set_option maxHeartbeats 40000000 in
theorem law0_2 (l : Launch) (Z : State) (a0 : Array Value) (hw : ∀ d ∈ tables_1, d.before a0 Z = true) (ws : List Jvm.Cond) (pI1 : Int32) (pI2 : Int32) (pR3 : Addr) (pR5 : Addr) (pI8 : Int32) (pR9 : Addr) (pI10 : Int32) (h0 : Heap) (n0 : Nat) (Z0 : n0 ≤ h0.size) (S_DocumentView_ORDERS : Sta Z h0 "com/example/willenhall/willenhall/external/DocumentView" "ORDERS" "Lcom/example/willenhall/willenhall/external/DocumentView;" (.ref pR3)) (S_ExternalRole_ORDERS_WITH_PRICES : Sta Z h0 "com/example/willenhall/willenhall/external/ExternalRole" "ORDERS_WITH_PRICES" "Lcom/example/willenhall/willenhall/external/ExternalRole;" (.ref pR5)) (F_ordinal_pR5 : Fld Z h0 pR5 "java/lang/Enum" "ordinal" "I" (.int pI8)) (E_pR5 : Exa Z h0 pR5 "com/example/willenhall/willenhall/external/ExternalRole") (F_lowestRole_pR3 : Fld Z h0 pR3 "com/example/willenhall/willenhall/external/DocumentView" "lowestRole" "Lcom/example/willenhall/willenhall/external/ExternalRole;" (.ref pR9)) (F_ordinal_pR9 : Fld Z h0 pR9 "java/lang/Enum" "ordinal" "I" (.int pI10)) (E_pR9 : Exa Z h0 pR9 "com/example/willenhall/willenhall/external/ExternalRole") (E_pR3 : Exa Z h0 pR3 "com/example/willenhall/willenhall/external/DocumentView") (hc2 : (pI1 &&& (3 : Int32)) = (0 : Int32)) (hc10 : ((pI2 &&& (2147483647 : Int32)) % (6 : Int32)) = (2 : Int32)) (hc43 : ¬ (pI8 < pI10)) :
    MetFree l x (head1 (Jvm.Cond.code x code maxLocals ret :: ws) room_1) (fun a U => a = #[(.int pI1), (.int pI2)] ∧ Z.Warmed39 U.vm ∧ U.heap = h0) (fun _ _ _ _ _ => True) (fun _ U o U' => ∃ v L, o = .returned v ∧ Qlaw0_2 Z pI1 pI2 pR3 pR5 pI8 pR9 pI10 h0 n0 v U'.heap L ∧ FrameEnd U o U' L room_1.cells room_1.slots) := by
  refine MetFree.of_bodySF (plainFor_of_name pn_0) hisR ?_
  intro p e s m args below meth c s₁ Bd hml0 hP hK
  obtain ⟨rfl, hZ, hh⟩ := hP
  have hx := Bd.exec
  have hby := Bd.bytes
  have hml : c.maxLocals = 7 := hml0
  have hown : s.vm.findClass "com/example/willenhall/willenhall/external/DocumentViewIsReachedByPinLaw" = some m.cls := findClass_of_methodNamed Bd.named
  have hnm := (name_of_methodNamed Bd.named Bd.method).1
  have X0 : Stand p l e room_1 s m #[(.int pI1), (.int pI2)] below meth c s₁ [] 0 0 := Stand.of_body Bd
  have e0 : s₁.heap = h0 := by rw [← hh, Bd.state]; rfl
  have N0 := Fr.nil n0
  have pre0 : ∀ t, Steps p.tables e below (s₁.setTop (mkF m 0 #[.val (.int pI1), .val (.int pI2), .unset, .unset, .unset, .unset, .unset] [])) t → Steps p.tables e below (s₁.setTop (entryFrame m #[(.int pI1), (.int pI2)] maxLocals)) t := fun t k => castTop (ef_law0_2 m pI1 pI2) k
  obtain ⟨_, _, ⟨T4, L4, k4, n4⟩, -, X4, ⟨Lc4, hQ4, l4, y4, z4⟩, st4⟩ := Jvm.LawKit.callS X0 hx (y := yN0) hown (mvT hZ (ow hw 1 rfl)) (mvT hZ (ow hw 2 rfl)) (mvT hZ (ow hw 3 rfl)) (mvT hZ (ow hw 4 rfl)) (by decide) (backOf (W := 0) (view0 l Z a0 hw [] pR3 h0 n0 Z0 S_DocumentView_ORDERS) hZ (ow hw 4 rfl) (ow hw 3 rfl) (by decide) (by decide)) (g := (mkF m 13 #[.val (.int pI1), .val (.int pI2), .val (.int (0 : Int32)), .val (.int (2 : Int32)), .unset, .unset, .unset] [(.int (0 : Int32))])) rfl (by rw [hml]; rfl) (argsL := [(.int (0 : Int32))]) (rest := []) (lenOf pd_1 rfl) rfl (by show 2 * 0 + _ ≤ _; exact Nat.le_of_eq rfl) (hb hby at_13) (fun _ _ => ⟨rfl, e0, (by decide : 0 + 0 ≤ _), (by decide : 0 + 0 ≤ _)⟩)
  dsimp only [Pt.U, Pt.locs, Pt.cells, Pt.slots] at X4 l4 y4 z4 st4 hQ4
  subst l4 y4 z4
  obtain ⟨rfl, Nq4, e4⟩ := hQ4
  have N4 := Fr.app N0 Nq4
  obtain ⟨_, _, ⟨T6, L6, k6, n6⟩, -, X6, ⟨Lc6, hQ6, l6, y6, z6⟩, st6⟩ := Jvm.LawKit.callS X4 hx (y := yN1) hown (mvT hZ (ow hw 8 rfl)) (mvT hZ (ow hw 9 rfl)) (mvT hZ (ow hw 3 rfl)) (mvT hZ (ow hw 10 rfl)) (by decide) (backOf (W := 0) (role2 l Z a0 hw [] pR5 h0 n0 Z0 S_ExternalRole_ORDERS_WITH_PRICES) hZ (ow hw 10 rfl) (ow hw 3 rfl) (by decide) (by decide)) (g := (mkF m 19 #[.val (.int pI1), .val (.int pI2), .val (.int (0 : Int32)), .val (.int (2 : Int32)), .val (.ref pR3), .unset, .unset] [(.int (2 : Int32))])) rfl (by rw [hml]; rfl) (argsL := [(.int (2 : Int32))]) (rest := []) (lenOf pd_2 rfl) rfl (by show 2 * 0 + _ ≤ _; exact Nat.le_of_eq rfl) (hb hby at_19) (fun _ _ => ⟨rfl, e4, (by decide : 0 + 0 ≤ _), (by decide : 0 + 0 ≤ _)⟩)
  dsimp only [Pt.U, Pt.locs, Pt.cells, Pt.slots] at X6 l6 y6 z6 st6 hQ6
  subst l6 y6 z6
  obtain ⟨rfl, Nq6, e6⟩ := hQ6
  have N6 := Fr.app N4 Nq6
  obtain ⟨_, _, ⟨T7, L7, k7, n7⟩, -, X7, ⟨Lc7, hQ7, l7, y7, z7⟩, st7⟩ := Jvm.LawKit.callS X6 hx (y := yN2) hown (mvT hZ (ow hw 14 rfl)) (mvT hZ (ow hw 15 rfl)) (mvT hZ (ow hw 3 rfl)) (mvT hZ (ow hw 16 rfl)) (by decide) (backOf (W := 1) (lowest0 l Z a0 hw []  h0 n0 Z0 ) hZ (ow hw 16 rfl) (ow hw 3 rfl) (by decide) (by decide)) (g := (mkF m 26 #[.val (.int pI1), .val (.int pI2), .val (.int (0 : Int32)), .val (.int (2 : Int32)), .val (.ref pR3), .val (.ref pR5), .unset] [(.int (0 : Int32)), (.int (2 : Int32))])) rfl (by rw [hml]; rfl) (argsL := [(.int (0 : Int32))]) (rest := [(.int (2 : Int32))]) (lenOf pd_3 rfl) rfl (by show 2 * 0 + _ ≤ _; exact Nat.le_of_eq rfl) (hb hby at_26) (fun _ _ => ⟨rfl, e6, (by decide : 0 + 0 ≤ _), (by decide : 0 + 0 ≤ _)⟩)
  dsimp only [Pt.U, Pt.locs, Pt.cells, Pt.slots] at X7 l7 y7 z7 st7 hQ7
  subst l7 y7 z7
  obtain ⟨rfl, Nq7, e7⟩ := hQ7
  have N7 := Fr.app N6 Nq7
  obtain ⟨cq11, kq11, q11a, q11b, q11c⟩ := isOf hZ e7 E_pR3
  obtain ⟨_, _, ⟨T11, L11, k11, n11⟩, -, X11, ⟨Lc11, hQ11, l11, y11, z11⟩, st11⟩ := X7.virtualBack hx (y := yN6) (z := yN6) hown (mvT hZ (ow hw 17 rfl)) (mvT hZ (ow hw 18 rfl)) (notFace_of_selects (args := #[]) (mvT hZ (ow hw 20 rfl))) (mvT hZ (ow hw 20 rfl)) (mvT hZ (ow hw 19 rfl)) (by decide) (backOf (W := 0) (irbY l Z a0 hw [] pR3 pR5 pI8 pR9 pI10 h0 n0 Z0 F_ordinal_pR5 E_pR5 F_lowestRole_pR3 F_ordinal_pR9 E_pR9 hc43) hZ (ow hw 21 rfl) (ow hw 6 rfl) (by decide) (by decide)) q11a q11c (g := (mkF m 43 #[.val (.int pI1), .val (.int pI2), .val (.int (0 : Int32)), .val (.int (2 : Int32)), .val (.ref pR3), .val (.ref pR5), .val (.int (1 : Int32))] [(.ref pR5), (.ref pR3)])) rfl (by rw [hml]; rfl) (Steps.refl _) (argsL := [(.ref pR5)]) (rest := []) (lenOf pd_4 rfl) rfl (by show 2 * 0 + _ ≤ _; exact Nat.le_of_eq rfl) (hb hby at_43) (fun _ _ => ⟨rfl, e7, (by decide : 0 + 0 ≤ _), (by decide : 0 + 0 ≤ _)⟩)
  dsimp only [Pt.U, Pt.locs, Pt.cells, Pt.slots] at X11 l11 y11 z11 st11 hQ11
  subst l11 y11 z11
  obtain ⟨rfl, Nq11, e11⟩ := hQ11
  have N11 := Fr.app N7 Nq11
  obtain ⟨fs, hr, hrun, hended, hW, hsame⟩ := X11.leave (v := some (.int (1 : Int32))) (fun h => by rw [Bd.returns] at h; cases h)
  refine ⟨_, _, pre0 _ ?_, hrun, hended, _, _, rfl, ?_, ⟨_, rfl⟩, hW, hsame.mono (by decide) (by decide)⟩
  · show oS p e below s₁ m 0 #[.val (.int pI1), .val (.int pI2), .unset, .unset, .unset, .unset, .unset] [] _
    refine XS.iloadN X0.here hx rfl (hb hby at_0) rfl ?_
    show oS p e below s₁ m 1 #[.val (.int pI1), .val (.int pI2), .unset, .unset, .unset, .unset, .unset] [(.int pI1)] _
    refine XS.iconst X0.here hx rfl (hb hby at_1) ?_
    show oS p e below s₁ m 2 #[.val (.int pI1), .val (.int pI2), .unset, .unset, .unset, .unset, .unset] [(.int (3 : Int32)), (.int pI1)] _
    refine XS.iand X0.here hx rfl (hb hby at_2) rfl ?_
    show Steps p.tables e below (s₁.setTop (mkF m 3 #[.val (.int pI1), .val (.int pI2), .unset, .unset, .unset, .unset, .unset] [(.int (pI1 &&& (3 : Int32)))])) _
    rw [hc2]
    show oS p e below s₁ m 3 #[.val (.int pI1), .val (.int pI2), .unset, .unset, .unset, .unset, .unset] [(.int (0 : Int32))] _
    refine XS.istoreN X0.here hx rfl (hb hby at_3) rfl (l' := #[.val (.int pI1), .val (.int pI2), .val (.int (0 : Int32)), .unset, .unset, .unset, .unset]) rfl ?_
    show oS p e below s₁ m 4 #[.val (.int pI1), .val (.int pI2), .val (.int (0 : Int32)), .unset, .unset, .unset, .unset] [] _
    refine XS.iloadN X0.here hx rfl (hb hby at_4) rfl ?_
    show oS p e below s₁ m 5 #[.val (.int pI1), .val (.int pI2), .val (.int (0 : Int32)), .unset, .unset, .unset, .unset] [(.int pI2)] _
    refine X0.ldcInt hx hown (mvT hZ (ow hw 0 rfl)) (g := (mkF m 5 #[.val (.int pI1), .val (.int pI2), .val (.int (0 : Int32)), .unset, .unset, .unset, .unset] [(.int pI2)])) rfl (hb hby at_5) _ ?_
    show oS p e below s₁ m 7 #[.val (.int pI1), .val (.int pI2), .val (.int (0 : Int32)), .unset, .unset, .unset, .unset] [(.int (2147483647 : Int32)), (.int pI2)] _
    refine XS.iand X0.here hx rfl (hb hby at_7) rfl ?_
    show oS p e below s₁ m 8 #[.val (.int pI1), .val (.int pI2), .val (.int (0 : Int32)), .unset, .unset, .unset, .unset] [(.int (pI2 &&& (2147483647 : Int32)))] _
    refine XS.bipush X0.here hx rfl (hb hby at_8) ?_
    show oS p e below s₁ m 10 #[.val (.int pI1), .val (.int pI2), .val (.int (0 : Int32)), .unset, .unset, .unset, .unset] [(.int (6 : Int32)), (.int (pI2 &&& (2147483647 : Int32)))] _
    refine iremM (g := (mkF m 10 #[.val (.int pI1), .val (.int pI2), .val (.int (0 : Int32)), .unset, .unset, .unset, .unset] [(.int (6 : Int32)), (.int (pI2 &&& (2147483647 : Int32)))])) X0 hx rfl (hb hby at_10) rfl (by decide) ?_
    show Steps p.tables e below (s₁.setTop (mkF m 11 #[.val (.int pI1), .val (.int pI2), .val (.int (0 : Int32)), .unset, .unset, .unset, .unset] [(.int ((pI2 &&& (2147483647 : Int32)) % (6 : Int32)))])) _
    rw [hc10]
    show oS p e below s₁ m 11 #[.val (.int pI1), .val (.int pI2), .val (.int (0 : Int32)), .unset, .unset, .unset, .unset] [(.int (2 : Int32))] _
    refine XS.istoreN X0.here hx rfl (hb hby at_11) rfl (l' := #[.val (.int pI1), .val (.int pI2), .val (.int (0 : Int32)), .val (.int (2 : Int32)), .unset, .unset, .unset]) rfl ?_
    show oS p e below s₁ m 12 #[.val (.int pI1), .val (.int pI2), .val (.int (0 : Int32)), .val (.int (2 : Int32)), .unset, .unset, .unset] [] _
    refine XS.iloadN X0.here hx rfl (hb hby at_12) rfl ?_
    show oS p e below s₁ m 13 #[.val (.int pI1), .val (.int pI2), .val (.int (0 : Int32)), .val (.int (2 : Int32)), .unset, .unset, .unset] [(.int (0 : Int32))] _
    refine st4 _ ?_
    show oS p e below T4 m 16 #[.val (.int pI1), .val (.int pI2), .val (.int (0 : Int32)), .val (.int (2 : Int32)), .unset, .unset, .unset] [(.ref pR3)] _
    refine XS.astore X4.here hx rfl (hb hby at_16) rfl rfl (l' := #[.val (.int pI1), .val (.int pI2), .val (.int (0 : Int32)), .val (.int (2 : Int32)), .val (.ref pR3), .unset, .unset]) rfl ?_
    show oS p e below T4 m 18 #[.val (.int pI1), .val (.int pI2), .val (.int (0 : Int32)), .val (.int (2 : Int32)), .val (.ref pR3), .unset, .unset] [] _
    refine XS.iloadN X4.here hx rfl (hb hby at_18) rfl ?_
    show oS p e below T4 m 19 #[.val (.int pI1), .val (.int pI2), .val (.int (0 : Int32)), .val (.int (2 : Int32)), .val (.ref pR3), .unset, .unset] [(.int (2 : Int32))] _
    refine st6 _ ?_
    show oS p e below T6 m 22 #[.val (.int pI1), .val (.int pI2), .val (.int (0 : Int32)), .val (.int (2 : Int32)), .val (.ref pR3), .unset, .unset] [(.ref pR5)] _
    refine XS.astore X6.here hx rfl (hb hby at_22) rfl rfl (l' := #[.val (.int pI1), .val (.int pI2), .val (.int (0 : Int32)), .val (.int (2 : Int32)), .val (.ref pR3), .val (.ref pR5), .unset]) rfl ?_
    show oS p e below T6 m 24 #[.val (.int pI1), .val (.int pI2), .val (.int (0 : Int32)), .val (.int (2 : Int32)), .val (.ref pR3), .val (.ref pR5), .unset] [] _
    refine XS.iloadN X6.here hx rfl (hb hby at_24) rfl ?_
    show oS p e below T6 m 25 #[.val (.int pI1), .val (.int pI2), .val (.int (0 : Int32)), .val (.int (2 : Int32)), .val (.ref pR3), .val (.ref pR5), .unset] [(.int (2 : Int32))] _
    refine XS.iloadN X6.here hx rfl (hb hby at_25) rfl ?_
    show oS p e below T6 m 26 #[.val (.int pI1), .val (.int pI2), .val (.int (0 : Int32)), .val (.int (2 : Int32)), .val (.ref pR3), .val (.ref pR5), .unset] [(.int (0 : Int32)), (.int (2 : Int32))] _
    refine st7 _ ?_
    show oS p e below T7 m 29 #[.val (.int pI1), .val (.int pI2), .val (.int (0 : Int32)), .val (.int (2 : Int32)), .val (.ref pR3), .val (.ref pR5), .unset] [(.int (1 : Int32)), (.int (2 : Int32))] _
    refine XS.icmpNo X7.here hx rfl (hb hby at_29) rfl (flt (by decide : ¬ ((2 : Int32) < (1 : Int32)))).1 ?_
    show oS p e below T7 m 32 #[.val (.int pI1), .val (.int pI2), .val (.int (0 : Int32)), .val (.int (2 : Int32)), .val (.ref pR3), .val (.ref pR5), .unset] [] _
    refine XS.iconst X7.here hx rfl (hb hby at_32) ?_
    show oS p e below T7 m 33 #[.val (.int pI1), .val (.int pI2), .val (.int (0 : Int32)), .val (.int (2 : Int32)), .val (.ref pR3), .val (.ref pR5), .unset] [(.int (1 : Int32))] _
    refine XS.goto X7.here hx rfl (pc0 := 33) (pc' := 37) rfl (hb hby at_33) (by decide) (by decide) ?_
    show oS p e below T7 m 37 #[.val (.int pI1), .val (.int pI2), .val (.int (0 : Int32)), .val (.int (2 : Int32)), .val (.ref pR3), .val (.ref pR5), .unset] [(.int (1 : Int32))] _
    refine XS.istore X7.here hx rfl (hb hby at_37) rfl (l' := #[.val (.int pI1), .val (.int pI2), .val (.int (0 : Int32)), .val (.int (2 : Int32)), .val (.ref pR3), .val (.ref pR5), .val (.int (1 : Int32))]) rfl ?_
    show oS p e below T7 m 39 #[.val (.int pI1), .val (.int pI2), .val (.int (0 : Int32)), .val (.int (2 : Int32)), .val (.ref pR3), .val (.ref pR5), .val (.int (1 : Int32))] [] _
    refine XS.aload X7.here hx rfl (hb hby at_39) rfl rfl ?_
    show oS p e below T7 m 41 #[.val (.int pI1), .val (.int pI2), .val (.int (0 : Int32)), .val (.int (2 : Int32)), .val (.ref pR3), .val (.ref pR5), .val (.int (1 : Int32))] [(.ref pR3)] _
    refine XS.aload X7.here hx rfl (hb hby at_41) rfl rfl ?_
    show oS p e below T7 m 43 #[.val (.int pI1), .val (.int pI2), .val (.int (0 : Int32)), .val (.int (2 : Int32)), .val (.ref pR3), .val (.ref pR5), .val (.int (1 : Int32))] [(.ref pR5), (.ref pR3)] _
    refine st11.trans ?_
    show oS p e below T11 m 46 #[.val (.int pI1), .val (.int pI2), .val (.int (0 : Int32)), .val (.int (2 : Int32)), .val (.ref pR3), .val (.ref pR5), .val (.int (1 : Int32))] [(.int (1 : Int32))] _
    refine XS.iload X11.here hx rfl (hb hby at_46) rfl ?_
    show oS p e below T11 m 48 #[.val (.int pI1), .val (.int pI2), .val (.int (0 : Int32)), .val (.int (2 : Int32)), .val (.ref pR3), .val (.ref pR5), .val (.int (1 : Int32))] [(.int (1 : Int32)), (.int (1 : Int32))] _
    refine XS.icmpNo X11.here hx rfl (hb hby at_48) rfl (teq (by decide : (1 : Int32) = (1 : Int32))).2 ?_
    show oS p e below T11 m 51 #[.val (.int pI1), .val (.int pI2), .val (.int (0 : Int32)), .val (.int (2 : Int32)), .val (.ref pR3), .val (.ref pR5), .val (.int (1 : Int32))] [] _
    refine XS.iconst X11.here hx rfl (hb hby at_51) ?_
    show oS p e below T11 m 52 #[.val (.int pI1), .val (.int pI2), .val (.int (0 : Int32)), .val (.int (2 : Int32)), .val (.ref pR3), .val (.ref pR5), .val (.int (1 : Int32))] [(.int (1 : Int32))] _
    refine XS.goto X11.here hx rfl (pc0 := 52) (pc' := 56) rfl (hb hby at_52) (by decide) (by decide) ?_
    show oS p e below T11 m 56 #[.val (.int pI1), .val (.int pI2), .val (.int (0 : Int32)), .val (.int (2 : Int32)), .val (.ref pR3), .val (.ref pR5), .val (.int (1 : Int32))] [(.int (1 : Int32))] _
    exact retN X11 hx (t := .boolean) Bd.returns (by simp) (hb hby at_56) hr
  · show Qlaw0_2 Z pI1 pI2 pR3 pR5 pI8 pR9 pI10 h0 n0 _ T11.heap _
    rw [e11]
    exact ⟨rfl, N11⟩
theorem ef_law0_3 (m : MethodId) (pI1 : Int32) (pI2 : Int32) : entryFrame m #[(.int pI1), (.int pI2)] maxLocals = mkF m 0 #[.val (.int pI1), .val (.int pI2), .unset, .unset, .unset, .unset, .unset] [] := by first | (simp [entryFrame, mkF, argsToLocals, Value.category, maxLocals]; done) | rfl
def Qlaw0_3 (Z : State) (pI1 : Int32) (pI2 : Int32) (pR3 : Addr) (pR5 : Addr) (pI8 : Int32) (pR9 : Addr) (pI10 : Int32) (h0 : Heap) (n0 : Nat) (v : Option Value) (h : Heap) (L : List Loc) : Prop := v = some (.int (1 : Int32)) ∧ Fr n0 L
set_option maxRecDepth 65536 in
set_option maxHeartbeats 40000000 in
theorem law0_3 (l : Launch) (Z : State) (a0 : Array Value) (hw : ∀ d ∈ tables_1, d.before a0 Z = true) (ws : List Jvm.Cond) (pI1 : Int32) (pI2 : Int32) (pR3 : Addr) (pR5 : Addr) (pI8 : Int32) (pR9 : Addr) (pI10 : Int32) (h0 : Heap) (n0 : Nat) (Z0 : n0 ≤ h0.size) (S_DocumentView_ORDERS : Sta Z h0 "com/example/willenhall/willenhall/external/DocumentView" "ORDERS" "Lcom/example/willenhall/willenhall/external/DocumentView;" (.ref pR3)) (S_ExternalRole_BILLING : Sta Z h0 "com/example/willenhall/willenhall/external/ExternalRole" "BILLING" "Lcom/example/willenhall/willenhall/external/ExternalRole;" (.ref pR5)) (F_ordinal_pR5 : Fld Z h0 pR5 "java/lang/Enum" "ordinal" "I" (.int pI8)) (E_pR5 : Exa Z h0 pR5 "com/example/willenhall/willenhall/external/ExternalRole") (F_lowestRole_pR3 : Fld Z h0 pR3 "com/example/willenhall/willenhall/external/DocumentView" "lowestRole" "Lcom/example/willenhall/willenhall/external/ExternalRole;" (.ref pR9)) (F_ordinal_pR9 : Fld Z h0 pR9 "java/lang/Enum" "ordinal" "I" (.int pI10)) (E_pR9 : Exa Z h0 pR9 "com/example/willenhall/willenhall/external/ExternalRole") (E_pR3 : Exa Z h0 pR3 "com/example/willenhall/willenhall/external/DocumentView") (hc2 : (pI1 &&& (3 : Int32)) = (0 : Int32)) (hc10 : ((pI2 &&& (2147483647 : Int32)) % (6 : Int32)) = (3 : Int32)) (hc43 : ¬ (pI8 < pI10)) :
    MetFree l x (head1 (Jvm.Cond.code x code maxLocals ret :: ws) room_1) (fun a U => a = #[(.int pI1), (.int pI2)] ∧ Z.Warmed39 U.vm ∧ U.heap = h0) (fun _ _ _ _ _ => True) (fun _ U o U' => ∃ v L, o = .returned v ∧ Qlaw0_3 Z pI1 pI2 pR3 pR5 pI8 pR9 pI10 h0 n0 v U'.heap L ∧ FrameEnd U o U' L room_1.cells room_1.slots) := by
  refine MetFree.of_bodySF (plainFor_of_name pn_0) hisR ?_
  intro p e s m args below meth c s₁ Bd hml0 hP hK
  obtain ⟨rfl, hZ, hh⟩ := hP
  have hx := Bd.exec
  have hby := Bd.bytes
  have hml : c.maxLocals = 7 := hml0
  have hown : s.vm.findClass "com/example/willenhall/willenhall/external/DocumentViewIsReachedByPinLaw" = some m.cls := findClass_of_methodNamed Bd.named
  have hnm := (name_of_methodNamed Bd.named Bd.method).1
  have X0 : Stand p l e room_1 s m #[(.int pI1), (.int pI2)] below meth c s₁ [] 0 0 := Stand.of_body Bd
  have e0 : s₁.heap = h0 := by rw [← hh, Bd.state]; rfl
  have N0 := Fr.nil n0
  have pre0 : ∀ t, Steps p.tables e below (s₁.setTop (mkF m 0 #[.val (.int pI1), .val (.int pI2), .unset, .unset, .unset, .unset, .unset] [])) t → Steps p.tables e below (s₁.setTop (entryFrame m #[(.int pI1), (.int pI2)] maxLocals)) t := fun t k => castTop (ef_law0_3 m pI1 pI2) k
  obtain ⟨_, _, ⟨T4, L4, k4, n4⟩, -, X4, ⟨Lc4, hQ4, l4, y4, z4⟩, st4⟩ := Jvm.LawKit.callS X0 hx (y := yN0) hown (mvT hZ (ow hw 1 rfl)) (mvT hZ (ow hw 2 rfl)) (mvT hZ (ow hw 3 rfl)) (mvT hZ (ow hw 4 rfl)) (by decide) (backOf (W := 0) (view0 l Z a0 hw [] pR3 h0 n0 Z0 S_DocumentView_ORDERS) hZ (ow hw 4 rfl) (ow hw 3 rfl) (by decide) (by decide)) (g := (mkF m 13 #[.val (.int pI1), .val (.int pI2), .val (.int (0 : Int32)), .val (.int (3 : Int32)), .unset, .unset, .unset] [(.int (0 : Int32))])) rfl (by rw [hml]; rfl) (argsL := [(.int (0 : Int32))]) (rest := []) (lenOf pd_1 rfl) rfl (by show 2 * 0 + _ ≤ _; exact Nat.le_of_eq rfl) (hb hby at_13) (fun _ _ => ⟨rfl, e0, (by decide : 0 + 0 ≤ _), (by decide : 0 + 0 ≤ _)⟩)
  dsimp only [Pt.U, Pt.locs, Pt.cells, Pt.slots] at X4 l4 y4 z4 st4 hQ4
  subst l4 y4 z4
  obtain ⟨rfl, Nq4, e4⟩ := hQ4
  have N4 := Fr.app N0 Nq4
  obtain ⟨_, _, ⟨T6, L6, k6, n6⟩, -, X6, ⟨Lc6, hQ6, l6, y6, z6⟩, st6⟩ := Jvm.LawKit.callS X4 hx (y := yN1) hown (mvT hZ (ow hw 8 rfl)) (mvT hZ (ow hw 9 rfl)) (mvT hZ (ow hw 3 rfl)) (mvT hZ (ow hw 10 rfl)) (by decide) (backOf (W := 0) (role3 l Z a0 hw [] pR5 h0 n0 Z0 S_ExternalRole_BILLING) hZ (ow hw 10 rfl) (ow hw 3 rfl) (by decide) (by decide)) (g := (mkF m 19 #[.val (.int pI1), .val (.int pI2), .val (.int (0 : Int32)), .val (.int (3 : Int32)), .val (.ref pR3), .unset, .unset] [(.int (3 : Int32))])) rfl (by rw [hml]; rfl) (argsL := [(.int (3 : Int32))]) (rest := []) (lenOf pd_2 rfl) rfl (by show 2 * 0 + _ ≤ _; exact Nat.le_of_eq rfl) (hb hby at_19) (fun _ _ => ⟨rfl, e4, (by decide : 0 + 0 ≤ _), (by decide : 0 + 0 ≤ _)⟩)
  dsimp only [Pt.U, Pt.locs, Pt.cells, Pt.slots] at X6 l6 y6 z6 st6 hQ6
  subst l6 y6 z6
  obtain ⟨rfl, Nq6, e6⟩ := hQ6
  have N6 := Fr.app N4 Nq6
  obtain ⟨_, _, ⟨T7, L7, k7, n7⟩, -, X7, ⟨Lc7, hQ7, l7, y7, z7⟩, st7⟩ := Jvm.LawKit.callS X6 hx (y := yN2) hown (mvT hZ (ow hw 14 rfl)) (mvT hZ (ow hw 15 rfl)) (mvT hZ (ow hw 3 rfl)) (mvT hZ (ow hw 16 rfl)) (by decide) (backOf (W := 1) (lowest0 l Z a0 hw []  h0 n0 Z0 ) hZ (ow hw 16 rfl) (ow hw 3 rfl) (by decide) (by decide)) (g := (mkF m 26 #[.val (.int pI1), .val (.int pI2), .val (.int (0 : Int32)), .val (.int (3 : Int32)), .val (.ref pR3), .val (.ref pR5), .unset] [(.int (0 : Int32)), (.int (3 : Int32))])) rfl (by rw [hml]; rfl) (argsL := [(.int (0 : Int32))]) (rest := [(.int (3 : Int32))]) (lenOf pd_3 rfl) rfl (by show 2 * 0 + _ ≤ _; exact Nat.le_of_eq rfl) (hb hby at_26) (fun _ _ => ⟨rfl, e6, (by decide : 0 + 0 ≤ _), (by decide : 0 + 0 ≤ _)⟩)
  dsimp only [Pt.U, Pt.locs, Pt.cells, Pt.slots] at X7 l7 y7 z7 st7 hQ7
  subst l7 y7 z7
  obtain ⟨rfl, Nq7, e7⟩ := hQ7
  have N7 := Fr.app N6 Nq7
  obtain ⟨cq11, kq11, q11a, q11b, q11c⟩ := isOf hZ e7 E_pR3
  obtain ⟨_, _, ⟨T11, L11, k11, n11⟩, -, X11, ⟨Lc11, hQ11, l11, y11, z11⟩, st11⟩ := X7.virtualBack hx (y := yN6) (z := yN6) hown (mvT hZ (ow hw 17 rfl)) (mvT hZ (ow hw 18 rfl)) (notFace_of_selects (args := #[]) (mvT hZ (ow hw 20 rfl))) (mvT hZ (ow hw 20 rfl)) (mvT hZ (ow hw 19 rfl)) (by decide) (backOf (W := 0) (irbY l Z a0 hw [] pR3 pR5 pI8 pR9 pI10 h0 n0 Z0 F_ordinal_pR5 E_pR5 F_lowestRole_pR3 F_ordinal_pR9 E_pR9 hc43) hZ (ow hw 21 rfl) (ow hw 6 rfl) (by decide) (by decide)) q11a q11c (g := (mkF m 43 #[.val (.int pI1), .val (.int pI2), .val (.int (0 : Int32)), .val (.int (3 : Int32)), .val (.ref pR3), .val (.ref pR5), .val (.int (1 : Int32))] [(.ref pR5), (.ref pR3)])) rfl (by rw [hml]; rfl) (Steps.refl _) (argsL := [(.ref pR5)]) (rest := []) (lenOf pd_4 rfl) rfl (by show 2 * 0 + _ ≤ _; exact Nat.le_of_eq rfl) (hb hby at_43) (fun _ _ => ⟨rfl, e7, (by decide : 0 + 0 ≤ _), (by decide : 0 + 0 ≤ _)⟩)
  dsimp only [Pt.U, Pt.locs, Pt.cells, Pt.slots] at X11 l11 y11 z11 st11 hQ11
  subst l11 y11 z11
  obtain ⟨rfl, Nq11, e11⟩ := hQ11
  have N11 := Fr.app N7 Nq11
  obtain ⟨fs, hr, hrun, hended, hW, hsame⟩ := X11.leave (v := some (.int (1 : Int32))) (fun h => by rw [Bd.returns] at h; cases h)
  refine ⟨_, _, pre0 _ ?_, hrun, hended, _, _, rfl, ?_, ⟨_, rfl⟩, hW, hsame.mono (by decide) (by decide)⟩
  · show oS p e below s₁ m 0 #[.val (.int pI1), .val (.int pI2), .unset, .unset, .unset, .unset, .unset] [] _
    refine XS.iloadN X0.here hx rfl (hb hby at_0) rfl ?_
    show oS p e below s₁ m 1 #[.val (.int pI1), .val (.int pI2), .unset, .unset, .unset, .unset, .unset] [(.int pI1)] _
    refine XS.iconst X0.here hx rfl (hb hby at_1) ?_
    show oS p e below s₁ m 2 #[.val (.int pI1), .val (.int pI2), .unset, .unset, .unset, .unset, .unset] [(.int (3 : Int32)), (.int pI1)] _
    refine XS.iand X0.here hx rfl (hb hby at_2) rfl ?_
    show Steps p.tables e below (s₁.setTop (mkF m 3 #[.val (.int pI1), .val (.int pI2), .unset, .unset, .unset, .unset, .unset] [(.int (pI1 &&& (3 : Int32)))])) _
    rw [hc2]
    show oS p e below s₁ m 3 #[.val (.int pI1), .val (.int pI2), .unset, .unset, .unset, .unset, .unset] [(.int (0 : Int32))] _
    refine XS.istoreN X0.here hx rfl (hb hby at_3) rfl (l' := #[.val (.int pI1), .val (.int pI2), .val (.int (0 : Int32)), .unset, .unset, .unset, .unset]) rfl ?_
    show oS p e below s₁ m 4 #[.val (.int pI1), .val (.int pI2), .val (.int (0 : Int32)), .unset, .unset, .unset, .unset] [] _
    refine XS.iloadN X0.here hx rfl (hb hby at_4) rfl ?_
    show oS p e below s₁ m 5 #[.val (.int pI1), .val (.int pI2), .val (.int (0 : Int32)), .unset, .unset, .unset, .unset] [(.int pI2)] _
    refine X0.ldcInt hx hown (mvT hZ (ow hw 0 rfl)) (g := (mkF m 5 #[.val (.int pI1), .val (.int pI2), .val (.int (0 : Int32)), .unset, .unset, .unset, .unset] [(.int pI2)])) rfl (hb hby at_5) _ ?_
    show oS p e below s₁ m 7 #[.val (.int pI1), .val (.int pI2), .val (.int (0 : Int32)), .unset, .unset, .unset, .unset] [(.int (2147483647 : Int32)), (.int pI2)] _
    refine XS.iand X0.here hx rfl (hb hby at_7) rfl ?_
    show oS p e below s₁ m 8 #[.val (.int pI1), .val (.int pI2), .val (.int (0 : Int32)), .unset, .unset, .unset, .unset] [(.int (pI2 &&& (2147483647 : Int32)))] _
    refine XS.bipush X0.here hx rfl (hb hby at_8) ?_
    show oS p e below s₁ m 10 #[.val (.int pI1), .val (.int pI2), .val (.int (0 : Int32)), .unset, .unset, .unset, .unset] [(.int (6 : Int32)), (.int (pI2 &&& (2147483647 : Int32)))] _
    refine iremM (g := (mkF m 10 #[.val (.int pI1), .val (.int pI2), .val (.int (0 : Int32)), .unset, .unset, .unset, .unset] [(.int (6 : Int32)), (.int (pI2 &&& (2147483647 : Int32)))])) X0 hx rfl (hb hby at_10) rfl (by decide) ?_
    show Steps p.tables e below (s₁.setTop (mkF m 11 #[.val (.int pI1), .val (.int pI2), .val (.int (0 : Int32)), .unset, .unset, .unset, .unset] [(.int ((pI2 &&& (2147483647 : Int32)) % (6 : Int32)))])) _
    rw [hc10]
    show oS p e below s₁ m 11 #[.val (.int pI1), .val (.int pI2), .val (.int (0 : Int32)), .unset, .unset, .unset, .unset] [(.int (3 : Int32))] _
    refine XS.istoreN X0.here hx rfl (hb hby at_11) rfl (l' := #[.val (.int pI1), .val (.int pI2), .val (.int (0 : Int32)), .val (.int (3 : Int32)), .unset, .unset, .unset]) rfl ?_
    show oS p e below s₁ m 12 #[.val (.int pI1), .val (.int pI2), .val (.int (0 : Int32)), .val (.int (3 : Int32)), .unset, .unset, .unset] [] _
    refine XS.iloadN X0.here hx rfl (hb hby at_12) rfl ?_
    show oS p e below s₁ m 13 #[.val (.int pI1), .val (.int pI2), .val (.int (0 : Int32)), .val (.int (3 : Int32)), .unset, .unset, .unset] [(.int (0 : Int32))] _
    refine st4 _ ?_
    show oS p e below T4 m 16 #[.val (.int pI1), .val (.int pI2), .val (.int (0 : Int32)), .val (.int (3 : Int32)), .unset, .unset, .unset] [(.ref pR3)] _
    refine XS.astore X4.here hx rfl (hb hby at_16) rfl rfl (l' := #[.val (.int pI1), .val (.int pI2), .val (.int (0 : Int32)), .val (.int (3 : Int32)), .val (.ref pR3), .unset, .unset]) rfl ?_
    show oS p e below T4 m 18 #[.val (.int pI1), .val (.int pI2), .val (.int (0 : Int32)), .val (.int (3 : Int32)), .val (.ref pR3), .unset, .unset] [] _
    refine XS.iloadN X4.here hx rfl (hb hby at_18) rfl ?_
    show oS p e below T4 m 19 #[.val (.int pI1), .val (.int pI2), .val (.int (0 : Int32)), .val (.int (3 : Int32)), .val (.ref pR3), .unset, .unset] [(.int (3 : Int32))] _
    refine st6 _ ?_
    show oS p e below T6 m 22 #[.val (.int pI1), .val (.int pI2), .val (.int (0 : Int32)), .val (.int (3 : Int32)), .val (.ref pR3), .unset, .unset] [(.ref pR5)] _
    refine XS.astore X6.here hx rfl (hb hby at_22) rfl rfl (l' := #[.val (.int pI1), .val (.int pI2), .val (.int (0 : Int32)), .val (.int (3 : Int32)), .val (.ref pR3), .val (.ref pR5), .unset]) rfl ?_
    show oS p e below T6 m 24 #[.val (.int pI1), .val (.int pI2), .val (.int (0 : Int32)), .val (.int (3 : Int32)), .val (.ref pR3), .val (.ref pR5), .unset] [] _
    refine XS.iloadN X6.here hx rfl (hb hby at_24) rfl ?_
    show oS p e below T6 m 25 #[.val (.int pI1), .val (.int pI2), .val (.int (0 : Int32)), .val (.int (3 : Int32)), .val (.ref pR3), .val (.ref pR5), .unset] [(.int (3 : Int32))] _
    refine XS.iloadN X6.here hx rfl (hb hby at_25) rfl ?_
    show oS p e below T6 m 26 #[.val (.int pI1), .val (.int pI2), .val (.int (0 : Int32)), .val (.int (3 : Int32)), .val (.ref pR3), .val (.ref pR5), .unset] [(.int (0 : Int32)), (.int (3 : Int32))] _
    refine st7 _ ?_
    show oS p e below T7 m 29 #[.val (.int pI1), .val (.int pI2), .val (.int (0 : Int32)), .val (.int (3 : Int32)), .val (.ref pR3), .val (.ref pR5), .unset] [(.int (1 : Int32)), (.int (3 : Int32))] _
    refine XS.icmpNo X7.here hx rfl (hb hby at_29) rfl (flt (by decide : ¬ ((3 : Int32) < (1 : Int32)))).1 ?_
    show oS p e below T7 m 32 #[.val (.int pI1), .val (.int pI2), .val (.int (0 : Int32)), .val (.int (3 : Int32)), .val (.ref pR3), .val (.ref pR5), .unset] [] _
    refine XS.iconst X7.here hx rfl (hb hby at_32) ?_
    show oS p e below T7 m 33 #[.val (.int pI1), .val (.int pI2), .val (.int (0 : Int32)), .val (.int (3 : Int32)), .val (.ref pR3), .val (.ref pR5), .unset] [(.int (1 : Int32))] _
    refine XS.goto X7.here hx rfl (pc0 := 33) (pc' := 37) rfl (hb hby at_33) (by decide) (by decide) ?_
    show oS p e below T7 m 37 #[.val (.int pI1), .val (.int pI2), .val (.int (0 : Int32)), .val (.int (3 : Int32)), .val (.ref pR3), .val (.ref pR5), .unset] [(.int (1 : Int32))] _
    refine XS.istore X7.here hx rfl (hb hby at_37) rfl (l' := #[.val (.int pI1), .val (.int pI2), .val (.int (0 : Int32)), .val (.int (3 : Int32)), .val (.ref pR3), .val (.ref pR5), .val (.int (1 : Int32))]) rfl ?_
    show oS p e below T7 m 39 #[.val (.int pI1), .val (.int pI2), .val (.int (0 : Int32)), .val (.int (3 : Int32)), .val (.ref pR3), .val (.ref pR5), .val (.int (1 : Int32))] [] _
    refine XS.aload X7.here hx rfl (hb hby at_39) rfl rfl ?_
    show oS p e below T7 m 41 #[.val (.int pI1), .val (.int pI2), .val (.int (0 : Int32)), .val (.int (3 : Int32)), .val (.ref pR3), .val (.ref pR5), .val (.int (1 : Int32))] [(.ref pR3)] _
    refine XS.aload X7.here hx rfl (hb hby at_41) rfl rfl ?_
    show oS p e below T7 m 43 #[.val (.int pI1), .val (.int pI2), .val (.int (0 : Int32)), .val (.int (3 : Int32)), .val (.ref pR3), .val (.ref pR5), .val (.int (1 : Int32))] [(.ref pR5), (.ref pR3)] _
    refine st11.trans ?_
    show oS p e below T11 m 46 #[.val (.int pI1), .val (.int pI2), .val (.int (0 : Int32)), .val (.int (3 : Int32)), .val (.ref pR3), .val (.ref pR5), .val (.int (1 : Int32))] [(.int (1 : Int32))] _
    refine XS.iload X11.here hx rfl (hb hby at_46) rfl ?_
    show oS p e below T11 m 48 #[.val (.int pI1), .val (.int pI2), .val (.int (0 : Int32)), .val (.int (3 : Int32)), .val (.ref pR3), .val (.ref pR5), .val (.int (1 : Int32))] [(.int (1 : Int32)), (.int (1 : Int32))] _
    refine XS.icmpNo X11.here hx rfl (hb hby at_48) rfl (teq (by decide : (1 : Int32) = (1 : Int32))).2 ?_
    show oS p e below T11 m 51 #[.val (.int pI1), .val (.int pI2), .val (.int (0 : Int32)), .val (.int (3 : Int32)), .val (.ref pR3), .val (.ref pR5), .val (.int (1 : Int32))] [] _
    refine XS.iconst X11.here hx rfl (hb hby at_51) ?_
    show oS p e below T11 m 52 #[.val (.int pI1), .val (.int pI2), .val (.int (0 : Int32)), .val (.int (3 : Int32)), .val (.ref pR3), .val (.ref pR5), .val (.int (1 : Int32))] [(.int (1 : Int32))] _
    refine XS.goto X11.here hx rfl (pc0 := 52) (pc' := 56) rfl (hb hby at_52) (by decide) (by decide) ?_
    show oS p e below T11 m 56 #[.val (.int pI1), .val (.int pI2), .val (.int (0 : Int32)), .val (.int (3 : Int32)), .val (.ref pR3), .val (.ref pR5), .val (.int (1 : Int32))] [(.int (1 : Int32))] _
    exact retN X11 hx (t := .boolean) Bd.returns (by simp) (hb hby at_56) hr
  · show Qlaw0_3 Z pI1 pI2 pR3 pR5 pI8 pR9 pI10 h0 n0 _ T11.heap _
    rw [e11]
    exact ⟨rfl, N11⟩
theorem ef_law0_4 (m : MethodId) (pI1 : Int32) (pI2 : Int32) : entryFrame m #[(.int pI1), (.int pI2)] maxLocals = mkF m 0 #[.val (.int pI1), .val (.int pI2), .unset, .unset, .unset, .unset, .unset] [] := by first | (simp [entryFrame, mkF, argsToLocals, Value.category, maxLocals]; done) | rfl
def Qlaw0_4 (Z : State) (pI1 : Int32) (pI2 : Int32) (pR3 : Addr) (pR5 : Addr) (pI8 : Int32) (pR9 : Addr) (pI10 : Int32) (h0 : Heap) (n0 : Nat) (v : Option Value) (h : Heap) (L : List Loc) : Prop := v = some (.int (1 : Int32)) ∧ Fr n0 L
set_option maxRecDepth 65536 in
set_option maxHeartbeats 40000000 in
theorem law0_4 (l : Launch) (Z : State) (a0 : Array Value) (hw : ∀ d ∈ tables_1, d.before a0 Z = true) (ws : List Jvm.Cond) (pI1 : Int32) (pI2 : Int32) (pR3 : Addr) (pR5 : Addr) (pI8 : Int32) (pR9 : Addr) (pI10 : Int32) (h0 : Heap) (n0 : Nat) (Z0 : n0 ≤ h0.size) (S_DocumentView_ORDERS : Sta Z h0 "com/example/willenhall/willenhall/external/DocumentView" "ORDERS" "Lcom/example/willenhall/willenhall/external/DocumentView;" (.ref pR3)) (S_ExternalRole_ADMIN : Sta Z h0 "com/example/willenhall/willenhall/external/ExternalRole" "ADMIN" "Lcom/example/willenhall/willenhall/external/ExternalRole;" (.ref pR5)) (F_ordinal_pR5 : Fld Z h0 pR5 "java/lang/Enum" "ordinal" "I" (.int pI8)) (E_pR5 : Exa Z h0 pR5 "com/example/willenhall/willenhall/external/ExternalRole") (F_lowestRole_pR3 : Fld Z h0 pR3 "com/example/willenhall/willenhall/external/DocumentView" "lowestRole" "Lcom/example/willenhall/willenhall/external/ExternalRole;" (.ref pR9)) (F_ordinal_pR9 : Fld Z h0 pR9 "java/lang/Enum" "ordinal" "I" (.int pI10)) (E_pR9 : Exa Z h0 pR9 "com/example/willenhall/willenhall/external/ExternalRole") (E_pR3 : Exa Z h0 pR3 "com/example/willenhall/willenhall/external/DocumentView") (hc2 : (pI1 &&& (3 : Int32)) = (0 : Int32)) (hc10 : ((pI2 &&& (2147483647 : Int32)) % (6 : Int32)) = (4 : Int32)) (hc43 : ¬ (pI8 < pI10)) :
    MetFree l x (head1 (Jvm.Cond.code x code maxLocals ret :: ws) room_1) (fun a U => a = #[(.int pI1), (.int pI2)] ∧ Z.Warmed39 U.vm ∧ U.heap = h0) (fun _ _ _ _ _ => True) (fun _ U o U' => ∃ v L, o = .returned v ∧ Qlaw0_4 Z pI1 pI2 pR3 pR5 pI8 pR9 pI10 h0 n0 v U'.heap L ∧ FrameEnd U o U' L room_1.cells room_1.slots) := by
  refine MetFree.of_bodySF (plainFor_of_name pn_0) hisR ?_
  intro p e s m args below meth c s₁ Bd hml0 hP hK
  obtain ⟨rfl, hZ, hh⟩ := hP
  have hx := Bd.exec
  have hby := Bd.bytes
  have hml : c.maxLocals = 7 := hml0
  have hown : s.vm.findClass "com/example/willenhall/willenhall/external/DocumentViewIsReachedByPinLaw" = some m.cls := findClass_of_methodNamed Bd.named
  have hnm := (name_of_methodNamed Bd.named Bd.method).1
  have X0 : Stand p l e room_1 s m #[(.int pI1), (.int pI2)] below meth c s₁ [] 0 0 := Stand.of_body Bd
  have e0 : s₁.heap = h0 := by rw [← hh, Bd.state]; rfl
  have N0 := Fr.nil n0
  have pre0 : ∀ t, Steps p.tables e below (s₁.setTop (mkF m 0 #[.val (.int pI1), .val (.int pI2), .unset, .unset, .unset, .unset, .unset] [])) t → Steps p.tables e below (s₁.setTop (entryFrame m #[(.int pI1), (.int pI2)] maxLocals)) t := fun t k => castTop (ef_law0_4 m pI1 pI2) k
  obtain ⟨_, _, ⟨T4, L4, k4, n4⟩, -, X4, ⟨Lc4, hQ4, l4, y4, z4⟩, st4⟩ := Jvm.LawKit.callS X0 hx (y := yN0) hown (mvT hZ (ow hw 1 rfl)) (mvT hZ (ow hw 2 rfl)) (mvT hZ (ow hw 3 rfl)) (mvT hZ (ow hw 4 rfl)) (by decide) (backOf (W := 0) (view0 l Z a0 hw [] pR3 h0 n0 Z0 S_DocumentView_ORDERS) hZ (ow hw 4 rfl) (ow hw 3 rfl) (by decide) (by decide)) (g := (mkF m 13 #[.val (.int pI1), .val (.int pI2), .val (.int (0 : Int32)), .val (.int (4 : Int32)), .unset, .unset, .unset] [(.int (0 : Int32))])) rfl (by rw [hml]; rfl) (argsL := [(.int (0 : Int32))]) (rest := []) (lenOf pd_1 rfl) rfl (by show 2 * 0 + _ ≤ _; exact Nat.le_of_eq rfl) (hb hby at_13) (fun _ _ => ⟨rfl, e0, (by decide : 0 + 0 ≤ _), (by decide : 0 + 0 ≤ _)⟩)
  dsimp only [Pt.U, Pt.locs, Pt.cells, Pt.slots] at X4 l4 y4 z4 st4 hQ4
  subst l4 y4 z4
  obtain ⟨rfl, Nq4, e4⟩ := hQ4
  have N4 := Fr.app N0 Nq4
  obtain ⟨_, _, ⟨T6, L6, k6, n6⟩, -, X6, ⟨Lc6, hQ6, l6, y6, z6⟩, st6⟩ := Jvm.LawKit.callS X4 hx (y := yN1) hown (mvT hZ (ow hw 8 rfl)) (mvT hZ (ow hw 9 rfl)) (mvT hZ (ow hw 3 rfl)) (mvT hZ (ow hw 10 rfl)) (by decide) (backOf (W := 0) (role4 l Z a0 hw [] pR5 h0 n0 Z0 S_ExternalRole_ADMIN) hZ (ow hw 10 rfl) (ow hw 3 rfl) (by decide) (by decide)) (g := (mkF m 19 #[.val (.int pI1), .val (.int pI2), .val (.int (0 : Int32)), .val (.int (4 : Int32)), .val (.ref pR3), .unset, .unset] [(.int (4 : Int32))])) rfl (by rw [hml]; rfl) (argsL := [(.int (4 : Int32))]) (rest := []) (lenOf pd_2 rfl) rfl (by show 2 * 0 + _ ≤ _; exact Nat.le_of_eq rfl) (hb hby at_19) (fun _ _ => ⟨rfl, e4, (by decide : 0 + 0 ≤ _), (by decide : 0 + 0 ≤ _)⟩)
  dsimp only [Pt.U, Pt.locs, Pt.cells, Pt.slots] at X6 l6 y6 z6 st6 hQ6
  subst l6 y6 z6
  obtain ⟨rfl, Nq6, e6⟩ := hQ6
  have N6 := Fr.app N4 Nq6
  obtain ⟨_, _, ⟨T7, L7, k7, n7⟩, -, X7, ⟨Lc7, hQ7, l7, y7, z7⟩, st7⟩ := Jvm.LawKit.callS X6 hx (y := yN2) hown (mvT hZ (ow hw 14 rfl)) (mvT hZ (ow hw 15 rfl)) (mvT hZ (ow hw 3 rfl)) (mvT hZ (ow hw 16 rfl)) (by decide) (backOf (W := 1) (lowest0 l Z a0 hw []  h0 n0 Z0 ) hZ (ow hw 16 rfl) (ow hw 3 rfl) (by decide) (by decide)) (g := (mkF m 26 #[.val (.int pI1), .val (.int pI2), .val (.int (0 : Int32)), .val (.int (4 : Int32)), .val (.ref pR3), .val (.ref pR5), .unset] [(.int (0 : Int32)), (.int (4 : Int32))])) rfl (by rw [hml]; rfl) (argsL := [(.int (0 : Int32))]) (rest := [(.int (4 : Int32))]) (lenOf pd_3 rfl) rfl (by show 2 * 0 + _ ≤ _; exact Nat.le_of_eq rfl) (hb hby at_26) (fun _ _ => ⟨rfl, e6, (by decide : 0 + 0 ≤ _), (by decide : 0 + 0 ≤ _)⟩)
  dsimp only [Pt.U, Pt.locs, Pt.cells, Pt.slots] at X7 l7 y7 z7 st7 hQ7
  subst l7 y7 z7
  obtain ⟨rfl, Nq7, e7⟩ := hQ7
  have N7 := Fr.app N6 Nq7
  obtain ⟨cq11, kq11, q11a, q11b, q11c⟩ := isOf hZ e7 E_pR3
  obtain ⟨_, _, ⟨T11, L11, k11, n11⟩, -, X11, ⟨Lc11, hQ11, l11, y11, z11⟩, st11⟩ := X7.virtualBack hx (y := yN6) (z := yN6) hown (mvT hZ (ow hw 17 rfl)) (mvT hZ (ow hw 18 rfl)) (notFace_of_selects (args := #[]) (mvT hZ (ow hw 20 rfl))) (mvT hZ (ow hw 20 rfl)) (mvT hZ (ow hw 19 rfl)) (by decide) (backOf (W := 0) (irbY l Z a0 hw [] pR3 pR5 pI8 pR9 pI10 h0 n0 Z0 F_ordinal_pR5 E_pR5 F_lowestRole_pR3 F_ordinal_pR9 E_pR9 hc43) hZ (ow hw 21 rfl) (ow hw 6 rfl) (by decide) (by decide)) q11a q11c (g := (mkF m 43 #[.val (.int pI1), .val (.int pI2), .val (.int (0 : Int32)), .val (.int (4 : Int32)), .val (.ref pR3), .val (.ref pR5), .val (.int (1 : Int32))] [(.ref pR5), (.ref pR3)])) rfl (by rw [hml]; rfl) (Steps.refl _) (argsL := [(.ref pR5)]) (rest := []) (lenOf pd_4 rfl) rfl (by show 2 * 0 + _ ≤ _; exact Nat.le_of_eq rfl) (hb hby at_43) (fun _ _ => ⟨rfl, e7, (by decide : 0 + 0 ≤ _), (by decide : 0 + 0 ≤ _)⟩)
  dsimp only [Pt.U, Pt.locs, Pt.cells, Pt.slots] at X11 l11 y11 z11 st11 hQ11
  subst l11 y11 z11
  obtain ⟨rfl, Nq11, e11⟩ := hQ11
  have N11 := Fr.app N7 Nq11
  obtain ⟨fs, hr, hrun, hended, hW, hsame⟩ := X11.leave (v := some (.int (1 : Int32))) (fun h => by rw [Bd.returns] at h; cases h)
  refine ⟨_, _, pre0 _ ?_, hrun, hended, _, _, rfl, ?_, ⟨_, rfl⟩, hW, hsame.mono (by decide) (by decide)⟩
  · show oS p e below s₁ m 0 #[.val (.int pI1), .val (.int pI2), .unset, .unset, .unset, .unset, .unset] [] _
    refine XS.iloadN X0.here hx rfl (hb hby at_0) rfl ?_
    show oS p e below s₁ m 1 #[.val (.int pI1), .val (.int pI2), .unset, .unset, .unset, .unset, .unset] [(.int pI1)] _
    refine XS.iconst X0.here hx rfl (hb hby at_1) ?_
    show oS p e below s₁ m 2 #[.val (.int pI1), .val (.int pI2), .unset, .unset, .unset, .unset, .unset] [(.int (3 : Int32)), (.int pI1)] _
    refine XS.iand X0.here hx rfl (hb hby at_2) rfl ?_
    show Steps p.tables e below (s₁.setTop (mkF m 3 #[.val (.int pI1), .val (.int pI2), .unset, .unset, .unset, .unset, .unset] [(.int (pI1 &&& (3 : Int32)))])) _
    rw [hc2]
    show oS p e below s₁ m 3 #[.val (.int pI1), .val (.int pI2), .unset, .unset, .unset, .unset, .unset] [(.int (0 : Int32))] _
    refine XS.istoreN X0.here hx rfl (hb hby at_3) rfl (l' := #[.val (.int pI1), .val (.int pI2), .val (.int (0 : Int32)), .unset, .unset, .unset, .unset]) rfl ?_
    show oS p e below s₁ m 4 #[.val (.int pI1), .val (.int pI2), .val (.int (0 : Int32)), .unset, .unset, .unset, .unset] [] _
    refine XS.iloadN X0.here hx rfl (hb hby at_4) rfl ?_
    show oS p e below s₁ m 5 #[.val (.int pI1), .val (.int pI2), .val (.int (0 : Int32)), .unset, .unset, .unset, .unset] [(.int pI2)] _
    refine X0.ldcInt hx hown (mvT hZ (ow hw 0 rfl)) (g := (mkF m 5 #[.val (.int pI1), .val (.int pI2), .val (.int (0 : Int32)), .unset, .unset, .unset, .unset] [(.int pI2)])) rfl (hb hby at_5) _ ?_
    show oS p e below s₁ m 7 #[.val (.int pI1), .val (.int pI2), .val (.int (0 : Int32)), .unset, .unset, .unset, .unset] [(.int (2147483647 : Int32)), (.int pI2)] _
    refine XS.iand X0.here hx rfl (hb hby at_7) rfl ?_
    show oS p e below s₁ m 8 #[.val (.int pI1), .val (.int pI2), .val (.int (0 : Int32)), .unset, .unset, .unset, .unset] [(.int (pI2 &&& (2147483647 : Int32)))] _
    refine XS.bipush X0.here hx rfl (hb hby at_8) ?_
    show oS p e below s₁ m 10 #[.val (.int pI1), .val (.int pI2), .val (.int (0 : Int32)), .unset, .unset, .unset, .unset] [(.int (6 : Int32)), (.int (pI2 &&& (2147483647 : Int32)))] _
    refine iremM (g := (mkF m 10 #[.val (.int pI1), .val (.int pI2), .val (.int (0 : Int32)), .unset, .unset, .unset, .unset] [(.int (6 : Int32)), (.int (pI2 &&& (2147483647 : Int32)))])) X0 hx rfl (hb hby at_10) rfl (by decide) ?_
    show Steps p.tables e below (s₁.setTop (mkF m 11 #[.val (.int pI1), .val (.int pI2), .val (.int (0 : Int32)), .unset, .unset, .unset, .unset] [(.int ((pI2 &&& (2147483647 : Int32)) % (6 : Int32)))])) _
    rw [hc10]
    show oS p e below s₁ m 11 #[.val (.int pI1), .val (.int pI2), .val (.int (0 : Int32)), .unset, .unset, .unset, .unset] [(.int (4 : Int32))] _
    refine XS.istoreN X0.here hx rfl (hb hby at_11) rfl (l' := #[.val (.int pI1), .val (.int pI2), .val (.int (0 : Int32)), .val (.int (4 : Int32)), .unset, .unset, .unset]) rfl ?_
    show oS p e below s₁ m 12 #[.val (.int pI1), .val (.int pI2), .val (.int (0 : Int32)), .val (.int (4 : Int32)), .unset, .unset, .unset] [] _
    refine XS.iloadN X0.here hx rfl (hb hby at_12) rfl ?_
    show oS p e below s₁ m 13 #[.val (.int pI1), .val (.int pI2), .val (.int (0 : Int32)), .val (.int (4 : Int32)), .unset, .unset, .unset] [(.int (0 : Int32))] _
    refine st4 _ ?_
    show oS p e below T4 m 16 #[.val (.int pI1), .val (.int pI2), .val (.int (0 : Int32)), .val (.int (4 : Int32)), .unset, .unset, .unset] [(.ref pR3)] _
    refine XS.astore X4.here hx rfl (hb hby at_16) rfl rfl (l' := #[.val (.int pI1), .val (.int pI2), .val (.int (0 : Int32)), .val (.int (4 : Int32)), .val (.ref pR3), .unset, .unset]) rfl ?_
    show oS p e below T4 m 18 #[.val (.int pI1), .val (.int pI2), .val (.int (0 : Int32)), .val (.int (4 : Int32)), .val (.ref pR3), .unset, .unset] [] _
    refine XS.iloadN X4.here hx rfl (hb hby at_18) rfl ?_
    show oS p e below T4 m 19 #[.val (.int pI1), .val (.int pI2), .val (.int (0 : Int32)), .val (.int (4 : Int32)), .val (.ref pR3), .unset, .unset] [(.int (4 : Int32))] _
    refine st6 _ ?_
    show oS p e below T6 m 22 #[.val (.int pI1), .val (.int pI2), .val (.int (0 : Int32)), .val (.int (4 : Int32)), .val (.ref pR3), .unset, .unset] [(.ref pR5)] _
    refine XS.astore X6.here hx rfl (hb hby at_22) rfl rfl (l' := #[.val (.int pI1), .val (.int pI2), .val (.int (0 : Int32)), .val (.int (4 : Int32)), .val (.ref pR3), .val (.ref pR5), .unset]) rfl ?_
    show oS p e below T6 m 24 #[.val (.int pI1), .val (.int pI2), .val (.int (0 : Int32)), .val (.int (4 : Int32)), .val (.ref pR3), .val (.ref pR5), .unset] [] _
    refine XS.iloadN X6.here hx rfl (hb hby at_24) rfl ?_
    show oS p e below T6 m 25 #[.val (.int pI1), .val (.int pI2), .val (.int (0 : Int32)), .val (.int (4 : Int32)), .val (.ref pR3), .val (.ref pR5), .unset] [(.int (4 : Int32))] _
    refine XS.iloadN X6.here hx rfl (hb hby at_25) rfl ?_
    show oS p e below T6 m 26 #[.val (.int pI1), .val (.int pI2), .val (.int (0 : Int32)), .val (.int (4 : Int32)), .val (.ref pR3), .val (.ref pR5), .unset] [(.int (0 : Int32)), (.int (4 : Int32))] _
    refine st7 _ ?_
    show oS p e below T7 m 29 #[.val (.int pI1), .val (.int pI2), .val (.int (0 : Int32)), .val (.int (4 : Int32)), .val (.ref pR3), .val (.ref pR5), .unset] [(.int (1 : Int32)), (.int (4 : Int32))] _
    refine XS.icmpNo X7.here hx rfl (hb hby at_29) rfl (flt (by decide : ¬ ((4 : Int32) < (1 : Int32)))).1 ?_
    show oS p e below T7 m 32 #[.val (.int pI1), .val (.int pI2), .val (.int (0 : Int32)), .val (.int (4 : Int32)), .val (.ref pR3), .val (.ref pR5), .unset] [] _
    refine XS.iconst X7.here hx rfl (hb hby at_32) ?_
    show oS p e below T7 m 33 #[.val (.int pI1), .val (.int pI2), .val (.int (0 : Int32)), .val (.int (4 : Int32)), .val (.ref pR3), .val (.ref pR5), .unset] [(.int (1 : Int32))] _
    refine XS.goto X7.here hx rfl (pc0 := 33) (pc' := 37) rfl (hb hby at_33) (by decide) (by decide) ?_
    show oS p e below T7 m 37 #[.val (.int pI1), .val (.int pI2), .val (.int (0 : Int32)), .val (.int (4 : Int32)), .val (.ref pR3), .val (.ref pR5), .unset] [(.int (1 : Int32))] _
    refine XS.istore X7.here hx rfl (hb hby at_37) rfl (l' := #[.val (.int pI1), .val (.int pI2), .val (.int (0 : Int32)), .val (.int (4 : Int32)), .val (.ref pR3), .val (.ref pR5), .val (.int (1 : Int32))]) rfl ?_
    show oS p e below T7 m 39 #[.val (.int pI1), .val (.int pI2), .val (.int (0 : Int32)), .val (.int (4 : Int32)), .val (.ref pR3), .val (.ref pR5), .val (.int (1 : Int32))] [] _
    refine XS.aload X7.here hx rfl (hb hby at_39) rfl rfl ?_
    show oS p e below T7 m 41 #[.val (.int pI1), .val (.int pI2), .val (.int (0 : Int32)), .val (.int (4 : Int32)), .val (.ref pR3), .val (.ref pR5), .val (.int (1 : Int32))] [(.ref pR3)] _
    refine XS.aload X7.here hx rfl (hb hby at_41) rfl rfl ?_
    show oS p e below T7 m 43 #[.val (.int pI1), .val (.int pI2), .val (.int (0 : Int32)), .val (.int (4 : Int32)), .val (.ref pR3), .val (.ref pR5), .val (.int (1 : Int32))] [(.ref pR5), (.ref pR3)] _
    refine st11.trans ?_
    show oS p e below T11 m 46 #[.val (.int pI1), .val (.int pI2), .val (.int (0 : Int32)), .val (.int (4 : Int32)), .val (.ref pR3), .val (.ref pR5), .val (.int (1 : Int32))] [(.int (1 : Int32))] _
    refine XS.iload X11.here hx rfl (hb hby at_46) rfl ?_
    show oS p e below T11 m 48 #[.val (.int pI1), .val (.int pI2), .val (.int (0 : Int32)), .val (.int (4 : Int32)), .val (.ref pR3), .val (.ref pR5), .val (.int (1 : Int32))] [(.int (1 : Int32)), (.int (1 : Int32))] _
    refine XS.icmpNo X11.here hx rfl (hb hby at_48) rfl (teq (by decide : (1 : Int32) = (1 : Int32))).2 ?_
    show oS p e below T11 m 51 #[.val (.int pI1), .val (.int pI2), .val (.int (0 : Int32)), .val (.int (4 : Int32)), .val (.ref pR3), .val (.ref pR5), .val (.int (1 : Int32))] [] _
    refine XS.iconst X11.here hx rfl (hb hby at_51) ?_
    show oS p e below T11 m 52 #[.val (.int pI1), .val (.int pI2), .val (.int (0 : Int32)), .val (.int (4 : Int32)), .val (.ref pR3), .val (.ref pR5), .val (.int (1 : Int32))] [(.int (1 : Int32))] _
    refine XS.goto X11.here hx rfl (pc0 := 52) (pc' := 56) rfl (hb hby at_52) (by decide) (by decide) ?_
    show oS p e below T11 m 56 #[.val (.int pI1), .val (.int pI2), .val (.int (0 : Int32)), .val (.int (4 : Int32)), .val (.ref pR3), .val (.ref pR5), .val (.int (1 : Int32))] [(.int (1 : Int32))] _
    exact retN X11 hx (t := .boolean) Bd.returns (by simp) (hb hby at_56) hr
  · show Qlaw0_4 Z pI1 pI2 pR3 pR5 pI8 pR9 pI10 h0 n0 _ T11.heap _
    rw [e11]
    exact ⟨rfl, N11⟩
theorem ef_law0_5 (m : MethodId) (pI1 : Int32) (pI2 : Int32) : entryFrame m #[(.int pI1), (.int pI2)] maxLocals = mkF m 0 #[.val (.int pI1), .val (.int pI2), .unset, .unset, .unset, .unset, .unset] [] := by first | (simp [entryFrame, mkF, argsToLocals, Value.category, maxLocals]; done) | rfl
def Qlaw0_5 (Z : State) (pI1 : Int32) (pI2 : Int32) (pR3 : Addr) (pR5 : Addr) (pI8 : Int32) (pR9 : Addr) (pI10 : Int32) (h0 : Heap) (n0 : Nat) (v : Option Value) (h : Heap) (L : List Loc) : Prop := v = some (.int (1 : Int32)) ∧ Fr n0 L
set_option maxRecDepth 65536 in
set_option maxHeartbeats 40000000 in
theorem law0_5 (l : Launch) (Z : State) (a0 : Array Value) (hw : ∀ d ∈ tables_1, d.before a0 Z = true) (ws : List Jvm.Cond) (pI1 : Int32) (pI2 : Int32) (pR3 : Addr) (pR5 : Addr) (pI8 : Int32) (pR9 : Addr) (pI10 : Int32) (h0 : Heap) (n0 : Nat) (Z0 : n0 ≤ h0.size) (S_DocumentView_ORDERS : Sta Z h0 "com/example/willenhall/willenhall/external/DocumentView" "ORDERS" "Lcom/example/willenhall/willenhall/external/DocumentView;" (.ref pR3)) (S_ExternalRole_OWNER : Sta Z h0 "com/example/willenhall/willenhall/external/ExternalRole" "OWNER" "Lcom/example/willenhall/willenhall/external/ExternalRole;" (.ref pR5)) (F_ordinal_pR5 : Fld Z h0 pR5 "java/lang/Enum" "ordinal" "I" (.int pI8)) (E_pR5 : Exa Z h0 pR5 "com/example/willenhall/willenhall/external/ExternalRole") (F_lowestRole_pR3 : Fld Z h0 pR3 "com/example/willenhall/willenhall/external/DocumentView" "lowestRole" "Lcom/example/willenhall/willenhall/external/ExternalRole;" (.ref pR9)) (F_ordinal_pR9 : Fld Z h0 pR9 "java/lang/Enum" "ordinal" "I" (.int pI10)) (E_pR9 : Exa Z h0 pR9 "com/example/willenhall/willenhall/external/ExternalRole") (E_pR3 : Exa Z h0 pR3 "com/example/willenhall/willenhall/external/DocumentView") (hc2 : (pI1 &&& (3 : Int32)) = (0 : Int32)) (hc10 : ((pI2 &&& (2147483647 : Int32)) % (6 : Int32)) = (5 : Int32)) (hc43 : ¬ (pI8 < pI10)) :
    MetFree l x (head1 (Jvm.Cond.code x code maxLocals ret :: ws) room_1) (fun a U => a = #[(.int pI1), (.int pI2)] ∧ Z.Warmed39 U.vm ∧ U.heap = h0) (fun _ _ _ _ _ => True) (fun _ U o U' => ∃ v L, o = .returned v ∧ Qlaw0_5 Z pI1 pI2 pR3 pR5 pI8 pR9 pI10 h0 n0 v U'.heap L ∧ FrameEnd U o U' L room_1.cells room_1.slots) := by
  refine MetFree.of_bodySF (plainFor_of_name pn_0) hisR ?_
  intro p e s m args below meth c s₁ Bd hml0 hP hK
  obtain ⟨rfl, hZ, hh⟩ := hP
  have hx := Bd.exec
  have hby := Bd.bytes
  have hml : c.maxLocals = 7 := hml0
  have hown : s.vm.findClass "com/example/willenhall/willenhall/external/DocumentViewIsReachedByPinLaw" = some m.cls := findClass_of_methodNamed Bd.named
  have hnm := (name_of_methodNamed Bd.named Bd.method).1
  have X0 : Stand p l e room_1 s m #[(.int pI1), (.int pI2)] below meth c s₁ [] 0 0 := Stand.of_body Bd
  have e0 : s₁.heap = h0 := by rw [← hh, Bd.state]; rfl
  have N0 := Fr.nil n0
  have pre0 : ∀ t, Steps p.tables e below (s₁.setTop (mkF m 0 #[.val (.int pI1), .val (.int pI2), .unset, .unset, .unset, .unset, .unset] [])) t → Steps p.tables e below (s₁.setTop (entryFrame m #[(.int pI1), (.int pI2)] maxLocals)) t := fun t k => castTop (ef_law0_5 m pI1 pI2) k
  obtain ⟨_, _, ⟨T4, L4, k4, n4⟩, -, X4, ⟨Lc4, hQ4, l4, y4, z4⟩, st4⟩ := Jvm.LawKit.callS X0 hx (y := yN0) hown (mvT hZ (ow hw 1 rfl)) (mvT hZ (ow hw 2 rfl)) (mvT hZ (ow hw 3 rfl)) (mvT hZ (ow hw 4 rfl)) (by decide) (backOf (W := 0) (view0 l Z a0 hw [] pR3 h0 n0 Z0 S_DocumentView_ORDERS) hZ (ow hw 4 rfl) (ow hw 3 rfl) (by decide) (by decide)) (g := (mkF m 13 #[.val (.int pI1), .val (.int pI2), .val (.int (0 : Int32)), .val (.int (5 : Int32)), .unset, .unset, .unset] [(.int (0 : Int32))])) rfl (by rw [hml]; rfl) (argsL := [(.int (0 : Int32))]) (rest := []) (lenOf pd_1 rfl) rfl (by show 2 * 0 + _ ≤ _; exact Nat.le_of_eq rfl) (hb hby at_13) (fun _ _ => ⟨rfl, e0, (by decide : 0 + 0 ≤ _), (by decide : 0 + 0 ≤ _)⟩)
  dsimp only [Pt.U, Pt.locs, Pt.cells, Pt.slots] at X4 l4 y4 z4 st4 hQ4
  subst l4 y4 z4
  obtain ⟨rfl, Nq4, e4⟩ := hQ4
  have N4 := Fr.app N0 Nq4
  obtain ⟨_, _, ⟨T6, L6, k6, n6⟩, -, X6, ⟨Lc6, hQ6, l6, y6, z6⟩, st6⟩ := Jvm.LawKit.callS X4 hx (y := yN1) hown (mvT hZ (ow hw 8 rfl)) (mvT hZ (ow hw 9 rfl)) (mvT hZ (ow hw 3 rfl)) (mvT hZ (ow hw 10 rfl)) (by decide) (backOf (W := 0) (role5 l Z a0 hw [] pR5 h0 n0 Z0 S_ExternalRole_OWNER) hZ (ow hw 10 rfl) (ow hw 3 rfl) (by decide) (by decide)) (g := (mkF m 19 #[.val (.int pI1), .val (.int pI2), .val (.int (0 : Int32)), .val (.int (5 : Int32)), .val (.ref pR3), .unset, .unset] [(.int (5 : Int32))])) rfl (by rw [hml]; rfl) (argsL := [(.int (5 : Int32))]) (rest := []) (lenOf pd_2 rfl) rfl (by show 2 * 0 + _ ≤ _; exact Nat.le_of_eq rfl) (hb hby at_19) (fun _ _ => ⟨rfl, e4, (by decide : 0 + 0 ≤ _), (by decide : 0 + 0 ≤ _)⟩)
  dsimp only [Pt.U, Pt.locs, Pt.cells, Pt.slots] at X6 l6 y6 z6 st6 hQ6
  subst l6 y6 z6
  obtain ⟨rfl, Nq6, e6⟩ := hQ6
  have N6 := Fr.app N4 Nq6
  obtain ⟨_, _, ⟨T7, L7, k7, n7⟩, -, X7, ⟨Lc7, hQ7, l7, y7, z7⟩, st7⟩ := Jvm.LawKit.callS X6 hx (y := yN2) hown (mvT hZ (ow hw 14 rfl)) (mvT hZ (ow hw 15 rfl)) (mvT hZ (ow hw 3 rfl)) (mvT hZ (ow hw 16 rfl)) (by decide) (backOf (W := 1) (lowest0 l Z a0 hw []  h0 n0 Z0 ) hZ (ow hw 16 rfl) (ow hw 3 rfl) (by decide) (by decide)) (g := (mkF m 26 #[.val (.int pI1), .val (.int pI2), .val (.int (0 : Int32)), .val (.int (5 : Int32)), .val (.ref pR3), .val (.ref pR5), .unset] [(.int (0 : Int32)), (.int (5 : Int32))])) rfl (by rw [hml]; rfl) (argsL := [(.int (0 : Int32))]) (rest := [(.int (5 : Int32))]) (lenOf pd_3 rfl) rfl (by show 2 * 0 + _ ≤ _; exact Nat.le_of_eq rfl) (hb hby at_26) (fun _ _ => ⟨rfl, e6, (by decide : 0 + 0 ≤ _), (by decide : 0 + 0 ≤ _)⟩)
  dsimp only [Pt.U, Pt.locs, Pt.cells, Pt.slots] at X7 l7 y7 z7 st7 hQ7
  subst l7 y7 z7
  obtain ⟨rfl, Nq7, e7⟩ := hQ7
  have N7 := Fr.app N6 Nq7
  obtain ⟨cq11, kq11, q11a, q11b, q11c⟩ := isOf hZ e7 E_pR3
  obtain ⟨_, _, ⟨T11, L11, k11, n11⟩, -, X11, ⟨Lc11, hQ11, l11, y11, z11⟩, st11⟩ := X7.virtualBack hx (y := yN6) (z := yN6) hown (mvT hZ (ow hw 17 rfl)) (mvT hZ (ow hw 18 rfl)) (notFace_of_selects (args := #[]) (mvT hZ (ow hw 20 rfl))) (mvT hZ (ow hw 20 rfl)) (mvT hZ (ow hw 19 rfl)) (by decide) (backOf (W := 0) (irbY l Z a0 hw [] pR3 pR5 pI8 pR9 pI10 h0 n0 Z0 F_ordinal_pR5 E_pR5 F_lowestRole_pR3 F_ordinal_pR9 E_pR9 hc43) hZ (ow hw 21 rfl) (ow hw 6 rfl) (by decide) (by decide)) q11a q11c (g := (mkF m 43 #[.val (.int pI1), .val (.int pI2), .val (.int (0 : Int32)), .val (.int (5 : Int32)), .val (.ref pR3), .val (.ref pR5), .val (.int (1 : Int32))] [(.ref pR5), (.ref pR3)])) rfl (by rw [hml]; rfl) (Steps.refl _) (argsL := [(.ref pR5)]) (rest := []) (lenOf pd_4 rfl) rfl (by show 2 * 0 + _ ≤ _; exact Nat.le_of_eq rfl) (hb hby at_43) (fun _ _ => ⟨rfl, e7, (by decide : 0 + 0 ≤ _), (by decide : 0 + 0 ≤ _)⟩)
  dsimp only [Pt.U, Pt.locs, Pt.cells, Pt.slots] at X11 l11 y11 z11 st11 hQ11
  subst l11 y11 z11
  obtain ⟨rfl, Nq11, e11⟩ := hQ11
  have N11 := Fr.app N7 Nq11
  obtain ⟨fs, hr, hrun, hended, hW, hsame⟩ := X11.leave (v := some (.int (1 : Int32))) (fun h => by rw [Bd.returns] at h; cases h)
  refine ⟨_, _, pre0 _ ?_, hrun, hended, _, _, rfl, ?_, ⟨_, rfl⟩, hW, hsame.mono (by decide) (by decide)⟩
  · show oS p e below s₁ m 0 #[.val (.int pI1), .val (.int pI2), .unset, .unset, .unset, .unset, .unset] [] _
    refine XS.iloadN X0.here hx rfl (hb hby at_0) rfl ?_
    show oS p e below s₁ m 1 #[.val (.int pI1), .val (.int pI2), .unset, .unset, .unset, .unset, .unset] [(.int pI1)] _
    refine XS.iconst X0.here hx rfl (hb hby at_1) ?_
    show oS p e below s₁ m 2 #[.val (.int pI1), .val (.int pI2), .unset, .unset, .unset, .unset, .unset] [(.int (3 : Int32)), (.int pI1)] _
    refine XS.iand X0.here hx rfl (hb hby at_2) rfl ?_
    show Steps p.tables e below (s₁.setTop (mkF m 3 #[.val (.int pI1), .val (.int pI2), .unset, .unset, .unset, .unset, .unset] [(.int (pI1 &&& (3 : Int32)))])) _
    rw [hc2]
    show oS p e below s₁ m 3 #[.val (.int pI1), .val (.int pI2), .unset, .unset, .unset, .unset, .unset] [(.int (0 : Int32))] _
    refine XS.istoreN X0.here hx rfl (hb hby at_3) rfl (l' := #[.val (.int pI1), .val (.int pI2), .val (.int (0 : Int32)), .unset, .unset, .unset, .unset]) rfl ?_
    show oS p e below s₁ m 4 #[.val (.int pI1), .val (.int pI2), .val (.int (0 : Int32)), .unset, .unset, .unset, .unset] [] _
    refine XS.iloadN X0.here hx rfl (hb hby at_4) rfl ?_
    show oS p e below s₁ m 5 #[.val (.int pI1), .val (.int pI2), .val (.int (0 : Int32)), .unset, .unset, .unset, .unset] [(.int pI2)] _
    refine X0.ldcInt hx hown (mvT hZ (ow hw 0 rfl)) (g := (mkF m 5 #[.val (.int pI1), .val (.int pI2), .val (.int (0 : Int32)), .unset, .unset, .unset, .unset] [(.int pI2)])) rfl (hb hby at_5) _ ?_
    show oS p e below s₁ m 7 #[.val (.int pI1), .val (.int pI2), .val (.int (0 : Int32)), .unset, .unset, .unset, .unset] [(.int (2147483647 : Int32)), (.int pI2)] _
    refine XS.iand X0.here hx rfl (hb hby at_7) rfl ?_
    show oS p e below s₁ m 8 #[.val (.int pI1), .val (.int pI2), .val (.int (0 : Int32)), .unset, .unset, .unset, .unset] [(.int (pI2 &&& (2147483647 : Int32)))] _
    refine XS.bipush X0.here hx rfl (hb hby at_8) ?_
    show oS p e below s₁ m 10 #[.val (.int pI1), .val (.int pI2), .val (.int (0 : Int32)), .unset, .unset, .unset, .unset] [(.int (6 : Int32)), (.int (pI2 &&& (2147483647 : Int32)))] _
    refine iremM (g := (mkF m 10 #[.val (.int pI1), .val (.int pI2), .val (.int (0 : Int32)), .unset, .unset, .unset, .unset] [(.int (6 : Int32)), (.int (pI2 &&& (2147483647 : Int32)))])) X0 hx rfl (hb hby at_10) rfl (by decide) ?_
    show Steps p.tables e below (s₁.setTop (mkF m 11 #[.val (.int pI1), .val (.int pI2), .val (.int (0 : Int32)), .unset, .unset, .unset, .unset] [(.int ((pI2 &&& (2147483647 : Int32)) % (6 : Int32)))])) _
    rw [hc10]
    show oS p e below s₁ m 11 #[.val (.int pI1), .val (.int pI2), .val (.int (0 : Int32)), .unset, .unset, .unset, .unset] [(.int (5 : Int32))] _
    refine XS.istoreN X0.here hx rfl (hb hby at_11) rfl (l' := #[.val (.int pI1), .val (.int pI2), .val (.int (0 : Int32)), .val (.int (5 : Int32)), .unset, .unset, .unset]) rfl ?_
    show oS p e below s₁ m 12 #[.val (.int pI1), .val (.int pI2), .val (.int (0 : Int32)), .val (.int (5 : Int32)), .unset, .unset, .unset] [] _
    refine XS.iloadN X0.here hx rfl (hb hby at_12) rfl ?_
    show oS p e below s₁ m 13 #[.val (.int pI1), .val (.int pI2), .val (.int (0 : Int32)), .val (.int (5 : Int32)), .unset, .unset, .unset] [(.int (0 : Int32))] _
    refine st4 _ ?_
    show oS p e below T4 m 16 #[.val (.int pI1), .val (.int pI2), .val (.int (0 : Int32)), .val (.int (5 : Int32)), .unset, .unset, .unset] [(.ref pR3)] _
    refine XS.astore X4.here hx rfl (hb hby at_16) rfl rfl (l' := #[.val (.int pI1), .val (.int pI2), .val (.int (0 : Int32)), .val (.int (5 : Int32)), .val (.ref pR3), .unset, .unset]) rfl ?_
    show oS p e below T4 m 18 #[.val (.int pI1), .val (.int pI2), .val (.int (0 : Int32)), .val (.int (5 : Int32)), .val (.ref pR3), .unset, .unset] [] _
    refine XS.iloadN X4.here hx rfl (hb hby at_18) rfl ?_
    show oS p e below T4 m 19 #[.val (.int pI1), .val (.int pI2), .val (.int (0 : Int32)), .val (.int (5 : Int32)), .val (.ref pR3), .unset, .unset] [(.int (5 : Int32))] _
    refine st6 _ ?_
    show oS p e below T6 m 22 #[.val (.int pI1), .val (.int pI2), .val (.int (0 : Int32)), .val (.int (5 : Int32)), .val (.ref pR3), .unset, .unset] [(.ref pR5)] _
    refine XS.astore X6.here hx rfl (hb hby at_22) rfl rfl (l' := #[.val (.int pI1), .val (.int pI2), .val (.int (0 : Int32)), .val (.int (5 : Int32)), .val (.ref pR3), .val (.ref pR5), .unset]) rfl ?_
    show oS p e below T6 m 24 #[.val (.int pI1), .val (.int pI2), .val (.int (0 : Int32)), .val (.int (5 : Int32)), .val (.ref pR3), .val (.ref pR5), .unset] [] _
    refine XS.iloadN X6.here hx rfl (hb hby at_24) rfl ?_
    show oS p e below T6 m 25 #[.val (.int pI1), .val (.int pI2), .val (.int (0 : Int32)), .val (.int (5 : Int32)), .val (.ref pR3), .val (.ref pR5), .unset] [(.int (5 : Int32))] _
    refine XS.iloadN X6.here hx rfl (hb hby at_25) rfl ?_
    show oS p e below T6 m 26 #[.val (.int pI1), .val (.int pI2), .val (.int (0 : Int32)), .val (.int (5 : Int32)), .val (.ref pR3), .val (.ref pR5), .unset] [(.int (0 : Int32)), (.int (5 : Int32))] _
    refine st7 _ ?_
    show oS p e below T7 m 29 #[.val (.int pI1), .val (.int pI2), .val (.int (0 : Int32)), .val (.int (5 : Int32)), .val (.ref pR3), .val (.ref pR5), .unset] [(.int (1 : Int32)), (.int (5 : Int32))] _
    refine XS.icmpNo X7.here hx rfl (hb hby at_29) rfl (flt (by decide : ¬ ((5 : Int32) < (1 : Int32)))).1 ?_
    show oS p e below T7 m 32 #[.val (.int pI1), .val (.int pI2), .val (.int (0 : Int32)), .val (.int (5 : Int32)), .val (.ref pR3), .val (.ref pR5), .unset] [] _
    refine XS.iconst X7.here hx rfl (hb hby at_32) ?_
    show oS p e below T7 m 33 #[.val (.int pI1), .val (.int pI2), .val (.int (0 : Int32)), .val (.int (5 : Int32)), .val (.ref pR3), .val (.ref pR5), .unset] [(.int (1 : Int32))] _
    refine XS.goto X7.here hx rfl (pc0 := 33) (pc' := 37) rfl (hb hby at_33) (by decide) (by decide) ?_
    show oS p e below T7 m 37 #[.val (.int pI1), .val (.int pI2), .val (.int (0 : Int32)), .val (.int (5 : Int32)), .val (.ref pR3), .val (.ref pR5), .unset] [(.int (1 : Int32))] _
    refine XS.istore X7.here hx rfl (hb hby at_37) rfl (l' := #[.val (.int pI1), .val (.int pI2), .val (.int (0 : Int32)), .val (.int (5 : Int32)), .val (.ref pR3), .val (.ref pR5), .val (.int (1 : Int32))]) rfl ?_
    show oS p e below T7 m 39 #[.val (.int pI1), .val (.int pI2), .val (.int (0 : Int32)), .val (.int (5 : Int32)), .val (.ref pR3), .val (.ref pR5), .val (.int (1 : Int32))] [] _
    refine XS.aload X7.here hx rfl (hb hby at_39) rfl rfl ?_
    show oS p e below T7 m 41 #[.val (.int pI1), .val (.int pI2), .val (.int (0 : Int32)), .val (.int (5 : Int32)), .val (.ref pR3), .val (.ref pR5), .val (.int (1 : Int32))] [(.ref pR3)] _
    refine XS.aload X7.here hx rfl (hb hby at_41) rfl rfl ?_
    show oS p e below T7 m 43 #[.val (.int pI1), .val (.int pI2), .val (.int (0 : Int32)), .val (.int (5 : Int32)), .val (.ref pR3), .val (.ref pR5), .val (.int (1 : Int32))] [(.ref pR5), (.ref pR3)] _
    refine st11.trans ?_
    show oS p e below T11 m 46 #[.val (.int pI1), .val (.int pI2), .val (.int (0 : Int32)), .val (.int (5 : Int32)), .val (.ref pR3), .val (.ref pR5), .val (.int (1 : Int32))] [(.int (1 : Int32))] _
    refine XS.iload X11.here hx rfl (hb hby at_46) rfl ?_
    show oS p e below T11 m 48 #[.val (.int pI1), .val (.int pI2), .val (.int (0 : Int32)), .val (.int (5 : Int32)), .val (.ref pR3), .val (.ref pR5), .val (.int (1 : Int32))] [(.int (1 : Int32)), (.int (1 : Int32))] _
    refine XS.icmpNo X11.here hx rfl (hb hby at_48) rfl (teq (by decide : (1 : Int32) = (1 : Int32))).2 ?_
    show oS p e below T11 m 51 #[.val (.int pI1), .val (.int pI2), .val (.int (0 : Int32)), .val (.int (5 : Int32)), .val (.ref pR3), .val (.ref pR5), .val (.int (1 : Int32))] [] _
    refine XS.iconst X11.here hx rfl (hb hby at_51) ?_
    show oS p e below T11 m 52 #[.val (.int pI1), .val (.int pI2), .val (.int (0 : Int32)), .val (.int (5 : Int32)), .val (.ref pR3), .val (.ref pR5), .val (.int (1 : Int32))] [(.int (1 : Int32))] _
    refine XS.goto X11.here hx rfl (pc0 := 52) (pc' := 56) rfl (hb hby at_52) (by decide) (by decide) ?_
    show oS p e below T11 m 56 #[.val (.int pI1), .val (.int pI2), .val (.int (0 : Int32)), .val (.int (5 : Int32)), .val (.ref pR3), .val (.ref pR5), .val (.int (1 : Int32))] [(.int (1 : Int32))] _
    exact retN X11 hx (t := .boolean) Bd.returns (by simp) (hb hby at_56) hr
  · show Qlaw0_5 Z pI1 pI2 pR3 pR5 pI8 pR9 pI10 h0 n0 _ T11.heap _
    rw [e11]
    exact ⟨rfl, N11⟩
theorem ef_law1_0 (m : MethodId) (pI1 : Int32) (pI2 : Int32) : entryFrame m #[(.int pI1), (.int pI2)] maxLocals = mkF m 0 #[.val (.int pI1), .val (.int pI2), .unset, .unset, .unset, .unset, .unset] [] := by first | (simp [entryFrame, mkF, argsToLocals, Value.category, maxLocals]; done) | rfl
def Qlaw1_0 (Z : State) (pI1 : Int32) (pI2 : Int32) (pR3 : Addr) (pR5 : Addr) (pI8 : Int32) (pR9 : Addr) (pI10 : Int32) (h0 : Heap) (n0 : Nat) (v : Option Value) (h : Heap) (L : List Loc) : Prop := v = some (.int (1 : Int32)) ∧ Fr n0 L
set_option maxRecDepth 65536 in
set_option maxHeartbeats 40000000 in
theorem law1_0 (l : Launch) (Z : State) (a0 : Array Value) (hw : ∀ d ∈ tables_1, d.before a0 Z = true) (ws : List Jvm.Cond) (pI1 : Int32) (pI2 : Int32) (pR3 : Addr) (pR5 : Addr) (pI8 : Int32) (pR9 : Addr) (pI10 : Int32) (h0 : Heap) (n0 : Nat) (Z0 : n0 ≤ h0.size) (S_DocumentView_ORDER_PRICES : Sta Z h0 "com/example/willenhall/willenhall/external/DocumentView" "ORDER_PRICES" "Lcom/example/willenhall/willenhall/external/DocumentView;" (.ref pR3)) (S_ExternalRole_BASIC : Sta Z h0 "com/example/willenhall/willenhall/external/ExternalRole" "BASIC" "Lcom/example/willenhall/willenhall/external/ExternalRole;" (.ref pR5)) (F_ordinal_pR5 : Fld Z h0 pR5 "java/lang/Enum" "ordinal" "I" (.int pI8)) (E_pR5 : Exa Z h0 pR5 "com/example/willenhall/willenhall/external/ExternalRole") (F_lowestRole_pR3 : Fld Z h0 pR3 "com/example/willenhall/willenhall/external/DocumentView" "lowestRole" "Lcom/example/willenhall/willenhall/external/ExternalRole;" (.ref pR9)) (F_ordinal_pR9 : Fld Z h0 pR9 "java/lang/Enum" "ordinal" "I" (.int pI10)) (E_pR9 : Exa Z h0 pR9 "com/example/willenhall/willenhall/external/ExternalRole") (E_pR3 : Exa Z h0 pR3 "com/example/willenhall/willenhall/external/DocumentView") (hc2 : (pI1 &&& (3 : Int32)) = (1 : Int32)) (hc10 : ((pI2 &&& (2147483647 : Int32)) % (6 : Int32)) = (0 : Int32)) (hc43 : pI8 < pI10) :
    MetFree l x (head1 (Jvm.Cond.code x code maxLocals ret :: ws) room_1) (fun a U => a = #[(.int pI1), (.int pI2)] ∧ Z.Warmed39 U.vm ∧ U.heap = h0) (fun _ _ _ _ _ => True) (fun _ U o U' => ∃ v L, o = .returned v ∧ Qlaw1_0 Z pI1 pI2 pR3 pR5 pI8 pR9 pI10 h0 n0 v U'.heap L ∧ FrameEnd U o U' L room_1.cells room_1.slots) := by
  refine MetFree.of_bodySF (plainFor_of_name pn_0) hisR ?_
  intro p e s m args below meth c s₁ Bd hml0 hP hK
  obtain ⟨rfl, hZ, hh⟩ := hP
  have hx := Bd.exec
  have hby := Bd.bytes
  have hml : c.maxLocals = 7 := hml0
  have hown : s.vm.findClass "com/example/willenhall/willenhall/external/DocumentViewIsReachedByPinLaw" = some m.cls := findClass_of_methodNamed Bd.named
  have hnm := (name_of_methodNamed Bd.named Bd.method).1
  have X0 : Stand p l e room_1 s m #[(.int pI1), (.int pI2)] below meth c s₁ [] 0 0 := Stand.of_body Bd
  have e0 : s₁.heap = h0 := by rw [← hh, Bd.state]; rfl
  have N0 := Fr.nil n0
  have pre0 : ∀ t, Steps p.tables e below (s₁.setTop (mkF m 0 #[.val (.int pI1), .val (.int pI2), .unset, .unset, .unset, .unset, .unset] [])) t → Steps p.tables e below (s₁.setTop (entryFrame m #[(.int pI1), (.int pI2)] maxLocals)) t := fun t k => castTop (ef_law1_0 m pI1 pI2) k
  obtain ⟨_, _, ⟨T4, L4, k4, n4⟩, -, X4, ⟨Lc4, hQ4, l4, y4, z4⟩, st4⟩ := Jvm.LawKit.callS X0 hx (y := yN0) hown (mvT hZ (ow hw 1 rfl)) (mvT hZ (ow hw 2 rfl)) (mvT hZ (ow hw 3 rfl)) (mvT hZ (ow hw 4 rfl)) (by decide) (backOf (W := 0) (view1 l Z a0 hw [] pR3 h0 n0 Z0 S_DocumentView_ORDER_PRICES) hZ (ow hw 4 rfl) (ow hw 3 rfl) (by decide) (by decide)) (g := (mkF m 13 #[.val (.int pI1), .val (.int pI2), .val (.int (1 : Int32)), .val (.int (0 : Int32)), .unset, .unset, .unset] [(.int (1 : Int32))])) rfl (by rw [hml]; rfl) (argsL := [(.int (1 : Int32))]) (rest := []) (lenOf pd_1 rfl) rfl (by show 2 * 0 + _ ≤ _; exact Nat.le_of_eq rfl) (hb hby at_13) (fun _ _ => ⟨rfl, e0, (by decide : 0 + 0 ≤ _), (by decide : 0 + 0 ≤ _)⟩)
  dsimp only [Pt.U, Pt.locs, Pt.cells, Pt.slots] at X4 l4 y4 z4 st4 hQ4
  subst l4 y4 z4
  obtain ⟨rfl, Nq4, e4⟩ := hQ4
  have N4 := Fr.app N0 Nq4
  obtain ⟨_, _, ⟨T6, L6, k6, n6⟩, -, X6, ⟨Lc6, hQ6, l6, y6, z6⟩, st6⟩ := Jvm.LawKit.callS X4 hx (y := yN1) hown (mvT hZ (ow hw 8 rfl)) (mvT hZ (ow hw 9 rfl)) (mvT hZ (ow hw 3 rfl)) (mvT hZ (ow hw 10 rfl)) (by decide) (backOf (W := 0) (role0 l Z a0 hw [] pR5 h0 n0 Z0 S_ExternalRole_BASIC) hZ (ow hw 10 rfl) (ow hw 3 rfl) (by decide) (by decide)) (g := (mkF m 19 #[.val (.int pI1), .val (.int pI2), .val (.int (1 : Int32)), .val (.int (0 : Int32)), .val (.ref pR3), .unset, .unset] [(.int (0 : Int32))])) rfl (by rw [hml]; rfl) (argsL := [(.int (0 : Int32))]) (rest := []) (lenOf pd_2 rfl) rfl (by show 2 * 0 + _ ≤ _; exact Nat.le_of_eq rfl) (hb hby at_19) (fun _ _ => ⟨rfl, e4, (by decide : 0 + 0 ≤ _), (by decide : 0 + 0 ≤ _)⟩)
  dsimp only [Pt.U, Pt.locs, Pt.cells, Pt.slots] at X6 l6 y6 z6 st6 hQ6
  subst l6 y6 z6
  obtain ⟨rfl, Nq6, e6⟩ := hQ6
  have N6 := Fr.app N4 Nq6
  obtain ⟨_, _, ⟨T7, L7, k7, n7⟩, -, X7, ⟨Lc7, hQ7, l7, y7, z7⟩, st7⟩ := Jvm.LawKit.callS X6 hx (y := yN2) hown (mvT hZ (ow hw 14 rfl)) (mvT hZ (ow hw 15 rfl)) (mvT hZ (ow hw 3 rfl)) (mvT hZ (ow hw 16 rfl)) (by decide) (backOf (W := 1) (lowest1 l Z a0 hw []  h0 n0 Z0 ) hZ (ow hw 16 rfl) (ow hw 3 rfl) (by decide) (by decide)) (g := (mkF m 26 #[.val (.int pI1), .val (.int pI2), .val (.int (1 : Int32)), .val (.int (0 : Int32)), .val (.ref pR3), .val (.ref pR5), .unset] [(.int (1 : Int32)), (.int (0 : Int32))])) rfl (by rw [hml]; rfl) (argsL := [(.int (1 : Int32))]) (rest := [(.int (0 : Int32))]) (lenOf pd_3 rfl) rfl (by show 2 * 0 + _ ≤ _; exact Nat.le_of_eq rfl) (hb hby at_26) (fun _ _ => ⟨rfl, e6, (by decide : 0 + 0 ≤ _), (by decide : 0 + 0 ≤ _)⟩)
  dsimp only [Pt.U, Pt.locs, Pt.cells, Pt.slots] at X7 l7 y7 z7 st7 hQ7
  subst l7 y7 z7
  obtain ⟨rfl, Nq7, e7⟩ := hQ7
  have N7 := Fr.app N6 Nq7
  obtain ⟨cq11, kq11, q11a, q11b, q11c⟩ := isOf hZ e7 E_pR3
  obtain ⟨_, _, ⟨T11, L11, k11, n11⟩, -, X11, ⟨Lc11, hQ11, l11, y11, z11⟩, st11⟩ := X7.virtualBack hx (y := yN6) (z := yN6) hown (mvT hZ (ow hw 17 rfl)) (mvT hZ (ow hw 18 rfl)) (notFace_of_selects (args := #[]) (mvT hZ (ow hw 20 rfl))) (mvT hZ (ow hw 20 rfl)) (mvT hZ (ow hw 19 rfl)) (by decide) (backOf (W := 0) (irbN l Z a0 hw [] pR3 pR5 pI8 pR9 pI10 h0 n0 Z0 F_ordinal_pR5 E_pR5 F_lowestRole_pR3 F_ordinal_pR9 E_pR9 hc43) hZ (ow hw 21 rfl) (ow hw 6 rfl) (by decide) (by decide)) q11a q11c (g := (mkF m 43 #[.val (.int pI1), .val (.int pI2), .val (.int (1 : Int32)), .val (.int (0 : Int32)), .val (.ref pR3), .val (.ref pR5), .val (.int (0 : Int32))] [(.ref pR5), (.ref pR3)])) rfl (by rw [hml]; rfl) (Steps.refl _) (argsL := [(.ref pR5)]) (rest := []) (lenOf pd_4 rfl) rfl (by show 2 * 0 + _ ≤ _; exact Nat.le_of_eq rfl) (hb hby at_43) (fun _ _ => ⟨rfl, e7, (by decide : 0 + 0 ≤ _), (by decide : 0 + 0 ≤ _)⟩)
  dsimp only [Pt.U, Pt.locs, Pt.cells, Pt.slots] at X11 l11 y11 z11 st11 hQ11
  subst l11 y11 z11
  obtain ⟨rfl, Nq11, e11⟩ := hQ11
  have N11 := Fr.app N7 Nq11
  obtain ⟨fs, hr, hrun, hended, hW, hsame⟩ := X11.leave (v := some (.int (1 : Int32))) (fun h => by rw [Bd.returns] at h; cases h)
  refine ⟨_, _, pre0 _ ?_, hrun, hended, _, _, rfl, ?_, ⟨_, rfl⟩, hW, hsame.mono (by decide) (by decide)⟩
  · show oS p e below s₁ m 0 #[.val (.int pI1), .val (.int pI2), .unset, .unset, .unset, .unset, .unset] [] _
    refine XS.iloadN X0.here hx rfl (hb hby at_0) rfl ?_
    show oS p e below s₁ m 1 #[.val (.int pI1), .val (.int pI2), .unset, .unset, .unset, .unset, .unset] [(.int pI1)] _
    refine XS.iconst X0.here hx rfl (hb hby at_1) ?_
    show oS p e below s₁ m 2 #[.val (.int pI1), .val (.int pI2), .unset, .unset, .unset, .unset, .unset] [(.int (3 : Int32)), (.int pI1)] _
    refine XS.iand X0.here hx rfl (hb hby at_2) rfl ?_
    show Steps p.tables e below (s₁.setTop (mkF m 3 #[.val (.int pI1), .val (.int pI2), .unset, .unset, .unset, .unset, .unset] [(.int (pI1 &&& (3 : Int32)))])) _
    rw [hc2]
    show oS p e below s₁ m 3 #[.val (.int pI1), .val (.int pI2), .unset, .unset, .unset, .unset, .unset] [(.int (1 : Int32))] _
    refine XS.istoreN X0.here hx rfl (hb hby at_3) rfl (l' := #[.val (.int pI1), .val (.int pI2), .val (.int (1 : Int32)), .unset, .unset, .unset, .unset]) rfl ?_
    show oS p e below s₁ m 4 #[.val (.int pI1), .val (.int pI2), .val (.int (1 : Int32)), .unset, .unset, .unset, .unset] [] _
    refine XS.iloadN X0.here hx rfl (hb hby at_4) rfl ?_
    show oS p e below s₁ m 5 #[.val (.int pI1), .val (.int pI2), .val (.int (1 : Int32)), .unset, .unset, .unset, .unset] [(.int pI2)] _
    refine X0.ldcInt hx hown (mvT hZ (ow hw 0 rfl)) (g := (mkF m 5 #[.val (.int pI1), .val (.int pI2), .val (.int (1 : Int32)), .unset, .unset, .unset, .unset] [(.int pI2)])) rfl (hb hby at_5) _ ?_
    show oS p e below s₁ m 7 #[.val (.int pI1), .val (.int pI2), .val (.int (1 : Int32)), .unset, .unset, .unset, .unset] [(.int (2147483647 : Int32)), (.int pI2)] _
    refine XS.iand X0.here hx rfl (hb hby at_7) rfl ?_
    show oS p e below s₁ m 8 #[.val (.int pI1), .val (.int pI2), .val (.int (1 : Int32)), .unset, .unset, .unset, .unset] [(.int (pI2 &&& (2147483647 : Int32)))] _
    refine XS.bipush X0.here hx rfl (hb hby at_8) ?_
    show oS p e below s₁ m 10 #[.val (.int pI1), .val (.int pI2), .val (.int (1 : Int32)), .unset, .unset, .unset, .unset] [(.int (6 : Int32)), (.int (pI2 &&& (2147483647 : Int32)))] _
    refine iremM (g := (mkF m 10 #[.val (.int pI1), .val (.int pI2), .val (.int (1 : Int32)), .unset, .unset, .unset, .unset] [(.int (6 : Int32)), (.int (pI2 &&& (2147483647 : Int32)))])) X0 hx rfl (hb hby at_10) rfl (by decide) ?_
    show Steps p.tables e below (s₁.setTop (mkF m 11 #[.val (.int pI1), .val (.int pI2), .val (.int (1 : Int32)), .unset, .unset, .unset, .unset] [(.int ((pI2 &&& (2147483647 : Int32)) % (6 : Int32)))])) _
    rw [hc10]
    show oS p e below s₁ m 11 #[.val (.int pI1), .val (.int pI2), .val (.int (1 : Int32)), .unset, .unset, .unset, .unset] [(.int (0 : Int32))] _
    refine XS.istoreN X0.here hx rfl (hb hby at_11) rfl (l' := #[.val (.int pI1), .val (.int pI2), .val (.int (1 : Int32)), .val (.int (0 : Int32)), .unset, .unset, .unset]) rfl ?_
    show oS p e below s₁ m 12 #[.val (.int pI1), .val (.int pI2), .val (.int (1 : Int32)), .val (.int (0 : Int32)), .unset, .unset, .unset] [] _
    refine XS.iloadN X0.here hx rfl (hb hby at_12) rfl ?_
    show oS p e below s₁ m 13 #[.val (.int pI1), .val (.int pI2), .val (.int (1 : Int32)), .val (.int (0 : Int32)), .unset, .unset, .unset] [(.int (1 : Int32))] _
    refine st4 _ ?_
    show oS p e below T4 m 16 #[.val (.int pI1), .val (.int pI2), .val (.int (1 : Int32)), .val (.int (0 : Int32)), .unset, .unset, .unset] [(.ref pR3)] _
    refine XS.astore X4.here hx rfl (hb hby at_16) rfl rfl (l' := #[.val (.int pI1), .val (.int pI2), .val (.int (1 : Int32)), .val (.int (0 : Int32)), .val (.ref pR3), .unset, .unset]) rfl ?_
    show oS p e below T4 m 18 #[.val (.int pI1), .val (.int pI2), .val (.int (1 : Int32)), .val (.int (0 : Int32)), .val (.ref pR3), .unset, .unset] [] _
    refine XS.iloadN X4.here hx rfl (hb hby at_18) rfl ?_
    show oS p e below T4 m 19 #[.val (.int pI1), .val (.int pI2), .val (.int (1 : Int32)), .val (.int (0 : Int32)), .val (.ref pR3), .unset, .unset] [(.int (0 : Int32))] _
    refine st6 _ ?_
    show oS p e below T6 m 22 #[.val (.int pI1), .val (.int pI2), .val (.int (1 : Int32)), .val (.int (0 : Int32)), .val (.ref pR3), .unset, .unset] [(.ref pR5)] _
    refine XS.astore X6.here hx rfl (hb hby at_22) rfl rfl (l' := #[.val (.int pI1), .val (.int pI2), .val (.int (1 : Int32)), .val (.int (0 : Int32)), .val (.ref pR3), .val (.ref pR5), .unset]) rfl ?_
    show oS p e below T6 m 24 #[.val (.int pI1), .val (.int pI2), .val (.int (1 : Int32)), .val (.int (0 : Int32)), .val (.ref pR3), .val (.ref pR5), .unset] [] _
    refine XS.iloadN X6.here hx rfl (hb hby at_24) rfl ?_
    show oS p e below T6 m 25 #[.val (.int pI1), .val (.int pI2), .val (.int (1 : Int32)), .val (.int (0 : Int32)), .val (.ref pR3), .val (.ref pR5), .unset] [(.int (0 : Int32))] _
    refine XS.iloadN X6.here hx rfl (hb hby at_25) rfl ?_
    show oS p e below T6 m 26 #[.val (.int pI1), .val (.int pI2), .val (.int (1 : Int32)), .val (.int (0 : Int32)), .val (.ref pR3), .val (.ref pR5), .unset] [(.int (1 : Int32)), (.int (0 : Int32))] _
    refine st7 _ ?_
    show oS p e below T7 m 29 #[.val (.int pI1), .val (.int pI2), .val (.int (1 : Int32)), .val (.int (0 : Int32)), .val (.ref pR3), .val (.ref pR5), .unset] [(.int (2 : Int32)), (.int (0 : Int32))] _
    refine XS.icmpYes X7.here hx rfl (pc0 := 29) (pc' := 36) rfl (hb hby at_29) rfl (tlt (by decide : (0 : Int32) < (2 : Int32))).1 (by decide) (by decide) ?_
    show oS p e below T7 m 36 #[.val (.int pI1), .val (.int pI2), .val (.int (1 : Int32)), .val (.int (0 : Int32)), .val (.ref pR3), .val (.ref pR5), .unset] [] _
    refine XS.iconst X7.here hx rfl (hb hby at_36) ?_
    show oS p e below T7 m 37 #[.val (.int pI1), .val (.int pI2), .val (.int (1 : Int32)), .val (.int (0 : Int32)), .val (.ref pR3), .val (.ref pR5), .unset] [(.int (0 : Int32))] _
    refine XS.istore X7.here hx rfl (hb hby at_37) rfl (l' := #[.val (.int pI1), .val (.int pI2), .val (.int (1 : Int32)), .val (.int (0 : Int32)), .val (.ref pR3), .val (.ref pR5), .val (.int (0 : Int32))]) rfl ?_
    show oS p e below T7 m 39 #[.val (.int pI1), .val (.int pI2), .val (.int (1 : Int32)), .val (.int (0 : Int32)), .val (.ref pR3), .val (.ref pR5), .val (.int (0 : Int32))] [] _
    refine XS.aload X7.here hx rfl (hb hby at_39) rfl rfl ?_
    show oS p e below T7 m 41 #[.val (.int pI1), .val (.int pI2), .val (.int (1 : Int32)), .val (.int (0 : Int32)), .val (.ref pR3), .val (.ref pR5), .val (.int (0 : Int32))] [(.ref pR3)] _
    refine XS.aload X7.here hx rfl (hb hby at_41) rfl rfl ?_
    show oS p e below T7 m 43 #[.val (.int pI1), .val (.int pI2), .val (.int (1 : Int32)), .val (.int (0 : Int32)), .val (.ref pR3), .val (.ref pR5), .val (.int (0 : Int32))] [(.ref pR5), (.ref pR3)] _
    refine st11.trans ?_
    show oS p e below T11 m 46 #[.val (.int pI1), .val (.int pI2), .val (.int (1 : Int32)), .val (.int (0 : Int32)), .val (.ref pR3), .val (.ref pR5), .val (.int (0 : Int32))] [(.int (0 : Int32))] _
    refine XS.iload X11.here hx rfl (hb hby at_46) rfl ?_
    show oS p e below T11 m 48 #[.val (.int pI1), .val (.int pI2), .val (.int (1 : Int32)), .val (.int (0 : Int32)), .val (.ref pR3), .val (.ref pR5), .val (.int (0 : Int32))] [(.int (0 : Int32)), (.int (0 : Int32))] _
    refine XS.icmpNo X11.here hx rfl (hb hby at_48) rfl (teq (by decide : (0 : Int32) = (0 : Int32))).2 ?_
    show oS p e below T11 m 51 #[.val (.int pI1), .val (.int pI2), .val (.int (1 : Int32)), .val (.int (0 : Int32)), .val (.ref pR3), .val (.ref pR5), .val (.int (0 : Int32))] [] _
    refine XS.iconst X11.here hx rfl (hb hby at_51) ?_
    show oS p e below T11 m 52 #[.val (.int pI1), .val (.int pI2), .val (.int (1 : Int32)), .val (.int (0 : Int32)), .val (.ref pR3), .val (.ref pR5), .val (.int (0 : Int32))] [(.int (1 : Int32))] _
    refine XS.goto X11.here hx rfl (pc0 := 52) (pc' := 56) rfl (hb hby at_52) (by decide) (by decide) ?_
    show oS p e below T11 m 56 #[.val (.int pI1), .val (.int pI2), .val (.int (1 : Int32)), .val (.int (0 : Int32)), .val (.ref pR3), .val (.ref pR5), .val (.int (0 : Int32))] [(.int (1 : Int32))] _
    exact retN X11 hx (t := .boolean) Bd.returns (by simp) (hb hby at_56) hr
  · show Qlaw1_0 Z pI1 pI2 pR3 pR5 pI8 pR9 pI10 h0 n0 _ T11.heap _
    rw [e11]
    exact ⟨rfl, N11⟩
theorem ef_law1_1 (m : MethodId) (pI1 : Int32) (pI2 : Int32) : entryFrame m #[(.int pI1), (.int pI2)] maxLocals = mkF m 0 #[.val (.int pI1), .val (.int pI2), .unset, .unset, .unset, .unset, .unset] [] := by first | (simp [entryFrame, mkF, argsToLocals, Value.category, maxLocals]; done) | rfl
def Qlaw1_1 (Z : State) (pI1 : Int32) (pI2 : Int32) (pR3 : Addr) (pR5 : Addr) (pI8 : Int32) (pR9 : Addr) (pI10 : Int32) (h0 : Heap) (n0 : Nat) (v : Option Value) (h : Heap) (L : List Loc) : Prop := v = some (.int (1 : Int32)) ∧ Fr n0 L
set_option maxRecDepth 65536 in
set_option maxHeartbeats 40000000 in
theorem law1_1 (l : Launch) (Z : State) (a0 : Array Value) (hw : ∀ d ∈ tables_1, d.before a0 Z = true) (ws : List Jvm.Cond) (pI1 : Int32) (pI2 : Int32) (pR3 : Addr) (pR5 : Addr) (pI8 : Int32) (pR9 : Addr) (pI10 : Int32) (h0 : Heap) (n0 : Nat) (Z0 : n0 ≤ h0.size) (S_DocumentView_ORDER_PRICES : Sta Z h0 "com/example/willenhall/willenhall/external/DocumentView" "ORDER_PRICES" "Lcom/example/willenhall/willenhall/external/DocumentView;" (.ref pR3)) (S_ExternalRole_ORDERS : Sta Z h0 "com/example/willenhall/willenhall/external/ExternalRole" "ORDERS" "Lcom/example/willenhall/willenhall/external/ExternalRole;" (.ref pR5)) (F_ordinal_pR5 : Fld Z h0 pR5 "java/lang/Enum" "ordinal" "I" (.int pI8)) (E_pR5 : Exa Z h0 pR5 "com/example/willenhall/willenhall/external/ExternalRole") (F_lowestRole_pR3 : Fld Z h0 pR3 "com/example/willenhall/willenhall/external/DocumentView" "lowestRole" "Lcom/example/willenhall/willenhall/external/ExternalRole;" (.ref pR9)) (F_ordinal_pR9 : Fld Z h0 pR9 "java/lang/Enum" "ordinal" "I" (.int pI10)) (E_pR9 : Exa Z h0 pR9 "com/example/willenhall/willenhall/external/ExternalRole") (E_pR3 : Exa Z h0 pR3 "com/example/willenhall/willenhall/external/DocumentView") (hc2 : (pI1 &&& (3 : Int32)) = (1 : Int32)) (hc10 : ((pI2 &&& (2147483647 : Int32)) % (6 : Int32)) = (1 : Int32)) (hc43 : pI8 < pI10) :
    MetFree l x (head1 (Jvm.Cond.code x code maxLocals ret :: ws) room_1) (fun a U => a = #[(.int pI1), (.int pI2)] ∧ Z.Warmed39 U.vm ∧ U.heap = h0) (fun _ _ _ _ _ => True) (fun _ U o U' => ∃ v L, o = .returned v ∧ Qlaw1_1 Z pI1 pI2 pR3 pR5 pI8 pR9 pI10 h0 n0 v U'.heap L ∧ FrameEnd U o U' L room_1.cells room_1.slots) := by
  refine MetFree.of_bodySF (plainFor_of_name pn_0) hisR ?_
  intro p e s m args below meth c s₁ Bd hml0 hP hK
  obtain ⟨rfl, hZ, hh⟩ := hP
  have hx := Bd.exec
  have hby := Bd.bytes
  have hml : c.maxLocals = 7 := hml0
  have hown : s.vm.findClass "com/example/willenhall/willenhall/external/DocumentViewIsReachedByPinLaw" = some m.cls := findClass_of_methodNamed Bd.named
  have hnm := (name_of_methodNamed Bd.named Bd.method).1
  have X0 : Stand p l e room_1 s m #[(.int pI1), (.int pI2)] below meth c s₁ [] 0 0 := Stand.of_body Bd
  have e0 : s₁.heap = h0 := by rw [← hh, Bd.state]; rfl
  have N0 := Fr.nil n0
  have pre0 : ∀ t, Steps p.tables e below (s₁.setTop (mkF m 0 #[.val (.int pI1), .val (.int pI2), .unset, .unset, .unset, .unset, .unset] [])) t → Steps p.tables e below (s₁.setTop (entryFrame m #[(.int pI1), (.int pI2)] maxLocals)) t := fun t k => castTop (ef_law1_1 m pI1 pI2) k
  obtain ⟨_, _, ⟨T4, L4, k4, n4⟩, -, X4, ⟨Lc4, hQ4, l4, y4, z4⟩, st4⟩ := Jvm.LawKit.callS X0 hx (y := yN0) hown (mvT hZ (ow hw 1 rfl)) (mvT hZ (ow hw 2 rfl)) (mvT hZ (ow hw 3 rfl)) (mvT hZ (ow hw 4 rfl)) (by decide) (backOf (W := 0) (view1 l Z a0 hw [] pR3 h0 n0 Z0 S_DocumentView_ORDER_PRICES) hZ (ow hw 4 rfl) (ow hw 3 rfl) (by decide) (by decide)) (g := (mkF m 13 #[.val (.int pI1), .val (.int pI2), .val (.int (1 : Int32)), .val (.int (1 : Int32)), .unset, .unset, .unset] [(.int (1 : Int32))])) rfl (by rw [hml]; rfl) (argsL := [(.int (1 : Int32))]) (rest := []) (lenOf pd_1 rfl) rfl (by show 2 * 0 + _ ≤ _; exact Nat.le_of_eq rfl) (hb hby at_13) (fun _ _ => ⟨rfl, e0, (by decide : 0 + 0 ≤ _), (by decide : 0 + 0 ≤ _)⟩)
  dsimp only [Pt.U, Pt.locs, Pt.cells, Pt.slots] at X4 l4 y4 z4 st4 hQ4
  subst l4 y4 z4
  obtain ⟨rfl, Nq4, e4⟩ := hQ4
  have N4 := Fr.app N0 Nq4
  obtain ⟨_, _, ⟨T6, L6, k6, n6⟩, -, X6, ⟨Lc6, hQ6, l6, y6, z6⟩, st6⟩ := Jvm.LawKit.callS X4 hx (y := yN1) hown (mvT hZ (ow hw 8 rfl)) (mvT hZ (ow hw 9 rfl)) (mvT hZ (ow hw 3 rfl)) (mvT hZ (ow hw 10 rfl)) (by decide) (backOf (W := 0) (role1 l Z a0 hw [] pR5 h0 n0 Z0 S_ExternalRole_ORDERS) hZ (ow hw 10 rfl) (ow hw 3 rfl) (by decide) (by decide)) (g := (mkF m 19 #[.val (.int pI1), .val (.int pI2), .val (.int (1 : Int32)), .val (.int (1 : Int32)), .val (.ref pR3), .unset, .unset] [(.int (1 : Int32))])) rfl (by rw [hml]; rfl) (argsL := [(.int (1 : Int32))]) (rest := []) (lenOf pd_2 rfl) rfl (by show 2 * 0 + _ ≤ _; exact Nat.le_of_eq rfl) (hb hby at_19) (fun _ _ => ⟨rfl, e4, (by decide : 0 + 0 ≤ _), (by decide : 0 + 0 ≤ _)⟩)
  dsimp only [Pt.U, Pt.locs, Pt.cells, Pt.slots] at X6 l6 y6 z6 st6 hQ6
  subst l6 y6 z6
  obtain ⟨rfl, Nq6, e6⟩ := hQ6
  have N6 := Fr.app N4 Nq6
  obtain ⟨_, _, ⟨T7, L7, k7, n7⟩, -, X7, ⟨Lc7, hQ7, l7, y7, z7⟩, st7⟩ := Jvm.LawKit.callS X6 hx (y := yN2) hown (mvT hZ (ow hw 14 rfl)) (mvT hZ (ow hw 15 rfl)) (mvT hZ (ow hw 3 rfl)) (mvT hZ (ow hw 16 rfl)) (by decide) (backOf (W := 1) (lowest1 l Z a0 hw []  h0 n0 Z0 ) hZ (ow hw 16 rfl) (ow hw 3 rfl) (by decide) (by decide)) (g := (mkF m 26 #[.val (.int pI1), .val (.int pI2), .val (.int (1 : Int32)), .val (.int (1 : Int32)), .val (.ref pR3), .val (.ref pR5), .unset] [(.int (1 : Int32)), (.int (1 : Int32))])) rfl (by rw [hml]; rfl) (argsL := [(.int (1 : Int32))]) (rest := [(.int (1 : Int32))]) (lenOf pd_3 rfl) rfl (by show 2 * 0 + _ ≤ _; exact Nat.le_of_eq rfl) (hb hby at_26) (fun _ _ => ⟨rfl, e6, (by decide : 0 + 0 ≤ _), (by decide : 0 + 0 ≤ _)⟩)
  dsimp only [Pt.U, Pt.locs, Pt.cells, Pt.slots] at X7 l7 y7 z7 st7 hQ7
  subst l7 y7 z7
  obtain ⟨rfl, Nq7, e7⟩ := hQ7
  have N7 := Fr.app N6 Nq7
  obtain ⟨cq11, kq11, q11a, q11b, q11c⟩ := isOf hZ e7 E_pR3
  obtain ⟨_, _, ⟨T11, L11, k11, n11⟩, -, X11, ⟨Lc11, hQ11, l11, y11, z11⟩, st11⟩ := X7.virtualBack hx (y := yN6) (z := yN6) hown (mvT hZ (ow hw 17 rfl)) (mvT hZ (ow hw 18 rfl)) (notFace_of_selects (args := #[]) (mvT hZ (ow hw 20 rfl))) (mvT hZ (ow hw 20 rfl)) (mvT hZ (ow hw 19 rfl)) (by decide) (backOf (W := 0) (irbN l Z a0 hw [] pR3 pR5 pI8 pR9 pI10 h0 n0 Z0 F_ordinal_pR5 E_pR5 F_lowestRole_pR3 F_ordinal_pR9 E_pR9 hc43) hZ (ow hw 21 rfl) (ow hw 6 rfl) (by decide) (by decide)) q11a q11c (g := (mkF m 43 #[.val (.int pI1), .val (.int pI2), .val (.int (1 : Int32)), .val (.int (1 : Int32)), .val (.ref pR3), .val (.ref pR5), .val (.int (0 : Int32))] [(.ref pR5), (.ref pR3)])) rfl (by rw [hml]; rfl) (Steps.refl _) (argsL := [(.ref pR5)]) (rest := []) (lenOf pd_4 rfl) rfl (by show 2 * 0 + _ ≤ _; exact Nat.le_of_eq rfl) (hb hby at_43) (fun _ _ => ⟨rfl, e7, (by decide : 0 + 0 ≤ _), (by decide : 0 + 0 ≤ _)⟩)
  dsimp only [Pt.U, Pt.locs, Pt.cells, Pt.slots] at X11 l11 y11 z11 st11 hQ11
  subst l11 y11 z11
  obtain ⟨rfl, Nq11, e11⟩ := hQ11
  have N11 := Fr.app N7 Nq11
  obtain ⟨fs, hr, hrun, hended, hW, hsame⟩ := X11.leave (v := some (.int (1 : Int32))) (fun h => by rw [Bd.returns] at h; cases h)
  refine ⟨_, _, pre0 _ ?_, hrun, hended, _, _, rfl, ?_, ⟨_, rfl⟩, hW, hsame.mono (by decide) (by decide)⟩
  · show oS p e below s₁ m 0 #[.val (.int pI1), .val (.int pI2), .unset, .unset, .unset, .unset, .unset] [] _
    refine XS.iloadN X0.here hx rfl (hb hby at_0) rfl ?_
    show oS p e below s₁ m 1 #[.val (.int pI1), .val (.int pI2), .unset, .unset, .unset, .unset, .unset] [(.int pI1)] _
    refine XS.iconst X0.here hx rfl (hb hby at_1) ?_
    show oS p e below s₁ m 2 #[.val (.int pI1), .val (.int pI2), .unset, .unset, .unset, .unset, .unset] [(.int (3 : Int32)), (.int pI1)] _
    refine XS.iand X0.here hx rfl (hb hby at_2) rfl ?_
    show Steps p.tables e below (s₁.setTop (mkF m 3 #[.val (.int pI1), .val (.int pI2), .unset, .unset, .unset, .unset, .unset] [(.int (pI1 &&& (3 : Int32)))])) _
    rw [hc2]
    show oS p e below s₁ m 3 #[.val (.int pI1), .val (.int pI2), .unset, .unset, .unset, .unset, .unset] [(.int (1 : Int32))] _
    refine XS.istoreN X0.here hx rfl (hb hby at_3) rfl (l' := #[.val (.int pI1), .val (.int pI2), .val (.int (1 : Int32)), .unset, .unset, .unset, .unset]) rfl ?_
    show oS p e below s₁ m 4 #[.val (.int pI1), .val (.int pI2), .val (.int (1 : Int32)), .unset, .unset, .unset, .unset] [] _
    refine XS.iloadN X0.here hx rfl (hb hby at_4) rfl ?_
    show oS p e below s₁ m 5 #[.val (.int pI1), .val (.int pI2), .val (.int (1 : Int32)), .unset, .unset, .unset, .unset] [(.int pI2)] _
    refine X0.ldcInt hx hown (mvT hZ (ow hw 0 rfl)) (g := (mkF m 5 #[.val (.int pI1), .val (.int pI2), .val (.int (1 : Int32)), .unset, .unset, .unset, .unset] [(.int pI2)])) rfl (hb hby at_5) _ ?_
    show oS p e below s₁ m 7 #[.val (.int pI1), .val (.int pI2), .val (.int (1 : Int32)), .unset, .unset, .unset, .unset] [(.int (2147483647 : Int32)), (.int pI2)] _
    refine XS.iand X0.here hx rfl (hb hby at_7) rfl ?_
    show oS p e below s₁ m 8 #[.val (.int pI1), .val (.int pI2), .val (.int (1 : Int32)), .unset, .unset, .unset, .unset] [(.int (pI2 &&& (2147483647 : Int32)))] _
    refine XS.bipush X0.here hx rfl (hb hby at_8) ?_
    show oS p e below s₁ m 10 #[.val (.int pI1), .val (.int pI2), .val (.int (1 : Int32)), .unset, .unset, .unset, .unset] [(.int (6 : Int32)), (.int (pI2 &&& (2147483647 : Int32)))] _
    refine iremM (g := (mkF m 10 #[.val (.int pI1), .val (.int pI2), .val (.int (1 : Int32)), .unset, .unset, .unset, .unset] [(.int (6 : Int32)), (.int (pI2 &&& (2147483647 : Int32)))])) X0 hx rfl (hb hby at_10) rfl (by decide) ?_
    show Steps p.tables e below (s₁.setTop (mkF m 11 #[.val (.int pI1), .val (.int pI2), .val (.int (1 : Int32)), .unset, .unset, .unset, .unset] [(.int ((pI2 &&& (2147483647 : Int32)) % (6 : Int32)))])) _
    rw [hc10]
    show oS p e below s₁ m 11 #[.val (.int pI1), .val (.int pI2), .val (.int (1 : Int32)), .unset, .unset, .unset, .unset] [(.int (1 : Int32))] _
    refine XS.istoreN X0.here hx rfl (hb hby at_11) rfl (l' := #[.val (.int pI1), .val (.int pI2), .val (.int (1 : Int32)), .val (.int (1 : Int32)), .unset, .unset, .unset]) rfl ?_
    show oS p e below s₁ m 12 #[.val (.int pI1), .val (.int pI2), .val (.int (1 : Int32)), .val (.int (1 : Int32)), .unset, .unset, .unset] [] _
    refine XS.iloadN X0.here hx rfl (hb hby at_12) rfl ?_
    show oS p e below s₁ m 13 #[.val (.int pI1), .val (.int pI2), .val (.int (1 : Int32)), .val (.int (1 : Int32)), .unset, .unset, .unset] [(.int (1 : Int32))] _
    refine st4 _ ?_
    show oS p e below T4 m 16 #[.val (.int pI1), .val (.int pI2), .val (.int (1 : Int32)), .val (.int (1 : Int32)), .unset, .unset, .unset] [(.ref pR3)] _
    refine XS.astore X4.here hx rfl (hb hby at_16) rfl rfl (l' := #[.val (.int pI1), .val (.int pI2), .val (.int (1 : Int32)), .val (.int (1 : Int32)), .val (.ref pR3), .unset, .unset]) rfl ?_
    show oS p e below T4 m 18 #[.val (.int pI1), .val (.int pI2), .val (.int (1 : Int32)), .val (.int (1 : Int32)), .val (.ref pR3), .unset, .unset] [] _
    refine XS.iloadN X4.here hx rfl (hb hby at_18) rfl ?_
    show oS p e below T4 m 19 #[.val (.int pI1), .val (.int pI2), .val (.int (1 : Int32)), .val (.int (1 : Int32)), .val (.ref pR3), .unset, .unset] [(.int (1 : Int32))] _
    refine st6 _ ?_
    show oS p e below T6 m 22 #[.val (.int pI1), .val (.int pI2), .val (.int (1 : Int32)), .val (.int (1 : Int32)), .val (.ref pR3), .unset, .unset] [(.ref pR5)] _
    refine XS.astore X6.here hx rfl (hb hby at_22) rfl rfl (l' := #[.val (.int pI1), .val (.int pI2), .val (.int (1 : Int32)), .val (.int (1 : Int32)), .val (.ref pR3), .val (.ref pR5), .unset]) rfl ?_
    show oS p e below T6 m 24 #[.val (.int pI1), .val (.int pI2), .val (.int (1 : Int32)), .val (.int (1 : Int32)), .val (.ref pR3), .val (.ref pR5), .unset] [] _
    refine XS.iloadN X6.here hx rfl (hb hby at_24) rfl ?_
    show oS p e below T6 m 25 #[.val (.int pI1), .val (.int pI2), .val (.int (1 : Int32)), .val (.int (1 : Int32)), .val (.ref pR3), .val (.ref pR5), .unset] [(.int (1 : Int32))] _
    refine XS.iloadN X6.here hx rfl (hb hby at_25) rfl ?_
    show oS p e below T6 m 26 #[.val (.int pI1), .val (.int pI2), .val (.int (1 : Int32)), .val (.int (1 : Int32)), .val (.ref pR3), .val (.ref pR5), .unset] [(.int (1 : Int32)), (.int (1 : Int32))] _
    refine st7 _ ?_
    show oS p e below T7 m 29 #[.val (.int pI1), .val (.int pI2), .val (.int (1 : Int32)), .val (.int (1 : Int32)), .val (.ref pR3), .val (.ref pR5), .unset] [(.int (2 : Int32)), (.int (1 : Int32))] _
    refine XS.icmpYes X7.here hx rfl (pc0 := 29) (pc' := 36) rfl (hb hby at_29) rfl (tlt (by decide : (1 : Int32) < (2 : Int32))).1 (by decide) (by decide) ?_
    show oS p e below T7 m 36 #[.val (.int pI1), .val (.int pI2), .val (.int (1 : Int32)), .val (.int (1 : Int32)), .val (.ref pR3), .val (.ref pR5), .unset] [] _
    refine XS.iconst X7.here hx rfl (hb hby at_36) ?_
    show oS p e below T7 m 37 #[.val (.int pI1), .val (.int pI2), .val (.int (1 : Int32)), .val (.int (1 : Int32)), .val (.ref pR3), .val (.ref pR5), .unset] [(.int (0 : Int32))] _
    refine XS.istore X7.here hx rfl (hb hby at_37) rfl (l' := #[.val (.int pI1), .val (.int pI2), .val (.int (1 : Int32)), .val (.int (1 : Int32)), .val (.ref pR3), .val (.ref pR5), .val (.int (0 : Int32))]) rfl ?_
    show oS p e below T7 m 39 #[.val (.int pI1), .val (.int pI2), .val (.int (1 : Int32)), .val (.int (1 : Int32)), .val (.ref pR3), .val (.ref pR5), .val (.int (0 : Int32))] [] _
    refine XS.aload X7.here hx rfl (hb hby at_39) rfl rfl ?_
    show oS p e below T7 m 41 #[.val (.int pI1), .val (.int pI2), .val (.int (1 : Int32)), .val (.int (1 : Int32)), .val (.ref pR3), .val (.ref pR5), .val (.int (0 : Int32))] [(.ref pR3)] _
    refine XS.aload X7.here hx rfl (hb hby at_41) rfl rfl ?_
    show oS p e below T7 m 43 #[.val (.int pI1), .val (.int pI2), .val (.int (1 : Int32)), .val (.int (1 : Int32)), .val (.ref pR3), .val (.ref pR5), .val (.int (0 : Int32))] [(.ref pR5), (.ref pR3)] _
    refine st11.trans ?_
    show oS p e below T11 m 46 #[.val (.int pI1), .val (.int pI2), .val (.int (1 : Int32)), .val (.int (1 : Int32)), .val (.ref pR3), .val (.ref pR5), .val (.int (0 : Int32))] [(.int (0 : Int32))] _
    refine XS.iload X11.here hx rfl (hb hby at_46) rfl ?_
    show oS p e below T11 m 48 #[.val (.int pI1), .val (.int pI2), .val (.int (1 : Int32)), .val (.int (1 : Int32)), .val (.ref pR3), .val (.ref pR5), .val (.int (0 : Int32))] [(.int (0 : Int32)), (.int (0 : Int32))] _
    refine XS.icmpNo X11.here hx rfl (hb hby at_48) rfl (teq (by decide : (0 : Int32) = (0 : Int32))).2 ?_
    show oS p e below T11 m 51 #[.val (.int pI1), .val (.int pI2), .val (.int (1 : Int32)), .val (.int (1 : Int32)), .val (.ref pR3), .val (.ref pR5), .val (.int (0 : Int32))] [] _
    refine XS.iconst X11.here hx rfl (hb hby at_51) ?_
    show oS p e below T11 m 52 #[.val (.int pI1), .val (.int pI2), .val (.int (1 : Int32)), .val (.int (1 : Int32)), .val (.ref pR3), .val (.ref pR5), .val (.int (0 : Int32))] [(.int (1 : Int32))] _
    refine XS.goto X11.here hx rfl (pc0 := 52) (pc' := 56) rfl (hb hby at_52) (by decide) (by decide) ?_
    show oS p e below T11 m 56 #[.val (.int pI1), .val (.int pI2), .val (.int (1 : Int32)), .val (.int (1 : Int32)), .val (.ref pR3), .val (.ref pR5), .val (.int (0 : Int32))] [(.int (1 : Int32))] _
    exact retN X11 hx (t := .boolean) Bd.returns (by simp) (hb hby at_56) hr
  · show Qlaw1_1 Z pI1 pI2 pR3 pR5 pI8 pR9 pI10 h0 n0 _ T11.heap _
    rw [e11]
    exact ⟨rfl, N11⟩
theorem ef_law1_2 (m : MethodId) (pI1 : Int32) (pI2 : Int32) : entryFrame m #[(.int pI1), (.int pI2)] maxLocals = mkF m 0 #[.val (.int pI1), .val (.int pI2), .unset, .unset, .unset, .unset, .unset] [] := by first | (simp [entryFrame, mkF, argsToLocals, Value.category, maxLocals]; done) | rfl
def Qlaw1_2 (Z : State) (pI1 : Int32) (pI2 : Int32) (pR3 : Addr) (pR5 : Addr) (pI8 : Int32) (pR9 : Addr) (pI10 : Int32) (h0 : Heap) (n0 : Nat) (v : Option Value) (h : Heap) (L : List Loc) : Prop := v = some (.int (1 : Int32)) ∧ Fr n0 L
set_option maxRecDepth 65536 in
set_option maxHeartbeats 40000000 in
theorem law1_2 (l : Launch) (Z : State) (a0 : Array Value) (hw : ∀ d ∈ tables_1, d.before a0 Z = true) (ws : List Jvm.Cond) (pI1 : Int32) (pI2 : Int32) (pR3 : Addr) (pR5 : Addr) (pI8 : Int32) (pR9 : Addr) (pI10 : Int32) (h0 : Heap) (n0 : Nat) (Z0 : n0 ≤ h0.size) (S_DocumentView_ORDER_PRICES : Sta Z h0 "com/example/willenhall/willenhall/external/DocumentView" "ORDER_PRICES" "Lcom/example/willenhall/willenhall/external/DocumentView;" (.ref pR3)) (S_ExternalRole_ORDERS_WITH_PRICES : Sta Z h0 "com/example/willenhall/willenhall/external/ExternalRole" "ORDERS_WITH_PRICES" "Lcom/example/willenhall/willenhall/external/ExternalRole;" (.ref pR5)) (F_ordinal_pR5 : Fld Z h0 pR5 "java/lang/Enum" "ordinal" "I" (.int pI8)) (E_pR5 : Exa Z h0 pR5 "com/example/willenhall/willenhall/external/ExternalRole") (F_lowestRole_pR3 : Fld Z h0 pR3 "com/example/willenhall/willenhall/external/DocumentView" "lowestRole" "Lcom/example/willenhall/willenhall/external/ExternalRole;" (.ref pR9)) (F_ordinal_pR9 : Fld Z h0 pR9 "java/lang/Enum" "ordinal" "I" (.int pI10)) (E_pR9 : Exa Z h0 pR9 "com/example/willenhall/willenhall/external/ExternalRole") (E_pR3 : Exa Z h0 pR3 "com/example/willenhall/willenhall/external/DocumentView") (hc2 : (pI1 &&& (3 : Int32)) = (1 : Int32)) (hc10 : ((pI2 &&& (2147483647 : Int32)) % (6 : Int32)) = (2 : Int32)) (hc43 : ¬ (pI8 < pI10)) :
    MetFree l x (head1 (Jvm.Cond.code x code maxLocals ret :: ws) room_1) (fun a U => a = #[(.int pI1), (.int pI2)] ∧ Z.Warmed39 U.vm ∧ U.heap = h0) (fun _ _ _ _ _ => True) (fun _ U o U' => ∃ v L, o = .returned v ∧ Qlaw1_2 Z pI1 pI2 pR3 pR5 pI8 pR9 pI10 h0 n0 v U'.heap L ∧ FrameEnd U o U' L room_1.cells room_1.slots) := by
  refine MetFree.of_bodySF (plainFor_of_name pn_0) hisR ?_
  intro p e s m args below meth c s₁ Bd hml0 hP hK
  obtain ⟨rfl, hZ, hh⟩ := hP
  have hx := Bd.exec
  have hby := Bd.bytes
  have hml : c.maxLocals = 7 := hml0
  have hown : s.vm.findClass "com/example/willenhall/willenhall/external/DocumentViewIsReachedByPinLaw" = some m.cls := findClass_of_methodNamed Bd.named
  have hnm := (name_of_methodNamed Bd.named Bd.method).1
  have X0 : Stand p l e room_1 s m #[(.int pI1), (.int pI2)] below meth c s₁ [] 0 0 := Stand.of_body Bd
  have e0 : s₁.heap = h0 := by rw [← hh, Bd.state]; rfl
  have N0 := Fr.nil n0
  have pre0 : ∀ t, Steps p.tables e below (s₁.setTop (mkF m 0 #[.val (.int pI1), .val (.int pI2), .unset, .unset, .unset, .unset, .unset] [])) t → Steps p.tables e below (s₁.setTop (entryFrame m #[(.int pI1), (.int pI2)] maxLocals)) t := fun t k => castTop (ef_law1_2 m pI1 pI2) k
  obtain ⟨_, _, ⟨T4, L4, k4, n4⟩, -, X4, ⟨Lc4, hQ4, l4, y4, z4⟩, st4⟩ := Jvm.LawKit.callS X0 hx (y := yN0) hown (mvT hZ (ow hw 1 rfl)) (mvT hZ (ow hw 2 rfl)) (mvT hZ (ow hw 3 rfl)) (mvT hZ (ow hw 4 rfl)) (by decide) (backOf (W := 0) (view1 l Z a0 hw [] pR3 h0 n0 Z0 S_DocumentView_ORDER_PRICES) hZ (ow hw 4 rfl) (ow hw 3 rfl) (by decide) (by decide)) (g := (mkF m 13 #[.val (.int pI1), .val (.int pI2), .val (.int (1 : Int32)), .val (.int (2 : Int32)), .unset, .unset, .unset] [(.int (1 : Int32))])) rfl (by rw [hml]; rfl) (argsL := [(.int (1 : Int32))]) (rest := []) (lenOf pd_1 rfl) rfl (by show 2 * 0 + _ ≤ _; exact Nat.le_of_eq rfl) (hb hby at_13) (fun _ _ => ⟨rfl, e0, (by decide : 0 + 0 ≤ _), (by decide : 0 + 0 ≤ _)⟩)
  dsimp only [Pt.U, Pt.locs, Pt.cells, Pt.slots] at X4 l4 y4 z4 st4 hQ4
  subst l4 y4 z4
  obtain ⟨rfl, Nq4, e4⟩ := hQ4
  have N4 := Fr.app N0 Nq4
  obtain ⟨_, _, ⟨T6, L6, k6, n6⟩, -, X6, ⟨Lc6, hQ6, l6, y6, z6⟩, st6⟩ := Jvm.LawKit.callS X4 hx (y := yN1) hown (mvT hZ (ow hw 8 rfl)) (mvT hZ (ow hw 9 rfl)) (mvT hZ (ow hw 3 rfl)) (mvT hZ (ow hw 10 rfl)) (by decide) (backOf (W := 0) (role2 l Z a0 hw [] pR5 h0 n0 Z0 S_ExternalRole_ORDERS_WITH_PRICES) hZ (ow hw 10 rfl) (ow hw 3 rfl) (by decide) (by decide)) (g := (mkF m 19 #[.val (.int pI1), .val (.int pI2), .val (.int (1 : Int32)), .val (.int (2 : Int32)), .val (.ref pR3), .unset, .unset] [(.int (2 : Int32))])) rfl (by rw [hml]; rfl) (argsL := [(.int (2 : Int32))]) (rest := []) (lenOf pd_2 rfl) rfl (by show 2 * 0 + _ ≤ _; exact Nat.le_of_eq rfl) (hb hby at_19) (fun _ _ => ⟨rfl, e4, (by decide : 0 + 0 ≤ _), (by decide : 0 + 0 ≤ _)⟩)
  dsimp only [Pt.U, Pt.locs, Pt.cells, Pt.slots] at X6 l6 y6 z6 st6 hQ6
  subst l6 y6 z6
  obtain ⟨rfl, Nq6, e6⟩ := hQ6
  have N6 := Fr.app N4 Nq6
  obtain ⟨_, _, ⟨T7, L7, k7, n7⟩, -, X7, ⟨Lc7, hQ7, l7, y7, z7⟩, st7⟩ := Jvm.LawKit.callS X6 hx (y := yN2) hown (mvT hZ (ow hw 14 rfl)) (mvT hZ (ow hw 15 rfl)) (mvT hZ (ow hw 3 rfl)) (mvT hZ (ow hw 16 rfl)) (by decide) (backOf (W := 1) (lowest1 l Z a0 hw []  h0 n0 Z0 ) hZ (ow hw 16 rfl) (ow hw 3 rfl) (by decide) (by decide)) (g := (mkF m 26 #[.val (.int pI1), .val (.int pI2), .val (.int (1 : Int32)), .val (.int (2 : Int32)), .val (.ref pR3), .val (.ref pR5), .unset] [(.int (1 : Int32)), (.int (2 : Int32))])) rfl (by rw [hml]; rfl) (argsL := [(.int (1 : Int32))]) (rest := [(.int (2 : Int32))]) (lenOf pd_3 rfl) rfl (by show 2 * 0 + _ ≤ _; exact Nat.le_of_eq rfl) (hb hby at_26) (fun _ _ => ⟨rfl, e6, (by decide : 0 + 0 ≤ _), (by decide : 0 + 0 ≤ _)⟩)
  dsimp only [Pt.U, Pt.locs, Pt.cells, Pt.slots] at X7 l7 y7 z7 st7 hQ7
  subst l7 y7 z7
  obtain ⟨rfl, Nq7, e7⟩ := hQ7
  have N7 := Fr.app N6 Nq7
  obtain ⟨cq11, kq11, q11a, q11b, q11c⟩ := isOf hZ e7 E_pR3
  obtain ⟨_, _, ⟨T11, L11, k11, n11⟩, -, X11, ⟨Lc11, hQ11, l11, y11, z11⟩, st11⟩ := X7.virtualBack hx (y := yN6) (z := yN6) hown (mvT hZ (ow hw 17 rfl)) (mvT hZ (ow hw 18 rfl)) (notFace_of_selects (args := #[]) (mvT hZ (ow hw 20 rfl))) (mvT hZ (ow hw 20 rfl)) (mvT hZ (ow hw 19 rfl)) (by decide) (backOf (W := 0) (irbY l Z a0 hw [] pR3 pR5 pI8 pR9 pI10 h0 n0 Z0 F_ordinal_pR5 E_pR5 F_lowestRole_pR3 F_ordinal_pR9 E_pR9 hc43) hZ (ow hw 21 rfl) (ow hw 6 rfl) (by decide) (by decide)) q11a q11c (g := (mkF m 43 #[.val (.int pI1), .val (.int pI2), .val (.int (1 : Int32)), .val (.int (2 : Int32)), .val (.ref pR3), .val (.ref pR5), .val (.int (1 : Int32))] [(.ref pR5), (.ref pR3)])) rfl (by rw [hml]; rfl) (Steps.refl _) (argsL := [(.ref pR5)]) (rest := []) (lenOf pd_4 rfl) rfl (by show 2 * 0 + _ ≤ _; exact Nat.le_of_eq rfl) (hb hby at_43) (fun _ _ => ⟨rfl, e7, (by decide : 0 + 0 ≤ _), (by decide : 0 + 0 ≤ _)⟩)
  dsimp only [Pt.U, Pt.locs, Pt.cells, Pt.slots] at X11 l11 y11 z11 st11 hQ11
  subst l11 y11 z11
  obtain ⟨rfl, Nq11, e11⟩ := hQ11
  have N11 := Fr.app N7 Nq11
  obtain ⟨fs, hr, hrun, hended, hW, hsame⟩ := X11.leave (v := some (.int (1 : Int32))) (fun h => by rw [Bd.returns] at h; cases h)
  refine ⟨_, _, pre0 _ ?_, hrun, hended, _, _, rfl, ?_, ⟨_, rfl⟩, hW, hsame.mono (by decide) (by decide)⟩
  · show oS p e below s₁ m 0 #[.val (.int pI1), .val (.int pI2), .unset, .unset, .unset, .unset, .unset] [] _
    refine XS.iloadN X0.here hx rfl (hb hby at_0) rfl ?_
    show oS p e below s₁ m 1 #[.val (.int pI1), .val (.int pI2), .unset, .unset, .unset, .unset, .unset] [(.int pI1)] _
    refine XS.iconst X0.here hx rfl (hb hby at_1) ?_
    show oS p e below s₁ m 2 #[.val (.int pI1), .val (.int pI2), .unset, .unset, .unset, .unset, .unset] [(.int (3 : Int32)), (.int pI1)] _
    refine XS.iand X0.here hx rfl (hb hby at_2) rfl ?_
    show Steps p.tables e below (s₁.setTop (mkF m 3 #[.val (.int pI1), .val (.int pI2), .unset, .unset, .unset, .unset, .unset] [(.int (pI1 &&& (3 : Int32)))])) _
    rw [hc2]
    show oS p e below s₁ m 3 #[.val (.int pI1), .val (.int pI2), .unset, .unset, .unset, .unset, .unset] [(.int (1 : Int32))] _
    refine XS.istoreN X0.here hx rfl (hb hby at_3) rfl (l' := #[.val (.int pI1), .val (.int pI2), .val (.int (1 : Int32)), .unset, .unset, .unset, .unset]) rfl ?_
    show oS p e below s₁ m 4 #[.val (.int pI1), .val (.int pI2), .val (.int (1 : Int32)), .unset, .unset, .unset, .unset] [] _
    refine XS.iloadN X0.here hx rfl (hb hby at_4) rfl ?_
    show oS p e below s₁ m 5 #[.val (.int pI1), .val (.int pI2), .val (.int (1 : Int32)), .unset, .unset, .unset, .unset] [(.int pI2)] _
    refine X0.ldcInt hx hown (mvT hZ (ow hw 0 rfl)) (g := (mkF m 5 #[.val (.int pI1), .val (.int pI2), .val (.int (1 : Int32)), .unset, .unset, .unset, .unset] [(.int pI2)])) rfl (hb hby at_5) _ ?_
    show oS p e below s₁ m 7 #[.val (.int pI1), .val (.int pI2), .val (.int (1 : Int32)), .unset, .unset, .unset, .unset] [(.int (2147483647 : Int32)), (.int pI2)] _
    refine XS.iand X0.here hx rfl (hb hby at_7) rfl ?_
    show oS p e below s₁ m 8 #[.val (.int pI1), .val (.int pI2), .val (.int (1 : Int32)), .unset, .unset, .unset, .unset] [(.int (pI2 &&& (2147483647 : Int32)))] _
    refine XS.bipush X0.here hx rfl (hb hby at_8) ?_
    show oS p e below s₁ m 10 #[.val (.int pI1), .val (.int pI2), .val (.int (1 : Int32)), .unset, .unset, .unset, .unset] [(.int (6 : Int32)), (.int (pI2 &&& (2147483647 : Int32)))] _
    refine iremM (g := (mkF m 10 #[.val (.int pI1), .val (.int pI2), .val (.int (1 : Int32)), .unset, .unset, .unset, .unset] [(.int (6 : Int32)), (.int (pI2 &&& (2147483647 : Int32)))])) X0 hx rfl (hb hby at_10) rfl (by decide) ?_
    show Steps p.tables e below (s₁.setTop (mkF m 11 #[.val (.int pI1), .val (.int pI2), .val (.int (1 : Int32)), .unset, .unset, .unset, .unset] [(.int ((pI2 &&& (2147483647 : Int32)) % (6 : Int32)))])) _
    rw [hc10]
    show oS p e below s₁ m 11 #[.val (.int pI1), .val (.int pI2), .val (.int (1 : Int32)), .unset, .unset, .unset, .unset] [(.int (2 : Int32))] _
    refine XS.istoreN X0.here hx rfl (hb hby at_11) rfl (l' := #[.val (.int pI1), .val (.int pI2), .val (.int (1 : Int32)), .val (.int (2 : Int32)), .unset, .unset, .unset]) rfl ?_
    show oS p e below s₁ m 12 #[.val (.int pI1), .val (.int pI2), .val (.int (1 : Int32)), .val (.int (2 : Int32)), .unset, .unset, .unset] [] _
    refine XS.iloadN X0.here hx rfl (hb hby at_12) rfl ?_
    show oS p e below s₁ m 13 #[.val (.int pI1), .val (.int pI2), .val (.int (1 : Int32)), .val (.int (2 : Int32)), .unset, .unset, .unset] [(.int (1 : Int32))] _
    refine st4 _ ?_
    show oS p e below T4 m 16 #[.val (.int pI1), .val (.int pI2), .val (.int (1 : Int32)), .val (.int (2 : Int32)), .unset, .unset, .unset] [(.ref pR3)] _
    refine XS.astore X4.here hx rfl (hb hby at_16) rfl rfl (l' := #[.val (.int pI1), .val (.int pI2), .val (.int (1 : Int32)), .val (.int (2 : Int32)), .val (.ref pR3), .unset, .unset]) rfl ?_
    show oS p e below T4 m 18 #[.val (.int pI1), .val (.int pI2), .val (.int (1 : Int32)), .val (.int (2 : Int32)), .val (.ref pR3), .unset, .unset] [] _
    refine XS.iloadN X4.here hx rfl (hb hby at_18) rfl ?_
    show oS p e below T4 m 19 #[.val (.int pI1), .val (.int pI2), .val (.int (1 : Int32)), .val (.int (2 : Int32)), .val (.ref pR3), .unset, .unset] [(.int (2 : Int32))] _
    refine st6 _ ?_
    show oS p e below T6 m 22 #[.val (.int pI1), .val (.int pI2), .val (.int (1 : Int32)), .val (.int (2 : Int32)), .val (.ref pR3), .unset, .unset] [(.ref pR5)] _
    refine XS.astore X6.here hx rfl (hb hby at_22) rfl rfl (l' := #[.val (.int pI1), .val (.int pI2), .val (.int (1 : Int32)), .val (.int (2 : Int32)), .val (.ref pR3), .val (.ref pR5), .unset]) rfl ?_
    show oS p e below T6 m 24 #[.val (.int pI1), .val (.int pI2), .val (.int (1 : Int32)), .val (.int (2 : Int32)), .val (.ref pR3), .val (.ref pR5), .unset] [] _
    refine XS.iloadN X6.here hx rfl (hb hby at_24) rfl ?_
    show oS p e below T6 m 25 #[.val (.int pI1), .val (.int pI2), .val (.int (1 : Int32)), .val (.int (2 : Int32)), .val (.ref pR3), .val (.ref pR5), .unset] [(.int (2 : Int32))] _
    refine XS.iloadN X6.here hx rfl (hb hby at_25) rfl ?_
    show oS p e below T6 m 26 #[.val (.int pI1), .val (.int pI2), .val (.int (1 : Int32)), .val (.int (2 : Int32)), .val (.ref pR3), .val (.ref pR5), .unset] [(.int (1 : Int32)), (.int (2 : Int32))] _
    refine st7 _ ?_
    show oS p e below T7 m 29 #[.val (.int pI1), .val (.int pI2), .val (.int (1 : Int32)), .val (.int (2 : Int32)), .val (.ref pR3), .val (.ref pR5), .unset] [(.int (2 : Int32)), (.int (2 : Int32))] _
    refine XS.icmpNo X7.here hx rfl (hb hby at_29) rfl (flt (by decide : ¬ ((2 : Int32) < (2 : Int32)))).1 ?_
    show oS p e below T7 m 32 #[.val (.int pI1), .val (.int pI2), .val (.int (1 : Int32)), .val (.int (2 : Int32)), .val (.ref pR3), .val (.ref pR5), .unset] [] _
    refine XS.iconst X7.here hx rfl (hb hby at_32) ?_
    show oS p e below T7 m 33 #[.val (.int pI1), .val (.int pI2), .val (.int (1 : Int32)), .val (.int (2 : Int32)), .val (.ref pR3), .val (.ref pR5), .unset] [(.int (1 : Int32))] _
    refine XS.goto X7.here hx rfl (pc0 := 33) (pc' := 37) rfl (hb hby at_33) (by decide) (by decide) ?_
    show oS p e below T7 m 37 #[.val (.int pI1), .val (.int pI2), .val (.int (1 : Int32)), .val (.int (2 : Int32)), .val (.ref pR3), .val (.ref pR5), .unset] [(.int (1 : Int32))] _
    refine XS.istore X7.here hx rfl (hb hby at_37) rfl (l' := #[.val (.int pI1), .val (.int pI2), .val (.int (1 : Int32)), .val (.int (2 : Int32)), .val (.ref pR3), .val (.ref pR5), .val (.int (1 : Int32))]) rfl ?_
    show oS p e below T7 m 39 #[.val (.int pI1), .val (.int pI2), .val (.int (1 : Int32)), .val (.int (2 : Int32)), .val (.ref pR3), .val (.ref pR5), .val (.int (1 : Int32))] [] _
    refine XS.aload X7.here hx rfl (hb hby at_39) rfl rfl ?_
    show oS p e below T7 m 41 #[.val (.int pI1), .val (.int pI2), .val (.int (1 : Int32)), .val (.int (2 : Int32)), .val (.ref pR3), .val (.ref pR5), .val (.int (1 : Int32))] [(.ref pR3)] _
    refine XS.aload X7.here hx rfl (hb hby at_41) rfl rfl ?_
    show oS p e below T7 m 43 #[.val (.int pI1), .val (.int pI2), .val (.int (1 : Int32)), .val (.int (2 : Int32)), .val (.ref pR3), .val (.ref pR5), .val (.int (1 : Int32))] [(.ref pR5), (.ref pR3)] _
    refine st11.trans ?_
    show oS p e below T11 m 46 #[.val (.int pI1), .val (.int pI2), .val (.int (1 : Int32)), .val (.int (2 : Int32)), .val (.ref pR3), .val (.ref pR5), .val (.int (1 : Int32))] [(.int (1 : Int32))] _
    refine XS.iload X11.here hx rfl (hb hby at_46) rfl ?_
    show oS p e below T11 m 48 #[.val (.int pI1), .val (.int pI2), .val (.int (1 : Int32)), .val (.int (2 : Int32)), .val (.ref pR3), .val (.ref pR5), .val (.int (1 : Int32))] [(.int (1 : Int32)), (.int (1 : Int32))] _
    refine XS.icmpNo X11.here hx rfl (hb hby at_48) rfl (teq (by decide : (1 : Int32) = (1 : Int32))).2 ?_
    show oS p e below T11 m 51 #[.val (.int pI1), .val (.int pI2), .val (.int (1 : Int32)), .val (.int (2 : Int32)), .val (.ref pR3), .val (.ref pR5), .val (.int (1 : Int32))] [] _
    refine XS.iconst X11.here hx rfl (hb hby at_51) ?_
    show oS p e below T11 m 52 #[.val (.int pI1), .val (.int pI2), .val (.int (1 : Int32)), .val (.int (2 : Int32)), .val (.ref pR3), .val (.ref pR5), .val (.int (1 : Int32))] [(.int (1 : Int32))] _
    refine XS.goto X11.here hx rfl (pc0 := 52) (pc' := 56) rfl (hb hby at_52) (by decide) (by decide) ?_
    show oS p e below T11 m 56 #[.val (.int pI1), .val (.int pI2), .val (.int (1 : Int32)), .val (.int (2 : Int32)), .val (.ref pR3), .val (.ref pR5), .val (.int (1 : Int32))] [(.int (1 : Int32))] _
    exact retN X11 hx (t := .boolean) Bd.returns (by simp) (hb hby at_56) hr
  · show Qlaw1_2 Z pI1 pI2 pR3 pR5 pI8 pR9 pI10 h0 n0 _ T11.heap _
    rw [e11]
    exact ⟨rfl, N11⟩
theorem ef_law1_3 (m : MethodId) (pI1 : Int32) (pI2 : Int32) : entryFrame m #[(.int pI1), (.int pI2)] maxLocals = mkF m 0 #[.val (.int pI1), .val (.int pI2), .unset, .unset, .unset, .unset, .unset] [] := by first | (simp [entryFrame, mkF, argsToLocals, Value.category, maxLocals]; done) | rfl
def Qlaw1_3 (Z : State) (pI1 : Int32) (pI2 : Int32) (pR3 : Addr) (pR5 : Addr) (pI8 : Int32) (pR9 : Addr) (pI10 : Int32) (h0 : Heap) (n0 : Nat) (v : Option Value) (h : Heap) (L : List Loc) : Prop := v = some (.int (1 : Int32)) ∧ Fr n0 L
set_option maxRecDepth 65536 in
set_option maxHeartbeats 40000000 in
theorem law1_3 (l : Launch) (Z : State) (a0 : Array Value) (hw : ∀ d ∈ tables_1, d.before a0 Z = true) (ws : List Jvm.Cond) (pI1 : Int32) (pI2 : Int32) (pR3 : Addr) (pR5 : Addr) (pI8 : Int32) (pR9 : Addr) (pI10 : Int32) (h0 : Heap) (n0 : Nat) (Z0 : n0 ≤ h0.size) (S_DocumentView_ORDER_PRICES : Sta Z h0 "com/example/willenhall/willenhall/external/DocumentView" "ORDER_PRICES" "Lcom/example/willenhall/willenhall/external/DocumentView;" (.ref pR3)) (S_ExternalRole_BILLING : Sta Z h0 "com/example/willenhall/willenhall/external/ExternalRole" "BILLING" "Lcom/example/willenhall/willenhall/external/ExternalRole;" (.ref pR5)) (F_ordinal_pR5 : Fld Z h0 pR5 "java/lang/Enum" "ordinal" "I" (.int pI8)) (E_pR5 : Exa Z h0 pR5 "com/example/willenhall/willenhall/external/ExternalRole") (F_lowestRole_pR3 : Fld Z h0 pR3 "com/example/willenhall/willenhall/external/DocumentView" "lowestRole" "Lcom/example/willenhall/willenhall/external/ExternalRole;" (.ref pR9)) (F_ordinal_pR9 : Fld Z h0 pR9 "java/lang/Enum" "ordinal" "I" (.int pI10)) (E_pR9 : Exa Z h0 pR9 "com/example/willenhall/willenhall/external/ExternalRole") (E_pR3 : Exa Z h0 pR3 "com/example/willenhall/willenhall/external/DocumentView") (hc2 : (pI1 &&& (3 : Int32)) = (1 : Int32)) (hc10 : ((pI2 &&& (2147483647 : Int32)) % (6 : Int32)) = (3 : Int32)) (hc43 : ¬ (pI8 < pI10)) :
    MetFree l x (head1 (Jvm.Cond.code x code maxLocals ret :: ws) room_1) (fun a U => a = #[(.int pI1), (.int pI2)] ∧ Z.Warmed39 U.vm ∧ U.heap = h0) (fun _ _ _ _ _ => True) (fun _ U o U' => ∃ v L, o = .returned v ∧ Qlaw1_3 Z pI1 pI2 pR3 pR5 pI8 pR9 pI10 h0 n0 v U'.heap L ∧ FrameEnd U o U' L room_1.cells room_1.slots) := by
  refine MetFree.of_bodySF (plainFor_of_name pn_0) hisR ?_
  intro p e s m args below meth c s₁ Bd hml0 hP hK
  obtain ⟨rfl, hZ, hh⟩ := hP
  have hx := Bd.exec
  have hby := Bd.bytes
  have hml : c.maxLocals = 7 := hml0
  have hown : s.vm.findClass "com/example/willenhall/willenhall/external/DocumentViewIsReachedByPinLaw" = some m.cls := findClass_of_methodNamed Bd.named
  have hnm := (name_of_methodNamed Bd.named Bd.method).1
  have X0 : Stand p l e room_1 s m #[(.int pI1), (.int pI2)] below meth c s₁ [] 0 0 := Stand.of_body Bd
  have e0 : s₁.heap = h0 := by rw [← hh, Bd.state]; rfl
  have N0 := Fr.nil n0
  have pre0 : ∀ t, Steps p.tables e below (s₁.setTop (mkF m 0 #[.val (.int pI1), .val (.int pI2), .unset, .unset, .unset, .unset, .unset] [])) t → Steps p.tables e below (s₁.setTop (entryFrame m #[(.int pI1), (.int pI2)] maxLocals)) t := fun t k => castTop (ef_law1_3 m pI1 pI2) k
  obtain ⟨_, _, ⟨T4, L4, k4, n4⟩, -, X4, ⟨Lc4, hQ4, l4, y4, z4⟩, st4⟩ := Jvm.LawKit.callS X0 hx (y := yN0) hown (mvT hZ (ow hw 1 rfl)) (mvT hZ (ow hw 2 rfl)) (mvT hZ (ow hw 3 rfl)) (mvT hZ (ow hw 4 rfl)) (by decide) (backOf (W := 0) (view1 l Z a0 hw [] pR3 h0 n0 Z0 S_DocumentView_ORDER_PRICES) hZ (ow hw 4 rfl) (ow hw 3 rfl) (by decide) (by decide)) (g := (mkF m 13 #[.val (.int pI1), .val (.int pI2), .val (.int (1 : Int32)), .val (.int (3 : Int32)), .unset, .unset, .unset] [(.int (1 : Int32))])) rfl (by rw [hml]; rfl) (argsL := [(.int (1 : Int32))]) (rest := []) (lenOf pd_1 rfl) rfl (by show 2 * 0 + _ ≤ _; exact Nat.le_of_eq rfl) (hb hby at_13) (fun _ _ => ⟨rfl, e0, (by decide : 0 + 0 ≤ _), (by decide : 0 + 0 ≤ _)⟩)
  dsimp only [Pt.U, Pt.locs, Pt.cells, Pt.slots] at X4 l4 y4 z4 st4 hQ4
  subst l4 y4 z4
  obtain ⟨rfl, Nq4, e4⟩ := hQ4
  have N4 := Fr.app N0 Nq4
  obtain ⟨_, _, ⟨T6, L6, k6, n6⟩, -, X6, ⟨Lc6, hQ6, l6, y6, z6⟩, st6⟩ := Jvm.LawKit.callS X4 hx (y := yN1) hown (mvT hZ (ow hw 8 rfl)) (mvT hZ (ow hw 9 rfl)) (mvT hZ (ow hw 3 rfl)) (mvT hZ (ow hw 10 rfl)) (by decide) (backOf (W := 0) (role3 l Z a0 hw [] pR5 h0 n0 Z0 S_ExternalRole_BILLING) hZ (ow hw 10 rfl) (ow hw 3 rfl) (by decide) (by decide)) (g := (mkF m 19 #[.val (.int pI1), .val (.int pI2), .val (.int (1 : Int32)), .val (.int (3 : Int32)), .val (.ref pR3), .unset, .unset] [(.int (3 : Int32))])) rfl (by rw [hml]; rfl) (argsL := [(.int (3 : Int32))]) (rest := []) (lenOf pd_2 rfl) rfl (by show 2 * 0 + _ ≤ _; exact Nat.le_of_eq rfl) (hb hby at_19) (fun _ _ => ⟨rfl, e4, (by decide : 0 + 0 ≤ _), (by decide : 0 + 0 ≤ _)⟩)
  dsimp only [Pt.U, Pt.locs, Pt.cells, Pt.slots] at X6 l6 y6 z6 st6 hQ6
  subst l6 y6 z6
  obtain ⟨rfl, Nq6, e6⟩ := hQ6
  have N6 := Fr.app N4 Nq6
  obtain ⟨_, _, ⟨T7, L7, k7, n7⟩, -, X7, ⟨Lc7, hQ7, l7, y7, z7⟩, st7⟩ := Jvm.LawKit.callS X6 hx (y := yN2) hown (mvT hZ (ow hw 14 rfl)) (mvT hZ (ow hw 15 rfl)) (mvT hZ (ow hw 3 rfl)) (mvT hZ (ow hw 16 rfl)) (by decide) (backOf (W := 1) (lowest1 l Z a0 hw []  h0 n0 Z0 ) hZ (ow hw 16 rfl) (ow hw 3 rfl) (by decide) (by decide)) (g := (mkF m 26 #[.val (.int pI1), .val (.int pI2), .val (.int (1 : Int32)), .val (.int (3 : Int32)), .val (.ref pR3), .val (.ref pR5), .unset] [(.int (1 : Int32)), (.int (3 : Int32))])) rfl (by rw [hml]; rfl) (argsL := [(.int (1 : Int32))]) (rest := [(.int (3 : Int32))]) (lenOf pd_3 rfl) rfl (by show 2 * 0 + _ ≤ _; exact Nat.le_of_eq rfl) (hb hby at_26) (fun _ _ => ⟨rfl, e6, (by decide : 0 + 0 ≤ _), (by decide : 0 + 0 ≤ _)⟩)
  dsimp only [Pt.U, Pt.locs, Pt.cells, Pt.slots] at X7 l7 y7 z7 st7 hQ7
  subst l7 y7 z7
  obtain ⟨rfl, Nq7, e7⟩ := hQ7
  have N7 := Fr.app N6 Nq7
  obtain ⟨cq11, kq11, q11a, q11b, q11c⟩ := isOf hZ e7 E_pR3
  obtain ⟨_, _, ⟨T11, L11, k11, n11⟩, -, X11, ⟨Lc11, hQ11, l11, y11, z11⟩, st11⟩ := X7.virtualBack hx (y := yN6) (z := yN6) hown (mvT hZ (ow hw 17 rfl)) (mvT hZ (ow hw 18 rfl)) (notFace_of_selects (args := #[]) (mvT hZ (ow hw 20 rfl))) (mvT hZ (ow hw 20 rfl)) (mvT hZ (ow hw 19 rfl)) (by decide) (backOf (W := 0) (irbY l Z a0 hw [] pR3 pR5 pI8 pR9 pI10 h0 n0 Z0 F_ordinal_pR5 E_pR5 F_lowestRole_pR3 F_ordinal_pR9 E_pR9 hc43) hZ (ow hw 21 rfl) (ow hw 6 rfl) (by decide) (by decide)) q11a q11c (g := (mkF m 43 #[.val (.int pI1), .val (.int pI2), .val (.int (1 : Int32)), .val (.int (3 : Int32)), .val (.ref pR3), .val (.ref pR5), .val (.int (1 : Int32))] [(.ref pR5), (.ref pR3)])) rfl (by rw [hml]; rfl) (Steps.refl _) (argsL := [(.ref pR5)]) (rest := []) (lenOf pd_4 rfl) rfl (by show 2 * 0 + _ ≤ _; exact Nat.le_of_eq rfl) (hb hby at_43) (fun _ _ => ⟨rfl, e7, (by decide : 0 + 0 ≤ _), (by decide : 0 + 0 ≤ _)⟩)
  dsimp only [Pt.U, Pt.locs, Pt.cells, Pt.slots] at X11 l11 y11 z11 st11 hQ11
  subst l11 y11 z11
  obtain ⟨rfl, Nq11, e11⟩ := hQ11
  have N11 := Fr.app N7 Nq11
  obtain ⟨fs, hr, hrun, hended, hW, hsame⟩ := X11.leave (v := some (.int (1 : Int32))) (fun h => by rw [Bd.returns] at h; cases h)
  refine ⟨_, _, pre0 _ ?_, hrun, hended, _, _, rfl, ?_, ⟨_, rfl⟩, hW, hsame.mono (by decide) (by decide)⟩
  · show oS p e below s₁ m 0 #[.val (.int pI1), .val (.int pI2), .unset, .unset, .unset, .unset, .unset] [] _
    refine XS.iloadN X0.here hx rfl (hb hby at_0) rfl ?_
    show oS p e below s₁ m 1 #[.val (.int pI1), .val (.int pI2), .unset, .unset, .unset, .unset, .unset] [(.int pI1)] _
    refine XS.iconst X0.here hx rfl (hb hby at_1) ?_
    show oS p e below s₁ m 2 #[.val (.int pI1), .val (.int pI2), .unset, .unset, .unset, .unset, .unset] [(.int (3 : Int32)), (.int pI1)] _
    refine XS.iand X0.here hx rfl (hb hby at_2) rfl ?_
    show Steps p.tables e below (s₁.setTop (mkF m 3 #[.val (.int pI1), .val (.int pI2), .unset, .unset, .unset, .unset, .unset] [(.int (pI1 &&& (3 : Int32)))])) _
    rw [hc2]
    show oS p e below s₁ m 3 #[.val (.int pI1), .val (.int pI2), .unset, .unset, .unset, .unset, .unset] [(.int (1 : Int32))] _
    refine XS.istoreN X0.here hx rfl (hb hby at_3) rfl (l' := #[.val (.int pI1), .val (.int pI2), .val (.int (1 : Int32)), .unset, .unset, .unset, .unset]) rfl ?_
    show oS p e below s₁ m 4 #[.val (.int pI1), .val (.int pI2), .val (.int (1 : Int32)), .unset, .unset, .unset, .unset] [] _
    refine XS.iloadN X0.here hx rfl (hb hby at_4) rfl ?_
    show oS p e below s₁ m 5 #[.val (.int pI1), .val (.int pI2), .val (.int (1 : Int32)), .unset, .unset, .unset, .unset] [(.int pI2)] _
    refine X0.ldcInt hx hown (mvT hZ (ow hw 0 rfl)) (g := (mkF m 5 #[.val (.int pI1), .val (.int pI2), .val (.int (1 : Int32)), .unset, .unset, .unset, .unset] [(.int pI2)])) rfl (hb hby at_5) _ ?_
    show oS p e below s₁ m 7 #[.val (.int pI1), .val (.int pI2), .val (.int (1 : Int32)), .unset, .unset, .unset, .unset] [(.int (2147483647 : Int32)), (.int pI2)] _
    refine XS.iand X0.here hx rfl (hb hby at_7) rfl ?_
    show oS p e below s₁ m 8 #[.val (.int pI1), .val (.int pI2), .val (.int (1 : Int32)), .unset, .unset, .unset, .unset] [(.int (pI2 &&& (2147483647 : Int32)))] _
    refine XS.bipush X0.here hx rfl (hb hby at_8) ?_
    show oS p e below s₁ m 10 #[.val (.int pI1), .val (.int pI2), .val (.int (1 : Int32)), .unset, .unset, .unset, .unset] [(.int (6 : Int32)), (.int (pI2 &&& (2147483647 : Int32)))] _
    refine iremM (g := (mkF m 10 #[.val (.int pI1), .val (.int pI2), .val (.int (1 : Int32)), .unset, .unset, .unset, .unset] [(.int (6 : Int32)), (.int (pI2 &&& (2147483647 : Int32)))])) X0 hx rfl (hb hby at_10) rfl (by decide) ?_
    show Steps p.tables e below (s₁.setTop (mkF m 11 #[.val (.int pI1), .val (.int pI2), .val (.int (1 : Int32)), .unset, .unset, .unset, .unset] [(.int ((pI2 &&& (2147483647 : Int32)) % (6 : Int32)))])) _
    rw [hc10]
    show oS p e below s₁ m 11 #[.val (.int pI1), .val (.int pI2), .val (.int (1 : Int32)), .unset, .unset, .unset, .unset] [(.int (3 : Int32))] _
    refine XS.istoreN X0.here hx rfl (hb hby at_11) rfl (l' := #[.val (.int pI1), .val (.int pI2), .val (.int (1 : Int32)), .val (.int (3 : Int32)), .unset, .unset, .unset]) rfl ?_
    show oS p e below s₁ m 12 #[.val (.int pI1), .val (.int pI2), .val (.int (1 : Int32)), .val (.int (3 : Int32)), .unset, .unset, .unset] [] _
    refine XS.iloadN X0.here hx rfl (hb hby at_12) rfl ?_
    show oS p e below s₁ m 13 #[.val (.int pI1), .val (.int pI2), .val (.int (1 : Int32)), .val (.int (3 : Int32)), .unset, .unset, .unset] [(.int (1 : Int32))] _
    refine st4 _ ?_
    show oS p e below T4 m 16 #[.val (.int pI1), .val (.int pI2), .val (.int (1 : Int32)), .val (.int (3 : Int32)), .unset, .unset, .unset] [(.ref pR3)] _
    refine XS.astore X4.here hx rfl (hb hby at_16) rfl rfl (l' := #[.val (.int pI1), .val (.int pI2), .val (.int (1 : Int32)), .val (.int (3 : Int32)), .val (.ref pR3), .unset, .unset]) rfl ?_
    show oS p e below T4 m 18 #[.val (.int pI1), .val (.int pI2), .val (.int (1 : Int32)), .val (.int (3 : Int32)), .val (.ref pR3), .unset, .unset] [] _
    refine XS.iloadN X4.here hx rfl (hb hby at_18) rfl ?_
    show oS p e below T4 m 19 #[.val (.int pI1), .val (.int pI2), .val (.int (1 : Int32)), .val (.int (3 : Int32)), .val (.ref pR3), .unset, .unset] [(.int (3 : Int32))] _
    refine st6 _ ?_
    show oS p e below T6 m 22 #[.val (.int pI1), .val (.int pI2), .val (.int (1 : Int32)), .val (.int (3 : Int32)), .val (.ref pR3), .unset, .unset] [(.ref pR5)] _
    refine XS.astore X6.here hx rfl (hb hby at_22) rfl rfl (l' := #[.val (.int pI1), .val (.int pI2), .val (.int (1 : Int32)), .val (.int (3 : Int32)), .val (.ref pR3), .val (.ref pR5), .unset]) rfl ?_
    show oS p e below T6 m 24 #[.val (.int pI1), .val (.int pI2), .val (.int (1 : Int32)), .val (.int (3 : Int32)), .val (.ref pR3), .val (.ref pR5), .unset] [] _
    refine XS.iloadN X6.here hx rfl (hb hby at_24) rfl ?_
    show oS p e below T6 m 25 #[.val (.int pI1), .val (.int pI2), .val (.int (1 : Int32)), .val (.int (3 : Int32)), .val (.ref pR3), .val (.ref pR5), .unset] [(.int (3 : Int32))] _
    refine XS.iloadN X6.here hx rfl (hb hby at_25) rfl ?_
    show oS p e below T6 m 26 #[.val (.int pI1), .val (.int pI2), .val (.int (1 : Int32)), .val (.int (3 : Int32)), .val (.ref pR3), .val (.ref pR5), .unset] [(.int (1 : Int32)), (.int (3 : Int32))] _
    refine st7 _ ?_
    show oS p e below T7 m 29 #[.val (.int pI1), .val (.int pI2), .val (.int (1 : Int32)), .val (.int (3 : Int32)), .val (.ref pR3), .val (.ref pR5), .unset] [(.int (2 : Int32)), (.int (3 : Int32))] _
    refine XS.icmpNo X7.here hx rfl (hb hby at_29) rfl (flt (by decide : ¬ ((3 : Int32) < (2 : Int32)))).1 ?_
    show oS p e below T7 m 32 #[.val (.int pI1), .val (.int pI2), .val (.int (1 : Int32)), .val (.int (3 : Int32)), .val (.ref pR3), .val (.ref pR5), .unset] [] _
    refine XS.iconst X7.here hx rfl (hb hby at_32) ?_
    show oS p e below T7 m 33 #[.val (.int pI1), .val (.int pI2), .val (.int (1 : Int32)), .val (.int (3 : Int32)), .val (.ref pR3), .val (.ref pR5), .unset] [(.int (1 : Int32))] _
    refine XS.goto X7.here hx rfl (pc0 := 33) (pc' := 37) rfl (hb hby at_33) (by decide) (by decide) ?_
    show oS p e below T7 m 37 #[.val (.int pI1), .val (.int pI2), .val (.int (1 : Int32)), .val (.int (3 : Int32)), .val (.ref pR3), .val (.ref pR5), .unset] [(.int (1 : Int32))] _
    refine XS.istore X7.here hx rfl (hb hby at_37) rfl (l' := #[.val (.int pI1), .val (.int pI2), .val (.int (1 : Int32)), .val (.int (3 : Int32)), .val (.ref pR3), .val (.ref pR5), .val (.int (1 : Int32))]) rfl ?_
    show oS p e below T7 m 39 #[.val (.int pI1), .val (.int pI2), .val (.int (1 : Int32)), .val (.int (3 : Int32)), .val (.ref pR3), .val (.ref pR5), .val (.int (1 : Int32))] [] _
    refine XS.aload X7.here hx rfl (hb hby at_39) rfl rfl ?_
    show oS p e below T7 m 41 #[.val (.int pI1), .val (.int pI2), .val (.int (1 : Int32)), .val (.int (3 : Int32)), .val (.ref pR3), .val (.ref pR5), .val (.int (1 : Int32))] [(.ref pR3)] _
    refine XS.aload X7.here hx rfl (hb hby at_41) rfl rfl ?_
    show oS p e below T7 m 43 #[.val (.int pI1), .val (.int pI2), .val (.int (1 : Int32)), .val (.int (3 : Int32)), .val (.ref pR3), .val (.ref pR5), .val (.int (1 : Int32))] [(.ref pR5), (.ref pR3)] _
    refine st11.trans ?_
    show oS p e below T11 m 46 #[.val (.int pI1), .val (.int pI2), .val (.int (1 : Int32)), .val (.int (3 : Int32)), .val (.ref pR3), .val (.ref pR5), .val (.int (1 : Int32))] [(.int (1 : Int32))] _
    refine XS.iload X11.here hx rfl (hb hby at_46) rfl ?_
    show oS p e below T11 m 48 #[.val (.int pI1), .val (.int pI2), .val (.int (1 : Int32)), .val (.int (3 : Int32)), .val (.ref pR3), .val (.ref pR5), .val (.int (1 : Int32))] [(.int (1 : Int32)), (.int (1 : Int32))] _
    refine XS.icmpNo X11.here hx rfl (hb hby at_48) rfl (teq (by decide : (1 : Int32) = (1 : Int32))).2 ?_
    show oS p e below T11 m 51 #[.val (.int pI1), .val (.int pI2), .val (.int (1 : Int32)), .val (.int (3 : Int32)), .val (.ref pR3), .val (.ref pR5), .val (.int (1 : Int32))] [] _
    refine XS.iconst X11.here hx rfl (hb hby at_51) ?_
    show oS p e below T11 m 52 #[.val (.int pI1), .val (.int pI2), .val (.int (1 : Int32)), .val (.int (3 : Int32)), .val (.ref pR3), .val (.ref pR5), .val (.int (1 : Int32))] [(.int (1 : Int32))] _
    refine XS.goto X11.here hx rfl (pc0 := 52) (pc' := 56) rfl (hb hby at_52) (by decide) (by decide) ?_
    show oS p e below T11 m 56 #[.val (.int pI1), .val (.int pI2), .val (.int (1 : Int32)), .val (.int (3 : Int32)), .val (.ref pR3), .val (.ref pR5), .val (.int (1 : Int32))] [(.int (1 : Int32))] _
    exact retN X11 hx (t := .boolean) Bd.returns (by simp) (hb hby at_56) hr
  · show Qlaw1_3 Z pI1 pI2 pR3 pR5 pI8 pR9 pI10 h0 n0 _ T11.heap _
    rw [e11]
    exact ⟨rfl, N11⟩
theorem ef_law1_4 (m : MethodId) (pI1 : Int32) (pI2 : Int32) : entryFrame m #[(.int pI1), (.int pI2)] maxLocals = mkF m 0 #[.val (.int pI1), .val (.int pI2), .unset, .unset, .unset, .unset, .unset] [] := by first | (simp [entryFrame, mkF, argsToLocals, Value.category, maxLocals]; done) | rfl
def Qlaw1_4 (Z : State) (pI1 : Int32) (pI2 : Int32) (pR3 : Addr) (pR5 : Addr) (pI8 : Int32) (pR9 : Addr) (pI10 : Int32) (h0 : Heap) (n0 : Nat) (v : Option Value) (h : Heap) (L : List Loc) : Prop := v = some (.int (1 : Int32)) ∧ Fr n0 L
set_option maxRecDepth 65536 in
set_option maxHeartbeats 40000000 in
theorem law1_4 (l : Launch) (Z : State) (a0 : Array Value) (hw : ∀ d ∈ tables_1, d.before a0 Z = true) (ws : List Jvm.Cond) (pI1 : Int32) (pI2 : Int32) (pR3 : Addr) (pR5 : Addr) (pI8 : Int32) (pR9 : Addr) (pI10 : Int32) (h0 : Heap) (n0 : Nat) (Z0 : n0 ≤ h0.size) (S_DocumentView_ORDER_PRICES : Sta Z h0 "com/example/willenhall/willenhall/external/DocumentView" "ORDER_PRICES" "Lcom/example/willenhall/willenhall/external/DocumentView;" (.ref pR3)) (S_ExternalRole_ADMIN : Sta Z h0 "com/example/willenhall/willenhall/external/ExternalRole" "ADMIN" "Lcom/example/willenhall/willenhall/external/ExternalRole;" (.ref pR5)) (F_ordinal_pR5 : Fld Z h0 pR5 "java/lang/Enum" "ordinal" "I" (.int pI8)) (E_pR5 : Exa Z h0 pR5 "com/example/willenhall/willenhall/external/ExternalRole") (F_lowestRole_pR3 : Fld Z h0 pR3 "com/example/willenhall/willenhall/external/DocumentView" "lowestRole" "Lcom/example/willenhall/willenhall/external/ExternalRole;" (.ref pR9)) (F_ordinal_pR9 : Fld Z h0 pR9 "java/lang/Enum" "ordinal" "I" (.int pI10)) (E_pR9 : Exa Z h0 pR9 "com/example/willenhall/willenhall/external/ExternalRole") (E_pR3 : Exa Z h0 pR3 "com/example/willenhall/willenhall/external/DocumentView") (hc2 : (pI1 &&& (3 : Int32)) = (1 : Int32)) (hc10 : ((pI2 &&& (2147483647 : Int32)) % (6 : Int32)) = (4 : Int32)) (hc43 : ¬ (pI8 < pI10)) :
    MetFree l x (head1 (Jvm.Cond.code x code maxLocals ret :: ws) room_1) (fun a U => a = #[(.int pI1), (.int pI2)] ∧ Z.Warmed39 U.vm ∧ U.heap = h0) (fun _ _ _ _ _ => True) (fun _ U o U' => ∃ v L, o = .returned v ∧ Qlaw1_4 Z pI1 pI2 pR3 pR5 pI8 pR9 pI10 h0 n0 v U'.heap L ∧ FrameEnd U o U' L room_1.cells room_1.slots) := by
  refine MetFree.of_bodySF (plainFor_of_name pn_0) hisR ?_
  intro p e s m args below meth c s₁ Bd hml0 hP hK
  obtain ⟨rfl, hZ, hh⟩ := hP
  have hx := Bd.exec
  have hby := Bd.bytes
  have hml : c.maxLocals = 7 := hml0
  have hown : s.vm.findClass "com/example/willenhall/willenhall/external/DocumentViewIsReachedByPinLaw" = some m.cls := findClass_of_methodNamed Bd.named
  have hnm := (name_of_methodNamed Bd.named Bd.method).1
  have X0 : Stand p l e room_1 s m #[(.int pI1), (.int pI2)] below meth c s₁ [] 0 0 := Stand.of_body Bd
  have e0 : s₁.heap = h0 := by rw [← hh, Bd.state]; rfl
  have N0 := Fr.nil n0
  have pre0 : ∀ t, Steps p.tables e below (s₁.setTop (mkF m 0 #[.val (.int pI1), .val (.int pI2), .unset, .unset, .unset, .unset, .unset] [])) t → Steps p.tables e below (s₁.setTop (entryFrame m #[(.int pI1), (.int pI2)] maxLocals)) t := fun t k => castTop (ef_law1_4 m pI1 pI2) k
  obtain ⟨_, _, ⟨T4, L4, k4, n4⟩, -, X4, ⟨Lc4, hQ4, l4, y4, z4⟩, st4⟩ := Jvm.LawKit.callS X0 hx (y := yN0) hown (mvT hZ (ow hw 1 rfl)) (mvT hZ (ow hw 2 rfl)) (mvT hZ (ow hw 3 rfl)) (mvT hZ (ow hw 4 rfl)) (by decide) (backOf (W := 0) (view1 l Z a0 hw [] pR3 h0 n0 Z0 S_DocumentView_ORDER_PRICES) hZ (ow hw 4 rfl) (ow hw 3 rfl) (by decide) (by decide)) (g := (mkF m 13 #[.val (.int pI1), .val (.int pI2), .val (.int (1 : Int32)), .val (.int (4 : Int32)), .unset, .unset, .unset] [(.int (1 : Int32))])) rfl (by rw [hml]; rfl) (argsL := [(.int (1 : Int32))]) (rest := []) (lenOf pd_1 rfl) rfl (by show 2 * 0 + _ ≤ _; exact Nat.le_of_eq rfl) (hb hby at_13) (fun _ _ => ⟨rfl, e0, (by decide : 0 + 0 ≤ _), (by decide : 0 + 0 ≤ _)⟩)
  dsimp only [Pt.U, Pt.locs, Pt.cells, Pt.slots] at X4 l4 y4 z4 st4 hQ4
  subst l4 y4 z4
  obtain ⟨rfl, Nq4, e4⟩ := hQ4
  have N4 := Fr.app N0 Nq4
  obtain ⟨_, _, ⟨T6, L6, k6, n6⟩, -, X6, ⟨Lc6, hQ6, l6, y6, z6⟩, st6⟩ := Jvm.LawKit.callS X4 hx (y := yN1) hown (mvT hZ (ow hw 8 rfl)) (mvT hZ (ow hw 9 rfl)) (mvT hZ (ow hw 3 rfl)) (mvT hZ (ow hw 10 rfl)) (by decide) (backOf (W := 0) (role4 l Z a0 hw [] pR5 h0 n0 Z0 S_ExternalRole_ADMIN) hZ (ow hw 10 rfl) (ow hw 3 rfl) (by decide) (by decide)) (g := (mkF m 19 #[.val (.int pI1), .val (.int pI2), .val (.int (1 : Int32)), .val (.int (4 : Int32)), .val (.ref pR3), .unset, .unset] [(.int (4 : Int32))])) rfl (by rw [hml]; rfl) (argsL := [(.int (4 : Int32))]) (rest := []) (lenOf pd_2 rfl) rfl (by show 2 * 0 + _ ≤ _; exact Nat.le_of_eq rfl) (hb hby at_19) (fun _ _ => ⟨rfl, e4, (by decide : 0 + 0 ≤ _), (by decide : 0 + 0 ≤ _)⟩)
  dsimp only [Pt.U, Pt.locs, Pt.cells, Pt.slots] at X6 l6 y6 z6 st6 hQ6
  subst l6 y6 z6
  obtain ⟨rfl, Nq6, e6⟩ := hQ6
  have N6 := Fr.app N4 Nq6
  obtain ⟨_, _, ⟨T7, L7, k7, n7⟩, -, X7, ⟨Lc7, hQ7, l7, y7, z7⟩, st7⟩ := Jvm.LawKit.callS X6 hx (y := yN2) hown (mvT hZ (ow hw 14 rfl)) (mvT hZ (ow hw 15 rfl)) (mvT hZ (ow hw 3 rfl)) (mvT hZ (ow hw 16 rfl)) (by decide) (backOf (W := 1) (lowest1 l Z a0 hw []  h0 n0 Z0 ) hZ (ow hw 16 rfl) (ow hw 3 rfl) (by decide) (by decide)) (g := (mkF m 26 #[.val (.int pI1), .val (.int pI2), .val (.int (1 : Int32)), .val (.int (4 : Int32)), .val (.ref pR3), .val (.ref pR5), .unset] [(.int (1 : Int32)), (.int (4 : Int32))])) rfl (by rw [hml]; rfl) (argsL := [(.int (1 : Int32))]) (rest := [(.int (4 : Int32))]) (lenOf pd_3 rfl) rfl (by show 2 * 0 + _ ≤ _; exact Nat.le_of_eq rfl) (hb hby at_26) (fun _ _ => ⟨rfl, e6, (by decide : 0 + 0 ≤ _), (by decide : 0 + 0 ≤ _)⟩)
  dsimp only [Pt.U, Pt.locs, Pt.cells, Pt.slots] at X7 l7 y7 z7 st7 hQ7
  subst l7 y7 z7
  obtain ⟨rfl, Nq7, e7⟩ := hQ7
  have N7 := Fr.app N6 Nq7
  obtain ⟨cq11, kq11, q11a, q11b, q11c⟩ := isOf hZ e7 E_pR3
  obtain ⟨_, _, ⟨T11, L11, k11, n11⟩, -, X11, ⟨Lc11, hQ11, l11, y11, z11⟩, st11⟩ := X7.virtualBack hx (y := yN6) (z := yN6) hown (mvT hZ (ow hw 17 rfl)) (mvT hZ (ow hw 18 rfl)) (notFace_of_selects (args := #[]) (mvT hZ (ow hw 20 rfl))) (mvT hZ (ow hw 20 rfl)) (mvT hZ (ow hw 19 rfl)) (by decide) (backOf (W := 0) (irbY l Z a0 hw [] pR3 pR5 pI8 pR9 pI10 h0 n0 Z0 F_ordinal_pR5 E_pR5 F_lowestRole_pR3 F_ordinal_pR9 E_pR9 hc43) hZ (ow hw 21 rfl) (ow hw 6 rfl) (by decide) (by decide)) q11a q11c (g := (mkF m 43 #[.val (.int pI1), .val (.int pI2), .val (.int (1 : Int32)), .val (.int (4 : Int32)), .val (.ref pR3), .val (.ref pR5), .val (.int (1 : Int32))] [(.ref pR5), (.ref pR3)])) rfl (by rw [hml]; rfl) (Steps.refl _) (argsL := [(.ref pR5)]) (rest := []) (lenOf pd_4 rfl) rfl (by show 2 * 0 + _ ≤ _; exact Nat.le_of_eq rfl) (hb hby at_43) (fun _ _ => ⟨rfl, e7, (by decide : 0 + 0 ≤ _), (by decide : 0 + 0 ≤ _)⟩)
  dsimp only [Pt.U, Pt.locs, Pt.cells, Pt.slots] at X11 l11 y11 z11 st11 hQ11
  subst l11 y11 z11
  obtain ⟨rfl, Nq11, e11⟩ := hQ11
  have N11 := Fr.app N7 Nq11
  obtain ⟨fs, hr, hrun, hended, hW, hsame⟩ := X11.leave (v := some (.int (1 : Int32))) (fun h => by rw [Bd.returns] at h; cases h)
  refine ⟨_, _, pre0 _ ?_, hrun, hended, _, _, rfl, ?_, ⟨_, rfl⟩, hW, hsame.mono (by decide) (by decide)⟩
  · show oS p e below s₁ m 0 #[.val (.int pI1), .val (.int pI2), .unset, .unset, .unset, .unset, .unset] [] _
    refine XS.iloadN X0.here hx rfl (hb hby at_0) rfl ?_
    show oS p e below s₁ m 1 #[.val (.int pI1), .val (.int pI2), .unset, .unset, .unset, .unset, .unset] [(.int pI1)] _
    refine XS.iconst X0.here hx rfl (hb hby at_1) ?_
    show oS p e below s₁ m 2 #[.val (.int pI1), .val (.int pI2), .unset, .unset, .unset, .unset, .unset] [(.int (3 : Int32)), (.int pI1)] _
    refine XS.iand X0.here hx rfl (hb hby at_2) rfl ?_
    show Steps p.tables e below (s₁.setTop (mkF m 3 #[.val (.int pI1), .val (.int pI2), .unset, .unset, .unset, .unset, .unset] [(.int (pI1 &&& (3 : Int32)))])) _
    rw [hc2]
    show oS p e below s₁ m 3 #[.val (.int pI1), .val (.int pI2), .unset, .unset, .unset, .unset, .unset] [(.int (1 : Int32))] _
    refine XS.istoreN X0.here hx rfl (hb hby at_3) rfl (l' := #[.val (.int pI1), .val (.int pI2), .val (.int (1 : Int32)), .unset, .unset, .unset, .unset]) rfl ?_
    show oS p e below s₁ m 4 #[.val (.int pI1), .val (.int pI2), .val (.int (1 : Int32)), .unset, .unset, .unset, .unset] [] _
    refine XS.iloadN X0.here hx rfl (hb hby at_4) rfl ?_
    show oS p e below s₁ m 5 #[.val (.int pI1), .val (.int pI2), .val (.int (1 : Int32)), .unset, .unset, .unset, .unset] [(.int pI2)] _
    refine X0.ldcInt hx hown (mvT hZ (ow hw 0 rfl)) (g := (mkF m 5 #[.val (.int pI1), .val (.int pI2), .val (.int (1 : Int32)), .unset, .unset, .unset, .unset] [(.int pI2)])) rfl (hb hby at_5) _ ?_
    show oS p e below s₁ m 7 #[.val (.int pI1), .val (.int pI2), .val (.int (1 : Int32)), .unset, .unset, .unset, .unset] [(.int (2147483647 : Int32)), (.int pI2)] _
    refine XS.iand X0.here hx rfl (hb hby at_7) rfl ?_
    show oS p e below s₁ m 8 #[.val (.int pI1), .val (.int pI2), .val (.int (1 : Int32)), .unset, .unset, .unset, .unset] [(.int (pI2 &&& (2147483647 : Int32)))] _
    refine XS.bipush X0.here hx rfl (hb hby at_8) ?_
    show oS p e below s₁ m 10 #[.val (.int pI1), .val (.int pI2), .val (.int (1 : Int32)), .unset, .unset, .unset, .unset] [(.int (6 : Int32)), (.int (pI2 &&& (2147483647 : Int32)))] _
    refine iremM (g := (mkF m 10 #[.val (.int pI1), .val (.int pI2), .val (.int (1 : Int32)), .unset, .unset, .unset, .unset] [(.int (6 : Int32)), (.int (pI2 &&& (2147483647 : Int32)))])) X0 hx rfl (hb hby at_10) rfl (by decide) ?_
    show Steps p.tables e below (s₁.setTop (mkF m 11 #[.val (.int pI1), .val (.int pI2), .val (.int (1 : Int32)), .unset, .unset, .unset, .unset] [(.int ((pI2 &&& (2147483647 : Int32)) % (6 : Int32)))])) _
    rw [hc10]
    show oS p e below s₁ m 11 #[.val (.int pI1), .val (.int pI2), .val (.int (1 : Int32)), .unset, .unset, .unset, .unset] [(.int (4 : Int32))] _
    refine XS.istoreN X0.here hx rfl (hb hby at_11) rfl (l' := #[.val (.int pI1), .val (.int pI2), .val (.int (1 : Int32)), .val (.int (4 : Int32)), .unset, .unset, .unset]) rfl ?_
    show oS p e below s₁ m 12 #[.val (.int pI1), .val (.int pI2), .val (.int (1 : Int32)), .val (.int (4 : Int32)), .unset, .unset, .unset] [] _
    refine XS.iloadN X0.here hx rfl (hb hby at_12) rfl ?_
    show oS p e below s₁ m 13 #[.val (.int pI1), .val (.int pI2), .val (.int (1 : Int32)), .val (.int (4 : Int32)), .unset, .unset, .unset] [(.int (1 : Int32))] _
    refine st4 _ ?_
    show oS p e below T4 m 16 #[.val (.int pI1), .val (.int pI2), .val (.int (1 : Int32)), .val (.int (4 : Int32)), .unset, .unset, .unset] [(.ref pR3)] _
    refine XS.astore X4.here hx rfl (hb hby at_16) rfl rfl (l' := #[.val (.int pI1), .val (.int pI2), .val (.int (1 : Int32)), .val (.int (4 : Int32)), .val (.ref pR3), .unset, .unset]) rfl ?_
    show oS p e below T4 m 18 #[.val (.int pI1), .val (.int pI2), .val (.int (1 : Int32)), .val (.int (4 : Int32)), .val (.ref pR3), .unset, .unset] [] _
    refine XS.iloadN X4.here hx rfl (hb hby at_18) rfl ?_
    show oS p e below T4 m 19 #[.val (.int pI1), .val (.int pI2), .val (.int (1 : Int32)), .val (.int (4 : Int32)), .val (.ref pR3), .unset, .unset] [(.int (4 : Int32))] _
    refine st6 _ ?_
    show oS p e below T6 m 22 #[.val (.int pI1), .val (.int pI2), .val (.int (1 : Int32)), .val (.int (4 : Int32)), .val (.ref pR3), .unset, .unset] [(.ref pR5)] _
    refine XS.astore X6.here hx rfl (hb hby at_22) rfl rfl (l' := #[.val (.int pI1), .val (.int pI2), .val (.int (1 : Int32)), .val (.int (4 : Int32)), .val (.ref pR3), .val (.ref pR5), .unset]) rfl ?_
    show oS p e below T6 m 24 #[.val (.int pI1), .val (.int pI2), .val (.int (1 : Int32)), .val (.int (4 : Int32)), .val (.ref pR3), .val (.ref pR5), .unset] [] _
    refine XS.iloadN X6.here hx rfl (hb hby at_24) rfl ?_
    show oS p e below T6 m 25 #[.val (.int pI1), .val (.int pI2), .val (.int (1 : Int32)), .val (.int (4 : Int32)), .val (.ref pR3), .val (.ref pR5), .unset] [(.int (4 : Int32))] _
    refine XS.iloadN X6.here hx rfl (hb hby at_25) rfl ?_
    show oS p e below T6 m 26 #[.val (.int pI1), .val (.int pI2), .val (.int (1 : Int32)), .val (.int (4 : Int32)), .val (.ref pR3), .val (.ref pR5), .unset] [(.int (1 : Int32)), (.int (4 : Int32))] _
    refine st7 _ ?_
    show oS p e below T7 m 29 #[.val (.int pI1), .val (.int pI2), .val (.int (1 : Int32)), .val (.int (4 : Int32)), .val (.ref pR3), .val (.ref pR5), .unset] [(.int (2 : Int32)), (.int (4 : Int32))] _
    refine XS.icmpNo X7.here hx rfl (hb hby at_29) rfl (flt (by decide : ¬ ((4 : Int32) < (2 : Int32)))).1 ?_
    show oS p e below T7 m 32 #[.val (.int pI1), .val (.int pI2), .val (.int (1 : Int32)), .val (.int (4 : Int32)), .val (.ref pR3), .val (.ref pR5), .unset] [] _
    refine XS.iconst X7.here hx rfl (hb hby at_32) ?_
    show oS p e below T7 m 33 #[.val (.int pI1), .val (.int pI2), .val (.int (1 : Int32)), .val (.int (4 : Int32)), .val (.ref pR3), .val (.ref pR5), .unset] [(.int (1 : Int32))] _
    refine XS.goto X7.here hx rfl (pc0 := 33) (pc' := 37) rfl (hb hby at_33) (by decide) (by decide) ?_
    show oS p e below T7 m 37 #[.val (.int pI1), .val (.int pI2), .val (.int (1 : Int32)), .val (.int (4 : Int32)), .val (.ref pR3), .val (.ref pR5), .unset] [(.int (1 : Int32))] _
    refine XS.istore X7.here hx rfl (hb hby at_37) rfl (l' := #[.val (.int pI1), .val (.int pI2), .val (.int (1 : Int32)), .val (.int (4 : Int32)), .val (.ref pR3), .val (.ref pR5), .val (.int (1 : Int32))]) rfl ?_
    show oS p e below T7 m 39 #[.val (.int pI1), .val (.int pI2), .val (.int (1 : Int32)), .val (.int (4 : Int32)), .val (.ref pR3), .val (.ref pR5), .val (.int (1 : Int32))] [] _
    refine XS.aload X7.here hx rfl (hb hby at_39) rfl rfl ?_
    show oS p e below T7 m 41 #[.val (.int pI1), .val (.int pI2), .val (.int (1 : Int32)), .val (.int (4 : Int32)), .val (.ref pR3), .val (.ref pR5), .val (.int (1 : Int32))] [(.ref pR3)] _
    refine XS.aload X7.here hx rfl (hb hby at_41) rfl rfl ?_
    show oS p e below T7 m 43 #[.val (.int pI1), .val (.int pI2), .val (.int (1 : Int32)), .val (.int (4 : Int32)), .val (.ref pR3), .val (.ref pR5), .val (.int (1 : Int32))] [(.ref pR5), (.ref pR3)] _
    refine st11.trans ?_
    show oS p e below T11 m 46 #[.val (.int pI1), .val (.int pI2), .val (.int (1 : Int32)), .val (.int (4 : Int32)), .val (.ref pR3), .val (.ref pR5), .val (.int (1 : Int32))] [(.int (1 : Int32))] _
    refine XS.iload X11.here hx rfl (hb hby at_46) rfl ?_
    show oS p e below T11 m 48 #[.val (.int pI1), .val (.int pI2), .val (.int (1 : Int32)), .val (.int (4 : Int32)), .val (.ref pR3), .val (.ref pR5), .val (.int (1 : Int32))] [(.int (1 : Int32)), (.int (1 : Int32))] _
    refine XS.icmpNo X11.here hx rfl (hb hby at_48) rfl (teq (by decide : (1 : Int32) = (1 : Int32))).2 ?_
    show oS p e below T11 m 51 #[.val (.int pI1), .val (.int pI2), .val (.int (1 : Int32)), .val (.int (4 : Int32)), .val (.ref pR3), .val (.ref pR5), .val (.int (1 : Int32))] [] _
    refine XS.iconst X11.here hx rfl (hb hby at_51) ?_
    show oS p e below T11 m 52 #[.val (.int pI1), .val (.int pI2), .val (.int (1 : Int32)), .val (.int (4 : Int32)), .val (.ref pR3), .val (.ref pR5), .val (.int (1 : Int32))] [(.int (1 : Int32))] _
    refine XS.goto X11.here hx rfl (pc0 := 52) (pc' := 56) rfl (hb hby at_52) (by decide) (by decide) ?_
    show oS p e below T11 m 56 #[.val (.int pI1), .val (.int pI2), .val (.int (1 : Int32)), .val (.int (4 : Int32)), .val (.ref pR3), .val (.ref pR5), .val (.int (1 : Int32))] [(.int (1 : Int32))] _
    exact retN X11 hx (t := .boolean) Bd.returns (by simp) (hb hby at_56) hr
  · show Qlaw1_4 Z pI1 pI2 pR3 pR5 pI8 pR9 pI10 h0 n0 _ T11.heap _
    rw [e11]
    exact ⟨rfl, N11⟩
theorem ef_law1_5 (m : MethodId) (pI1 : Int32) (pI2 : Int32) : entryFrame m #[(.int pI1), (.int pI2)] maxLocals = mkF m 0 #[.val (.int pI1), .val (.int pI2), .unset, .unset, .unset, .unset, .unset] [] := by first | (simp [entryFrame, mkF, argsToLocals, Value.category, maxLocals]; done) | rfl
def Qlaw1_5 (Z : State) (pI1 : Int32) (pI2 : Int32) (pR3 : Addr) (pR5 : Addr) (pI8 : Int32) (pR9 : Addr) (pI10 : Int32) (h0 : Heap) (n0 : Nat) (v : Option Value) (h : Heap) (L : List Loc) : Prop := v = some (.int (1 : Int32)) ∧ Fr n0 L
set_option maxRecDepth 65536 in
set_option maxHeartbeats 40000000 in
theorem law1_5 (l : Launch) (Z : State) (a0 : Array Value) (hw : ∀ d ∈ tables_1, d.before a0 Z = true) (ws : List Jvm.Cond) (pI1 : Int32) (pI2 : Int32) (pR3 : Addr) (pR5 : Addr) (pI8 : Int32) (pR9 : Addr) (pI10 : Int32) (h0 : Heap) (n0 : Nat) (Z0 : n0 ≤ h0.size) (S_DocumentView_ORDER_PRICES : Sta Z h0 "com/example/willenhall/willenhall/external/DocumentView" "ORDER_PRICES" "Lcom/example/willenhall/willenhall/external/DocumentView;" (.ref pR3)) (S_ExternalRole_OWNER : Sta Z h0 "com/example/willenhall/willenhall/external/ExternalRole" "OWNER" "Lcom/example/willenhall/willenhall/external/ExternalRole;" (.ref pR5)) (F_ordinal_pR5 : Fld Z h0 pR5 "java/lang/Enum" "ordinal" "I" (.int pI8)) (E_pR5 : Exa Z h0 pR5 "com/example/willenhall/willenhall/external/ExternalRole") (F_lowestRole_pR3 : Fld Z h0 pR3 "com/example/willenhall/willenhall/external/DocumentView" "lowestRole" "Lcom/example/willenhall/willenhall/external/ExternalRole;" (.ref pR9)) (F_ordinal_pR9 : Fld Z h0 pR9 "java/lang/Enum" "ordinal" "I" (.int pI10)) (E_pR9 : Exa Z h0 pR9 "com/example/willenhall/willenhall/external/ExternalRole") (E_pR3 : Exa Z h0 pR3 "com/example/willenhall/willenhall/external/DocumentView") (hc2 : (pI1 &&& (3 : Int32)) = (1 : Int32)) (hc10 : ((pI2 &&& (2147483647 : Int32)) % (6 : Int32)) = (5 : Int32)) (hc43 : ¬ (pI8 < pI10)) :
    MetFree l x (head1 (Jvm.Cond.code x code maxLocals ret :: ws) room_1) (fun a U => a = #[(.int pI1), (.int pI2)] ∧ Z.Warmed39 U.vm ∧ U.heap = h0) (fun _ _ _ _ _ => True) (fun _ U o U' => ∃ v L, o = .returned v ∧ Qlaw1_5 Z pI1 pI2 pR3 pR5 pI8 pR9 pI10 h0 n0 v U'.heap L ∧ FrameEnd U o U' L room_1.cells room_1.slots) := by
  refine MetFree.of_bodySF (plainFor_of_name pn_0) hisR ?_
  intro p e s m args below meth c s₁ Bd hml0 hP hK
  obtain ⟨rfl, hZ, hh⟩ := hP
  have hx := Bd.exec
  have hby := Bd.bytes
  have hml : c.maxLocals = 7 := hml0
  have hown : s.vm.findClass "com/example/willenhall/willenhall/external/DocumentViewIsReachedByPinLaw" = some m.cls := findClass_of_methodNamed Bd.named
  have hnm := (name_of_methodNamed Bd.named Bd.method).1
  have X0 : Stand p l e room_1 s m #[(.int pI1), (.int pI2)] below meth c s₁ [] 0 0 := Stand.of_body Bd
  have e0 : s₁.heap = h0 := by rw [← hh, Bd.state]; rfl
  have N0 := Fr.nil n0
  have pre0 : ∀ t, Steps p.tables e below (s₁.setTop (mkF m 0 #[.val (.int pI1), .val (.int pI2), .unset, .unset, .unset, .unset, .unset] [])) t → Steps p.tables e below (s₁.setTop (entryFrame m #[(.int pI1), (.int pI2)] maxLocals)) t := fun t k => castTop (ef_law1_5 m pI1 pI2) k
  obtain ⟨_, _, ⟨T4, L4, k4, n4⟩, -, X4, ⟨Lc4, hQ4, l4, y4, z4⟩, st4⟩ := Jvm.LawKit.callS X0 hx (y := yN0) hown (mvT hZ (ow hw 1 rfl)) (mvT hZ (ow hw 2 rfl)) (mvT hZ (ow hw 3 rfl)) (mvT hZ (ow hw 4 rfl)) (by decide) (backOf (W := 0) (view1 l Z a0 hw [] pR3 h0 n0 Z0 S_DocumentView_ORDER_PRICES) hZ (ow hw 4 rfl) (ow hw 3 rfl) (by decide) (by decide)) (g := (mkF m 13 #[.val (.int pI1), .val (.int pI2), .val (.int (1 : Int32)), .val (.int (5 : Int32)), .unset, .unset, .unset] [(.int (1 : Int32))])) rfl (by rw [hml]; rfl) (argsL := [(.int (1 : Int32))]) (rest := []) (lenOf pd_1 rfl) rfl (by show 2 * 0 + _ ≤ _; exact Nat.le_of_eq rfl) (hb hby at_13) (fun _ _ => ⟨rfl, e0, (by decide : 0 + 0 ≤ _), (by decide : 0 + 0 ≤ _)⟩)
  dsimp only [Pt.U, Pt.locs, Pt.cells, Pt.slots] at X4 l4 y4 z4 st4 hQ4
  subst l4 y4 z4
  obtain ⟨rfl, Nq4, e4⟩ := hQ4
  have N4 := Fr.app N0 Nq4
  obtain ⟨_, _, ⟨T6, L6, k6, n6⟩, -, X6, ⟨Lc6, hQ6, l6, y6, z6⟩, st6⟩ := Jvm.LawKit.callS X4 hx (y := yN1) hown (mvT hZ (ow hw 8 rfl)) (mvT hZ (ow hw 9 rfl)) (mvT hZ (ow hw 3 rfl)) (mvT hZ (ow hw 10 rfl)) (by decide) (backOf (W := 0) (role5 l Z a0 hw [] pR5 h0 n0 Z0 S_ExternalRole_OWNER) hZ (ow hw 10 rfl) (ow hw 3 rfl) (by decide) (by decide)) (g := (mkF m 19 #[.val (.int pI1), .val (.int pI2), .val (.int (1 : Int32)), .val (.int (5 : Int32)), .val (.ref pR3), .unset, .unset] [(.int (5 : Int32))])) rfl (by rw [hml]; rfl) (argsL := [(.int (5 : Int32))]) (rest := []) (lenOf pd_2 rfl) rfl (by show 2 * 0 + _ ≤ _; exact Nat.le_of_eq rfl) (hb hby at_19) (fun _ _ => ⟨rfl, e4, (by decide : 0 + 0 ≤ _), (by decide : 0 + 0 ≤ _)⟩)
  dsimp only [Pt.U, Pt.locs, Pt.cells, Pt.slots] at X6 l6 y6 z6 st6 hQ6
  subst l6 y6 z6
  obtain ⟨rfl, Nq6, e6⟩ := hQ6
  have N6 := Fr.app N4 Nq6
  obtain ⟨_, _, ⟨T7, L7, k7, n7⟩, -, X7, ⟨Lc7, hQ7, l7, y7, z7⟩, st7⟩ := Jvm.LawKit.callS X6 hx (y := yN2) hown (mvT hZ (ow hw 14 rfl)) (mvT hZ (ow hw 15 rfl)) (mvT hZ (ow hw 3 rfl)) (mvT hZ (ow hw 16 rfl)) (by decide) (backOf (W := 1) (lowest1 l Z a0 hw []  h0 n0 Z0 ) hZ (ow hw 16 rfl) (ow hw 3 rfl) (by decide) (by decide)) (g := (mkF m 26 #[.val (.int pI1), .val (.int pI2), .val (.int (1 : Int32)), .val (.int (5 : Int32)), .val (.ref pR3), .val (.ref pR5), .unset] [(.int (1 : Int32)), (.int (5 : Int32))])) rfl (by rw [hml]; rfl) (argsL := [(.int (1 : Int32))]) (rest := [(.int (5 : Int32))]) (lenOf pd_3 rfl) rfl (by show 2 * 0 + _ ≤ _; exact Nat.le_of_eq rfl) (hb hby at_26) (fun _ _ => ⟨rfl, e6, (by decide : 0 + 0 ≤ _), (by decide : 0 + 0 ≤ _)⟩)
  dsimp only [Pt.U, Pt.locs, Pt.cells, Pt.slots] at X7 l7 y7 z7 st7 hQ7
  subst l7 y7 z7
  obtain ⟨rfl, Nq7, e7⟩ := hQ7
  have N7 := Fr.app N6 Nq7
  obtain ⟨cq11, kq11, q11a, q11b, q11c⟩ := isOf hZ e7 E_pR3
  obtain ⟨_, _, ⟨T11, L11, k11, n11⟩, -, X11, ⟨Lc11, hQ11, l11, y11, z11⟩, st11⟩ := X7.virtualBack hx (y := yN6) (z := yN6) hown (mvT hZ (ow hw 17 rfl)) (mvT hZ (ow hw 18 rfl)) (notFace_of_selects (args := #[]) (mvT hZ (ow hw 20 rfl))) (mvT hZ (ow hw 20 rfl)) (mvT hZ (ow hw 19 rfl)) (by decide) (backOf (W := 0) (irbY l Z a0 hw [] pR3 pR5 pI8 pR9 pI10 h0 n0 Z0 F_ordinal_pR5 E_pR5 F_lowestRole_pR3 F_ordinal_pR9 E_pR9 hc43) hZ (ow hw 21 rfl) (ow hw 6 rfl) (by decide) (by decide)) q11a q11c (g := (mkF m 43 #[.val (.int pI1), .val (.int pI2), .val (.int (1 : Int32)), .val (.int (5 : Int32)), .val (.ref pR3), .val (.ref pR5), .val (.int (1 : Int32))] [(.ref pR5), (.ref pR3)])) rfl (by rw [hml]; rfl) (Steps.refl _) (argsL := [(.ref pR5)]) (rest := []) (lenOf pd_4 rfl) rfl (by show 2 * 0 + _ ≤ _; exact Nat.le_of_eq rfl) (hb hby at_43) (fun _ _ => ⟨rfl, e7, (by decide : 0 + 0 ≤ _), (by decide : 0 + 0 ≤ _)⟩)
  dsimp only [Pt.U, Pt.locs, Pt.cells, Pt.slots] at X11 l11 y11 z11 st11 hQ11
  subst l11 y11 z11
  obtain ⟨rfl, Nq11, e11⟩ := hQ11
  have N11 := Fr.app N7 Nq11
  obtain ⟨fs, hr, hrun, hended, hW, hsame⟩ := X11.leave (v := some (.int (1 : Int32))) (fun h => by rw [Bd.returns] at h; cases h)
  refine ⟨_, _, pre0 _ ?_, hrun, hended, _, _, rfl, ?_, ⟨_, rfl⟩, hW, hsame.mono (by decide) (by decide)⟩
  · show oS p e below s₁ m 0 #[.val (.int pI1), .val (.int pI2), .unset, .unset, .unset, .unset, .unset] [] _
    refine XS.iloadN X0.here hx rfl (hb hby at_0) rfl ?_
    show oS p e below s₁ m 1 #[.val (.int pI1), .val (.int pI2), .unset, .unset, .unset, .unset, .unset] [(.int pI1)] _
    refine XS.iconst X0.here hx rfl (hb hby at_1) ?_
    show oS p e below s₁ m 2 #[.val (.int pI1), .val (.int pI2), .unset, .unset, .unset, .unset, .unset] [(.int (3 : Int32)), (.int pI1)] _
    refine XS.iand X0.here hx rfl (hb hby at_2) rfl ?_
    show Steps p.tables e below (s₁.setTop (mkF m 3 #[.val (.int pI1), .val (.int pI2), .unset, .unset, .unset, .unset, .unset] [(.int (pI1 &&& (3 : Int32)))])) _
    rw [hc2]
    show oS p e below s₁ m 3 #[.val (.int pI1), .val (.int pI2), .unset, .unset, .unset, .unset, .unset] [(.int (1 : Int32))] _
    refine XS.istoreN X0.here hx rfl (hb hby at_3) rfl (l' := #[.val (.int pI1), .val (.int pI2), .val (.int (1 : Int32)), .unset, .unset, .unset, .unset]) rfl ?_
    show oS p e below s₁ m 4 #[.val (.int pI1), .val (.int pI2), .val (.int (1 : Int32)), .unset, .unset, .unset, .unset] [] _
    refine XS.iloadN X0.here hx rfl (hb hby at_4) rfl ?_
    show oS p e below s₁ m 5 #[.val (.int pI1), .val (.int pI2), .val (.int (1 : Int32)), .unset, .unset, .unset, .unset] [(.int pI2)] _
    refine X0.ldcInt hx hown (mvT hZ (ow hw 0 rfl)) (g := (mkF m 5 #[.val (.int pI1), .val (.int pI2), .val (.int (1 : Int32)), .unset, .unset, .unset, .unset] [(.int pI2)])) rfl (hb hby at_5) _ ?_
    show oS p e below s₁ m 7 #[.val (.int pI1), .val (.int pI2), .val (.int (1 : Int32)), .unset, .unset, .unset, .unset] [(.int (2147483647 : Int32)), (.int pI2)] _
    refine XS.iand X0.here hx rfl (hb hby at_7) rfl ?_
    show oS p e below s₁ m 8 #[.val (.int pI1), .val (.int pI2), .val (.int (1 : Int32)), .unset, .unset, .unset, .unset] [(.int (pI2 &&& (2147483647 : Int32)))] _
    refine XS.bipush X0.here hx rfl (hb hby at_8) ?_
    show oS p e below s₁ m 10 #[.val (.int pI1), .val (.int pI2), .val (.int (1 : Int32)), .unset, .unset, .unset, .unset] [(.int (6 : Int32)), (.int (pI2 &&& (2147483647 : Int32)))] _
    refine iremM (g := (mkF m 10 #[.val (.int pI1), .val (.int pI2), .val (.int (1 : Int32)), .unset, .unset, .unset, .unset] [(.int (6 : Int32)), (.int (pI2 &&& (2147483647 : Int32)))])) X0 hx rfl (hb hby at_10) rfl (by decide) ?_
    show Steps p.tables e below (s₁.setTop (mkF m 11 #[.val (.int pI1), .val (.int pI2), .val (.int (1 : Int32)), .unset, .unset, .unset, .unset] [(.int ((pI2 &&& (2147483647 : Int32)) % (6 : Int32)))])) _
    rw [hc10]
    show oS p e below s₁ m 11 #[.val (.int pI1), .val (.int pI2), .val (.int (1 : Int32)), .unset, .unset, .unset, .unset] [(.int (5 : Int32))] _
    refine XS.istoreN X0.here hx rfl (hb hby at_11) rfl (l' := #[.val (.int pI1), .val (.int pI2), .val (.int (1 : Int32)), .val (.int (5 : Int32)), .unset, .unset, .unset]) rfl ?_
    show oS p e below s₁ m 12 #[.val (.int pI1), .val (.int pI2), .val (.int (1 : Int32)), .val (.int (5 : Int32)), .unset, .unset, .unset] [] _
    refine XS.iloadN X0.here hx rfl (hb hby at_12) rfl ?_
    show oS p e below s₁ m 13 #[.val (.int pI1), .val (.int pI2), .val (.int (1 : Int32)), .val (.int (5 : Int32)), .unset, .unset, .unset] [(.int (1 : Int32))] _
    refine st4 _ ?_
    show oS p e below T4 m 16 #[.val (.int pI1), .val (.int pI2), .val (.int (1 : Int32)), .val (.int (5 : Int32)), .unset, .unset, .unset] [(.ref pR3)] _
    refine XS.astore X4.here hx rfl (hb hby at_16) rfl rfl (l' := #[.val (.int pI1), .val (.int pI2), .val (.int (1 : Int32)), .val (.int (5 : Int32)), .val (.ref pR3), .unset, .unset]) rfl ?_
    show oS p e below T4 m 18 #[.val (.int pI1), .val (.int pI2), .val (.int (1 : Int32)), .val (.int (5 : Int32)), .val (.ref pR3), .unset, .unset] [] _
    refine XS.iloadN X4.here hx rfl (hb hby at_18) rfl ?_
    show oS p e below T4 m 19 #[.val (.int pI1), .val (.int pI2), .val (.int (1 : Int32)), .val (.int (5 : Int32)), .val (.ref pR3), .unset, .unset] [(.int (5 : Int32))] _
    refine st6 _ ?_
    show oS p e below T6 m 22 #[.val (.int pI1), .val (.int pI2), .val (.int (1 : Int32)), .val (.int (5 : Int32)), .val (.ref pR3), .unset, .unset] [(.ref pR5)] _
    refine XS.astore X6.here hx rfl (hb hby at_22) rfl rfl (l' := #[.val (.int pI1), .val (.int pI2), .val (.int (1 : Int32)), .val (.int (5 : Int32)), .val (.ref pR3), .val (.ref pR5), .unset]) rfl ?_
    show oS p e below T6 m 24 #[.val (.int pI1), .val (.int pI2), .val (.int (1 : Int32)), .val (.int (5 : Int32)), .val (.ref pR3), .val (.ref pR5), .unset] [] _
    refine XS.iloadN X6.here hx rfl (hb hby at_24) rfl ?_
    show oS p e below T6 m 25 #[.val (.int pI1), .val (.int pI2), .val (.int (1 : Int32)), .val (.int (5 : Int32)), .val (.ref pR3), .val (.ref pR5), .unset] [(.int (5 : Int32))] _
    refine XS.iloadN X6.here hx rfl (hb hby at_25) rfl ?_
    show oS p e below T6 m 26 #[.val (.int pI1), .val (.int pI2), .val (.int (1 : Int32)), .val (.int (5 : Int32)), .val (.ref pR3), .val (.ref pR5), .unset] [(.int (1 : Int32)), (.int (5 : Int32))] _
    refine st7 _ ?_
    show oS p e below T7 m 29 #[.val (.int pI1), .val (.int pI2), .val (.int (1 : Int32)), .val (.int (5 : Int32)), .val (.ref pR3), .val (.ref pR5), .unset] [(.int (2 : Int32)), (.int (5 : Int32))] _
    refine XS.icmpNo X7.here hx rfl (hb hby at_29) rfl (flt (by decide : ¬ ((5 : Int32) < (2 : Int32)))).1 ?_
    show oS p e below T7 m 32 #[.val (.int pI1), .val (.int pI2), .val (.int (1 : Int32)), .val (.int (5 : Int32)), .val (.ref pR3), .val (.ref pR5), .unset] [] _
    refine XS.iconst X7.here hx rfl (hb hby at_32) ?_
    show oS p e below T7 m 33 #[.val (.int pI1), .val (.int pI2), .val (.int (1 : Int32)), .val (.int (5 : Int32)), .val (.ref pR3), .val (.ref pR5), .unset] [(.int (1 : Int32))] _
    refine XS.goto X7.here hx rfl (pc0 := 33) (pc' := 37) rfl (hb hby at_33) (by decide) (by decide) ?_
    show oS p e below T7 m 37 #[.val (.int pI1), .val (.int pI2), .val (.int (1 : Int32)), .val (.int (5 : Int32)), .val (.ref pR3), .val (.ref pR5), .unset] [(.int (1 : Int32))] _
    refine XS.istore X7.here hx rfl (hb hby at_37) rfl (l' := #[.val (.int pI1), .val (.int pI2), .val (.int (1 : Int32)), .val (.int (5 : Int32)), .val (.ref pR3), .val (.ref pR5), .val (.int (1 : Int32))]) rfl ?_
    show oS p e below T7 m 39 #[.val (.int pI1), .val (.int pI2), .val (.int (1 : Int32)), .val (.int (5 : Int32)), .val (.ref pR3), .val (.ref pR5), .val (.int (1 : Int32))] [] _
    refine XS.aload X7.here hx rfl (hb hby at_39) rfl rfl ?_
    show oS p e below T7 m 41 #[.val (.int pI1), .val (.int pI2), .val (.int (1 : Int32)), .val (.int (5 : Int32)), .val (.ref pR3), .val (.ref pR5), .val (.int (1 : Int32))] [(.ref pR3)] _
    refine XS.aload X7.here hx rfl (hb hby at_41) rfl rfl ?_
    show oS p e below T7 m 43 #[.val (.int pI1), .val (.int pI2), .val (.int (1 : Int32)), .val (.int (5 : Int32)), .val (.ref pR3), .val (.ref pR5), .val (.int (1 : Int32))] [(.ref pR5), (.ref pR3)] _
    refine st11.trans ?_
    show oS p e below T11 m 46 #[.val (.int pI1), .val (.int pI2), .val (.int (1 : Int32)), .val (.int (5 : Int32)), .val (.ref pR3), .val (.ref pR5), .val (.int (1 : Int32))] [(.int (1 : Int32))] _
    refine XS.iload X11.here hx rfl (hb hby at_46) rfl ?_
    show oS p e below T11 m 48 #[.val (.int pI1), .val (.int pI2), .val (.int (1 : Int32)), .val (.int (5 : Int32)), .val (.ref pR3), .val (.ref pR5), .val (.int (1 : Int32))] [(.int (1 : Int32)), (.int (1 : Int32))] _
    refine XS.icmpNo X11.here hx rfl (hb hby at_48) rfl (teq (by decide : (1 : Int32) = (1 : Int32))).2 ?_
    show oS p e below T11 m 51 #[.val (.int pI1), .val (.int pI2), .val (.int (1 : Int32)), .val (.int (5 : Int32)), .val (.ref pR3), .val (.ref pR5), .val (.int (1 : Int32))] [] _
    refine XS.iconst X11.here hx rfl (hb hby at_51) ?_
    show oS p e below T11 m 52 #[.val (.int pI1), .val (.int pI2), .val (.int (1 : Int32)), .val (.int (5 : Int32)), .val (.ref pR3), .val (.ref pR5), .val (.int (1 : Int32))] [(.int (1 : Int32))] _
    refine XS.goto X11.here hx rfl (pc0 := 52) (pc' := 56) rfl (hb hby at_52) (by decide) (by decide) ?_
    show oS p e below T11 m 56 #[.val (.int pI1), .val (.int pI2), .val (.int (1 : Int32)), .val (.int (5 : Int32)), .val (.ref pR3), .val (.ref pR5), .val (.int (1 : Int32))] [(.int (1 : Int32))] _
    exact retN X11 hx (t := .boolean) Bd.returns (by simp) (hb hby at_56) hr
  · show Qlaw1_5 Z pI1 pI2 pR3 pR5 pI8 pR9 pI10 h0 n0 _ T11.heap _
    rw [e11]
    exact ⟨rfl, N11⟩
theorem ef_law2_0 (m : MethodId) (pI1 : Int32) (pI2 : Int32) : entryFrame m #[(.int pI1), (.int pI2)] maxLocals = mkF m 0 #[.val (.int pI1), .val (.int pI2), .unset, .unset, .unset, .unset, .unset] [] := by first | (simp [entryFrame, mkF, argsToLocals, Value.category, maxLocals]; done) | rfl
def Qlaw2_0 (Z : State) (pI1 : Int32) (pI2 : Int32) (pR3 : Addr) (pR5 : Addr) (pI8 : Int32) (pR9 : Addr) (pI10 : Int32) (h0 : Heap) (n0 : Nat) (v : Option Value) (h : Heap) (L : List Loc) : Prop := v = some (.int (1 : Int32)) ∧ Fr n0 L
set_option maxRecDepth 65536 in
set_option maxHeartbeats 40000000 in
theorem law2_0 (l : Launch) (Z : State) (a0 : Array Value) (hw : ∀ d ∈ tables_1, d.before a0 Z = true) (ws : List Jvm.Cond) (pI1 : Int32) (pI2 : Int32) (pR3 : Addr) (pR5 : Addr) (pI8 : Int32) (pR9 : Addr) (pI10 : Int32) (h0 : Heap) (n0 : Nat) (Z0 : n0 ≤ h0.size) (S_DocumentView_INVOICES : Sta Z h0 "com/example/willenhall/willenhall/external/DocumentView" "INVOICES" "Lcom/example/willenhall/willenhall/external/DocumentView;" (.ref pR3)) (S_ExternalRole_BASIC : Sta Z h0 "com/example/willenhall/willenhall/external/ExternalRole" "BASIC" "Lcom/example/willenhall/willenhall/external/ExternalRole;" (.ref pR5)) (F_ordinal_pR5 : Fld Z h0 pR5 "java/lang/Enum" "ordinal" "I" (.int pI8)) (E_pR5 : Exa Z h0 pR5 "com/example/willenhall/willenhall/external/ExternalRole") (F_lowestRole_pR3 : Fld Z h0 pR3 "com/example/willenhall/willenhall/external/DocumentView" "lowestRole" "Lcom/example/willenhall/willenhall/external/ExternalRole;" (.ref pR9)) (F_ordinal_pR9 : Fld Z h0 pR9 "java/lang/Enum" "ordinal" "I" (.int pI10)) (E_pR9 : Exa Z h0 pR9 "com/example/willenhall/willenhall/external/ExternalRole") (E_pR3 : Exa Z h0 pR3 "com/example/willenhall/willenhall/external/DocumentView") (hc2 : (pI1 &&& (3 : Int32)) = (2 : Int32)) (hc10 : ((pI2 &&& (2147483647 : Int32)) % (6 : Int32)) = (0 : Int32)) (hc43 : pI8 < pI10) :
    MetFree l x (head1 (Jvm.Cond.code x code maxLocals ret :: ws) room_1) (fun a U => a = #[(.int pI1), (.int pI2)] ∧ Z.Warmed39 U.vm ∧ U.heap = h0) (fun _ _ _ _ _ => True) (fun _ U o U' => ∃ v L, o = .returned v ∧ Qlaw2_0 Z pI1 pI2 pR3 pR5 pI8 pR9 pI10 h0 n0 v U'.heap L ∧ FrameEnd U o U' L room_1.cells room_1.slots) := by
  refine MetFree.of_bodySF (plainFor_of_name pn_0) hisR ?_
  intro p e s m args below meth c s₁ Bd hml0 hP hK
  obtain ⟨rfl, hZ, hh⟩ := hP
  have hx := Bd.exec
  have hby := Bd.bytes
  have hml : c.maxLocals = 7 := hml0
  have hown : s.vm.findClass "com/example/willenhall/willenhall/external/DocumentViewIsReachedByPinLaw" = some m.cls := findClass_of_methodNamed Bd.named
  have hnm := (name_of_methodNamed Bd.named Bd.method).1
  have X0 : Stand p l e room_1 s m #[(.int pI1), (.int pI2)] below meth c s₁ [] 0 0 := Stand.of_body Bd
  have e0 : s₁.heap = h0 := by rw [← hh, Bd.state]; rfl
  have N0 := Fr.nil n0
  have pre0 : ∀ t, Steps p.tables e below (s₁.setTop (mkF m 0 #[.val (.int pI1), .val (.int pI2), .unset, .unset, .unset, .unset, .unset] [])) t → Steps p.tables e below (s₁.setTop (entryFrame m #[(.int pI1), (.int pI2)] maxLocals)) t := fun t k => castTop (ef_law2_0 m pI1 pI2) k
  obtain ⟨_, _, ⟨T4, L4, k4, n4⟩, -, X4, ⟨Lc4, hQ4, l4, y4, z4⟩, st4⟩ := Jvm.LawKit.callS X0 hx (y := yN0) hown (mvT hZ (ow hw 1 rfl)) (mvT hZ (ow hw 2 rfl)) (mvT hZ (ow hw 3 rfl)) (mvT hZ (ow hw 4 rfl)) (by decide) (backOf (W := 0) (view2 l Z a0 hw [] pR3 h0 n0 Z0 S_DocumentView_INVOICES) hZ (ow hw 4 rfl) (ow hw 3 rfl) (by decide) (by decide)) (g := (mkF m 13 #[.val (.int pI1), .val (.int pI2), .val (.int (2 : Int32)), .val (.int (0 : Int32)), .unset, .unset, .unset] [(.int (2 : Int32))])) rfl (by rw [hml]; rfl) (argsL := [(.int (2 : Int32))]) (rest := []) (lenOf pd_1 rfl) rfl (by show 2 * 0 + _ ≤ _; exact Nat.le_of_eq rfl) (hb hby at_13) (fun _ _ => ⟨rfl, e0, (by decide : 0 + 0 ≤ _), (by decide : 0 + 0 ≤ _)⟩)
  dsimp only [Pt.U, Pt.locs, Pt.cells, Pt.slots] at X4 l4 y4 z4 st4 hQ4
  subst l4 y4 z4
  obtain ⟨rfl, Nq4, e4⟩ := hQ4
  have N4 := Fr.app N0 Nq4
  obtain ⟨_, _, ⟨T6, L6, k6, n6⟩, -, X6, ⟨Lc6, hQ6, l6, y6, z6⟩, st6⟩ := Jvm.LawKit.callS X4 hx (y := yN1) hown (mvT hZ (ow hw 8 rfl)) (mvT hZ (ow hw 9 rfl)) (mvT hZ (ow hw 3 rfl)) (mvT hZ (ow hw 10 rfl)) (by decide) (backOf (W := 0) (role0 l Z a0 hw [] pR5 h0 n0 Z0 S_ExternalRole_BASIC) hZ (ow hw 10 rfl) (ow hw 3 rfl) (by decide) (by decide)) (g := (mkF m 19 #[.val (.int pI1), .val (.int pI2), .val (.int (2 : Int32)), .val (.int (0 : Int32)), .val (.ref pR3), .unset, .unset] [(.int (0 : Int32))])) rfl (by rw [hml]; rfl) (argsL := [(.int (0 : Int32))]) (rest := []) (lenOf pd_2 rfl) rfl (by show 2 * 0 + _ ≤ _; exact Nat.le_of_eq rfl) (hb hby at_19) (fun _ _ => ⟨rfl, e4, (by decide : 0 + 0 ≤ _), (by decide : 0 + 0 ≤ _)⟩)
  dsimp only [Pt.U, Pt.locs, Pt.cells, Pt.slots] at X6 l6 y6 z6 st6 hQ6
  subst l6 y6 z6
  obtain ⟨rfl, Nq6, e6⟩ := hQ6
  have N6 := Fr.app N4 Nq6
  obtain ⟨_, _, ⟨T7, L7, k7, n7⟩, -, X7, ⟨Lc7, hQ7, l7, y7, z7⟩, st7⟩ := Jvm.LawKit.callS X6 hx (y := yN2) hown (mvT hZ (ow hw 14 rfl)) (mvT hZ (ow hw 15 rfl)) (mvT hZ (ow hw 3 rfl)) (mvT hZ (ow hw 16 rfl)) (by decide) (backOf (W := 1) (lowest2 l Z a0 hw []  h0 n0 Z0 ) hZ (ow hw 16 rfl) (ow hw 3 rfl) (by decide) (by decide)) (g := (mkF m 26 #[.val (.int pI1), .val (.int pI2), .val (.int (2 : Int32)), .val (.int (0 : Int32)), .val (.ref pR3), .val (.ref pR5), .unset] [(.int (2 : Int32)), (.int (0 : Int32))])) rfl (by rw [hml]; rfl) (argsL := [(.int (2 : Int32))]) (rest := [(.int (0 : Int32))]) (lenOf pd_3 rfl) rfl (by show 2 * 0 + _ ≤ _; exact Nat.le_of_eq rfl) (hb hby at_26) (fun _ _ => ⟨rfl, e6, (by decide : 0 + 0 ≤ _), (by decide : 0 + 0 ≤ _)⟩)
  dsimp only [Pt.U, Pt.locs, Pt.cells, Pt.slots] at X7 l7 y7 z7 st7 hQ7
  subst l7 y7 z7
  obtain ⟨rfl, Nq7, e7⟩ := hQ7
  have N7 := Fr.app N6 Nq7
  obtain ⟨cq11, kq11, q11a, q11b, q11c⟩ := isOf hZ e7 E_pR3
  obtain ⟨_, _, ⟨T11, L11, k11, n11⟩, -, X11, ⟨Lc11, hQ11, l11, y11, z11⟩, st11⟩ := X7.virtualBack hx (y := yN6) (z := yN6) hown (mvT hZ (ow hw 17 rfl)) (mvT hZ (ow hw 18 rfl)) (notFace_of_selects (args := #[]) (mvT hZ (ow hw 20 rfl))) (mvT hZ (ow hw 20 rfl)) (mvT hZ (ow hw 19 rfl)) (by decide) (backOf (W := 0) (irbN l Z a0 hw [] pR3 pR5 pI8 pR9 pI10 h0 n0 Z0 F_ordinal_pR5 E_pR5 F_lowestRole_pR3 F_ordinal_pR9 E_pR9 hc43) hZ (ow hw 21 rfl) (ow hw 6 rfl) (by decide) (by decide)) q11a q11c (g := (mkF m 43 #[.val (.int pI1), .val (.int pI2), .val (.int (2 : Int32)), .val (.int (0 : Int32)), .val (.ref pR3), .val (.ref pR5), .val (.int (0 : Int32))] [(.ref pR5), (.ref pR3)])) rfl (by rw [hml]; rfl) (Steps.refl _) (argsL := [(.ref pR5)]) (rest := []) (lenOf pd_4 rfl) rfl (by show 2 * 0 + _ ≤ _; exact Nat.le_of_eq rfl) (hb hby at_43) (fun _ _ => ⟨rfl, e7, (by decide : 0 + 0 ≤ _), (by decide : 0 + 0 ≤ _)⟩)
  dsimp only [Pt.U, Pt.locs, Pt.cells, Pt.slots] at X11 l11 y11 z11 st11 hQ11
  subst l11 y11 z11
  obtain ⟨rfl, Nq11, e11⟩ := hQ11
  have N11 := Fr.app N7 Nq11
  obtain ⟨fs, hr, hrun, hended, hW, hsame⟩ := X11.leave (v := some (.int (1 : Int32))) (fun h => by rw [Bd.returns] at h; cases h)
  refine ⟨_, _, pre0 _ ?_, hrun, hended, _, _, rfl, ?_, ⟨_, rfl⟩, hW, hsame.mono (by decide) (by decide)⟩
  · show oS p e below s₁ m 0 #[.val (.int pI1), .val (.int pI2), .unset, .unset, .unset, .unset, .unset] [] _
    refine XS.iloadN X0.here hx rfl (hb hby at_0) rfl ?_
    show oS p e below s₁ m 1 #[.val (.int pI1), .val (.int pI2), .unset, .unset, .unset, .unset, .unset] [(.int pI1)] _
    refine XS.iconst X0.here hx rfl (hb hby at_1) ?_
    show oS p e below s₁ m 2 #[.val (.int pI1), .val (.int pI2), .unset, .unset, .unset, .unset, .unset] [(.int (3 : Int32)), (.int pI1)] _
    refine XS.iand X0.here hx rfl (hb hby at_2) rfl ?_
    show Steps p.tables e below (s₁.setTop (mkF m 3 #[.val (.int pI1), .val (.int pI2), .unset, .unset, .unset, .unset, .unset] [(.int (pI1 &&& (3 : Int32)))])) _
    rw [hc2]
    show oS p e below s₁ m 3 #[.val (.int pI1), .val (.int pI2), .unset, .unset, .unset, .unset, .unset] [(.int (2 : Int32))] _
    refine XS.istoreN X0.here hx rfl (hb hby at_3) rfl (l' := #[.val (.int pI1), .val (.int pI2), .val (.int (2 : Int32)), .unset, .unset, .unset, .unset]) rfl ?_
    show oS p e below s₁ m 4 #[.val (.int pI1), .val (.int pI2), .val (.int (2 : Int32)), .unset, .unset, .unset, .unset] [] _
    refine XS.iloadN X0.here hx rfl (hb hby at_4) rfl ?_
    show oS p e below s₁ m 5 #[.val (.int pI1), .val (.int pI2), .val (.int (2 : Int32)), .unset, .unset, .unset, .unset] [(.int pI2)] _
    refine X0.ldcInt hx hown (mvT hZ (ow hw 0 rfl)) (g := (mkF m 5 #[.val (.int pI1), .val (.int pI2), .val (.int (2 : Int32)), .unset, .unset, .unset, .unset] [(.int pI2)])) rfl (hb hby at_5) _ ?_
    show oS p e below s₁ m 7 #[.val (.int pI1), .val (.int pI2), .val (.int (2 : Int32)), .unset, .unset, .unset, .unset] [(.int (2147483647 : Int32)), (.int pI2)] _
    refine XS.iand X0.here hx rfl (hb hby at_7) rfl ?_
    show oS p e below s₁ m 8 #[.val (.int pI1), .val (.int pI2), .val (.int (2 : Int32)), .unset, .unset, .unset, .unset] [(.int (pI2 &&& (2147483647 : Int32)))] _
    refine XS.bipush X0.here hx rfl (hb hby at_8) ?_
    show oS p e below s₁ m 10 #[.val (.int pI1), .val (.int pI2), .val (.int (2 : Int32)), .unset, .unset, .unset, .unset] [(.int (6 : Int32)), (.int (pI2 &&& (2147483647 : Int32)))] _
    refine iremM (g := (mkF m 10 #[.val (.int pI1), .val (.int pI2), .val (.int (2 : Int32)), .unset, .unset, .unset, .unset] [(.int (6 : Int32)), (.int (pI2 &&& (2147483647 : Int32)))])) X0 hx rfl (hb hby at_10) rfl (by decide) ?_
    show Steps p.tables e below (s₁.setTop (mkF m 11 #[.val (.int pI1), .val (.int pI2), .val (.int (2 : Int32)), .unset, .unset, .unset, .unset] [(.int ((pI2 &&& (2147483647 : Int32)) % (6 : Int32)))])) _
    rw [hc10]
    show oS p e below s₁ m 11 #[.val (.int pI1), .val (.int pI2), .val (.int (2 : Int32)), .unset, .unset, .unset, .unset] [(.int (0 : Int32))] _
    refine XS.istoreN X0.here hx rfl (hb hby at_11) rfl (l' := #[.val (.int pI1), .val (.int pI2), .val (.int (2 : Int32)), .val (.int (0 : Int32)), .unset, .unset, .unset]) rfl ?_
    show oS p e below s₁ m 12 #[.val (.int pI1), .val (.int pI2), .val (.int (2 : Int32)), .val (.int (0 : Int32)), .unset, .unset, .unset] [] _
    refine XS.iloadN X0.here hx rfl (hb hby at_12) rfl ?_
    show oS p e below s₁ m 13 #[.val (.int pI1), .val (.int pI2), .val (.int (2 : Int32)), .val (.int (0 : Int32)), .unset, .unset, .unset] [(.int (2 : Int32))] _
    refine st4 _ ?_
    show oS p e below T4 m 16 #[.val (.int pI1), .val (.int pI2), .val (.int (2 : Int32)), .val (.int (0 : Int32)), .unset, .unset, .unset] [(.ref pR3)] _
    refine XS.astore X4.here hx rfl (hb hby at_16) rfl rfl (l' := #[.val (.int pI1), .val (.int pI2), .val (.int (2 : Int32)), .val (.int (0 : Int32)), .val (.ref pR3), .unset, .unset]) rfl ?_
    show oS p e below T4 m 18 #[.val (.int pI1), .val (.int pI2), .val (.int (2 : Int32)), .val (.int (0 : Int32)), .val (.ref pR3), .unset, .unset] [] _
    refine XS.iloadN X4.here hx rfl (hb hby at_18) rfl ?_
    show oS p e below T4 m 19 #[.val (.int pI1), .val (.int pI2), .val (.int (2 : Int32)), .val (.int (0 : Int32)), .val (.ref pR3), .unset, .unset] [(.int (0 : Int32))] _
    refine st6 _ ?_
    show oS p e below T6 m 22 #[.val (.int pI1), .val (.int pI2), .val (.int (2 : Int32)), .val (.int (0 : Int32)), .val (.ref pR3), .unset, .unset] [(.ref pR5)] _
    refine XS.astore X6.here hx rfl (hb hby at_22) rfl rfl (l' := #[.val (.int pI1), .val (.int pI2), .val (.int (2 : Int32)), .val (.int (0 : Int32)), .val (.ref pR3), .val (.ref pR5), .unset]) rfl ?_
    show oS p e below T6 m 24 #[.val (.int pI1), .val (.int pI2), .val (.int (2 : Int32)), .val (.int (0 : Int32)), .val (.ref pR3), .val (.ref pR5), .unset] [] _
    refine XS.iloadN X6.here hx rfl (hb hby at_24) rfl ?_
    show oS p e below T6 m 25 #[.val (.int pI1), .val (.int pI2), .val (.int (2 : Int32)), .val (.int (0 : Int32)), .val (.ref pR3), .val (.ref pR5), .unset] [(.int (0 : Int32))] _
    refine XS.iloadN X6.here hx rfl (hb hby at_25) rfl ?_
    show oS p e below T6 m 26 #[.val (.int pI1), .val (.int pI2), .val (.int (2 : Int32)), .val (.int (0 : Int32)), .val (.ref pR3), .val (.ref pR5), .unset] [(.int (2 : Int32)), (.int (0 : Int32))] _
    refine st7 _ ?_
    show oS p e below T7 m 29 #[.val (.int pI1), .val (.int pI2), .val (.int (2 : Int32)), .val (.int (0 : Int32)), .val (.ref pR3), .val (.ref pR5), .unset] [(.int (3 : Int32)), (.int (0 : Int32))] _
    refine XS.icmpYes X7.here hx rfl (pc0 := 29) (pc' := 36) rfl (hb hby at_29) rfl (tlt (by decide : (0 : Int32) < (3 : Int32))).1 (by decide) (by decide) ?_
    show oS p e below T7 m 36 #[.val (.int pI1), .val (.int pI2), .val (.int (2 : Int32)), .val (.int (0 : Int32)), .val (.ref pR3), .val (.ref pR5), .unset] [] _
    refine XS.iconst X7.here hx rfl (hb hby at_36) ?_
    show oS p e below T7 m 37 #[.val (.int pI1), .val (.int pI2), .val (.int (2 : Int32)), .val (.int (0 : Int32)), .val (.ref pR3), .val (.ref pR5), .unset] [(.int (0 : Int32))] _
    refine XS.istore X7.here hx rfl (hb hby at_37) rfl (l' := #[.val (.int pI1), .val (.int pI2), .val (.int (2 : Int32)), .val (.int (0 : Int32)), .val (.ref pR3), .val (.ref pR5), .val (.int (0 : Int32))]) rfl ?_
    show oS p e below T7 m 39 #[.val (.int pI1), .val (.int pI2), .val (.int (2 : Int32)), .val (.int (0 : Int32)), .val (.ref pR3), .val (.ref pR5), .val (.int (0 : Int32))] [] _
    refine XS.aload X7.here hx rfl (hb hby at_39) rfl rfl ?_
    show oS p e below T7 m 41 #[.val (.int pI1), .val (.int pI2), .val (.int (2 : Int32)), .val (.int (0 : Int32)), .val (.ref pR3), .val (.ref pR5), .val (.int (0 : Int32))] [(.ref pR3)] _
    refine XS.aload X7.here hx rfl (hb hby at_41) rfl rfl ?_
    show oS p e below T7 m 43 #[.val (.int pI1), .val (.int pI2), .val (.int (2 : Int32)), .val (.int (0 : Int32)), .val (.ref pR3), .val (.ref pR5), .val (.int (0 : Int32))] [(.ref pR5), (.ref pR3)] _
    refine st11.trans ?_
    show oS p e below T11 m 46 #[.val (.int pI1), .val (.int pI2), .val (.int (2 : Int32)), .val (.int (0 : Int32)), .val (.ref pR3), .val (.ref pR5), .val (.int (0 : Int32))] [(.int (0 : Int32))] _
    refine XS.iload X11.here hx rfl (hb hby at_46) rfl ?_
    show oS p e below T11 m 48 #[.val (.int pI1), .val (.int pI2), .val (.int (2 : Int32)), .val (.int (0 : Int32)), .val (.ref pR3), .val (.ref pR5), .val (.int (0 : Int32))] [(.int (0 : Int32)), (.int (0 : Int32))] _
    refine XS.icmpNo X11.here hx rfl (hb hby at_48) rfl (teq (by decide : (0 : Int32) = (0 : Int32))).2 ?_
    show oS p e below T11 m 51 #[.val (.int pI1), .val (.int pI2), .val (.int (2 : Int32)), .val (.int (0 : Int32)), .val (.ref pR3), .val (.ref pR5), .val (.int (0 : Int32))] [] _
    refine XS.iconst X11.here hx rfl (hb hby at_51) ?_
    show oS p e below T11 m 52 #[.val (.int pI1), .val (.int pI2), .val (.int (2 : Int32)), .val (.int (0 : Int32)), .val (.ref pR3), .val (.ref pR5), .val (.int (0 : Int32))] [(.int (1 : Int32))] _
    refine XS.goto X11.here hx rfl (pc0 := 52) (pc' := 56) rfl (hb hby at_52) (by decide) (by decide) ?_
    show oS p e below T11 m 56 #[.val (.int pI1), .val (.int pI2), .val (.int (2 : Int32)), .val (.int (0 : Int32)), .val (.ref pR3), .val (.ref pR5), .val (.int (0 : Int32))] [(.int (1 : Int32))] _
    exact retN X11 hx (t := .boolean) Bd.returns (by simp) (hb hby at_56) hr
  · show Qlaw2_0 Z pI1 pI2 pR3 pR5 pI8 pR9 pI10 h0 n0 _ T11.heap _
    rw [e11]
    exact ⟨rfl, N11⟩
theorem ef_law2_1 (m : MethodId) (pI1 : Int32) (pI2 : Int32) : entryFrame m #[(.int pI1), (.int pI2)] maxLocals = mkF m 0 #[.val (.int pI1), .val (.int pI2), .unset, .unset, .unset, .unset, .unset] [] := by first | (simp [entryFrame, mkF, argsToLocals, Value.category, maxLocals]; done) | rfl
def Qlaw2_1 (Z : State) (pI1 : Int32) (pI2 : Int32) (pR3 : Addr) (pR5 : Addr) (pI8 : Int32) (pR9 : Addr) (pI10 : Int32) (h0 : Heap) (n0 : Nat) (v : Option Value) (h : Heap) (L : List Loc) : Prop := v = some (.int (1 : Int32)) ∧ Fr n0 L
set_option maxRecDepth 65536 in
set_option maxHeartbeats 40000000 in
theorem law2_1 (l : Launch) (Z : State) (a0 : Array Value) (hw : ∀ d ∈ tables_1, d.before a0 Z = true) (ws : List Jvm.Cond) (pI1 : Int32) (pI2 : Int32) (pR3 : Addr) (pR5 : Addr) (pI8 : Int32) (pR9 : Addr) (pI10 : Int32) (h0 : Heap) (n0 : Nat) (Z0 : n0 ≤ h0.size) (S_DocumentView_INVOICES : Sta Z h0 "com/example/willenhall/willenhall/external/DocumentView" "INVOICES" "Lcom/example/willenhall/willenhall/external/DocumentView;" (.ref pR3)) (S_ExternalRole_ORDERS : Sta Z h0 "com/example/willenhall/willenhall/external/ExternalRole" "ORDERS" "Lcom/example/willenhall/willenhall/external/ExternalRole;" (.ref pR5)) (F_ordinal_pR5 : Fld Z h0 pR5 "java/lang/Enum" "ordinal" "I" (.int pI8)) (E_pR5 : Exa Z h0 pR5 "com/example/willenhall/willenhall/external/ExternalRole") (F_lowestRole_pR3 : Fld Z h0 pR3 "com/example/willenhall/willenhall/external/DocumentView" "lowestRole" "Lcom/example/willenhall/willenhall/external/ExternalRole;" (.ref pR9)) (F_ordinal_pR9 : Fld Z h0 pR9 "java/lang/Enum" "ordinal" "I" (.int pI10)) (E_pR9 : Exa Z h0 pR9 "com/example/willenhall/willenhall/external/ExternalRole") (E_pR3 : Exa Z h0 pR3 "com/example/willenhall/willenhall/external/DocumentView") (hc2 : (pI1 &&& (3 : Int32)) = (2 : Int32)) (hc10 : ((pI2 &&& (2147483647 : Int32)) % (6 : Int32)) = (1 : Int32)) (hc43 : pI8 < pI10) :
    MetFree l x (head1 (Jvm.Cond.code x code maxLocals ret :: ws) room_1) (fun a U => a = #[(.int pI1), (.int pI2)] ∧ Z.Warmed39 U.vm ∧ U.heap = h0) (fun _ _ _ _ _ => True) (fun _ U o U' => ∃ v L, o = .returned v ∧ Qlaw2_1 Z pI1 pI2 pR3 pR5 pI8 pR9 pI10 h0 n0 v U'.heap L ∧ FrameEnd U o U' L room_1.cells room_1.slots) := by
  refine MetFree.of_bodySF (plainFor_of_name pn_0) hisR ?_
  intro p e s m args below meth c s₁ Bd hml0 hP hK
  obtain ⟨rfl, hZ, hh⟩ := hP
  have hx := Bd.exec
  have hby := Bd.bytes
  have hml : c.maxLocals = 7 := hml0
  have hown : s.vm.findClass "com/example/willenhall/willenhall/external/DocumentViewIsReachedByPinLaw" = some m.cls := findClass_of_methodNamed Bd.named
  have hnm := (name_of_methodNamed Bd.named Bd.method).1
  have X0 : Stand p l e room_1 s m #[(.int pI1), (.int pI2)] below meth c s₁ [] 0 0 := Stand.of_body Bd
  have e0 : s₁.heap = h0 := by rw [← hh, Bd.state]; rfl
  have N0 := Fr.nil n0
  have pre0 : ∀ t, Steps p.tables e below (s₁.setTop (mkF m 0 #[.val (.int pI1), .val (.int pI2), .unset, .unset, .unset, .unset, .unset] [])) t → Steps p.tables e below (s₁.setTop (entryFrame m #[(.int pI1), (.int pI2)] maxLocals)) t := fun t k => castTop (ef_law2_1 m pI1 pI2) k
  obtain ⟨_, _, ⟨T4, L4, k4, n4⟩, -, X4, ⟨Lc4, hQ4, l4, y4, z4⟩, st4⟩ := Jvm.LawKit.callS X0 hx (y := yN0) hown (mvT hZ (ow hw 1 rfl)) (mvT hZ (ow hw 2 rfl)) (mvT hZ (ow hw 3 rfl)) (mvT hZ (ow hw 4 rfl)) (by decide) (backOf (W := 0) (view2 l Z a0 hw [] pR3 h0 n0 Z0 S_DocumentView_INVOICES) hZ (ow hw 4 rfl) (ow hw 3 rfl) (by decide) (by decide)) (g := (mkF m 13 #[.val (.int pI1), .val (.int pI2), .val (.int (2 : Int32)), .val (.int (1 : Int32)), .unset, .unset, .unset] [(.int (2 : Int32))])) rfl (by rw [hml]; rfl) (argsL := [(.int (2 : Int32))]) (rest := []) (lenOf pd_1 rfl) rfl (by show 2 * 0 + _ ≤ _; exact Nat.le_of_eq rfl) (hb hby at_13) (fun _ _ => ⟨rfl, e0, (by decide : 0 + 0 ≤ _), (by decide : 0 + 0 ≤ _)⟩)
  dsimp only [Pt.U, Pt.locs, Pt.cells, Pt.slots] at X4 l4 y4 z4 st4 hQ4
  subst l4 y4 z4
  obtain ⟨rfl, Nq4, e4⟩ := hQ4
  have N4 := Fr.app N0 Nq4
  obtain ⟨_, _, ⟨T6, L6, k6, n6⟩, -, X6, ⟨Lc6, hQ6, l6, y6, z6⟩, st6⟩ := Jvm.LawKit.callS X4 hx (y := yN1) hown (mvT hZ (ow hw 8 rfl)) (mvT hZ (ow hw 9 rfl)) (mvT hZ (ow hw 3 rfl)) (mvT hZ (ow hw 10 rfl)) (by decide) (backOf (W := 0) (role1 l Z a0 hw [] pR5 h0 n0 Z0 S_ExternalRole_ORDERS) hZ (ow hw 10 rfl) (ow hw 3 rfl) (by decide) (by decide)) (g := (mkF m 19 #[.val (.int pI1), .val (.int pI2), .val (.int (2 : Int32)), .val (.int (1 : Int32)), .val (.ref pR3), .unset, .unset] [(.int (1 : Int32))])) rfl (by rw [hml]; rfl) (argsL := [(.int (1 : Int32))]) (rest := []) (lenOf pd_2 rfl) rfl (by show 2 * 0 + _ ≤ _; exact Nat.le_of_eq rfl) (hb hby at_19) (fun _ _ => ⟨rfl, e4, (by decide : 0 + 0 ≤ _), (by decide : 0 + 0 ≤ _)⟩)
  dsimp only [Pt.U, Pt.locs, Pt.cells, Pt.slots] at X6 l6 y6 z6 st6 hQ6
  subst l6 y6 z6
  obtain ⟨rfl, Nq6, e6⟩ := hQ6
  have N6 := Fr.app N4 Nq6
  obtain ⟨_, _, ⟨T7, L7, k7, n7⟩, -, X7, ⟨Lc7, hQ7, l7, y7, z7⟩, st7⟩ := Jvm.LawKit.callS X6 hx (y := yN2) hown (mvT hZ (ow hw 14 rfl)) (mvT hZ (ow hw 15 rfl)) (mvT hZ (ow hw 3 rfl)) (mvT hZ (ow hw 16 rfl)) (by decide) (backOf (W := 1) (lowest2 l Z a0 hw []  h0 n0 Z0 ) hZ (ow hw 16 rfl) (ow hw 3 rfl) (by decide) (by decide)) (g := (mkF m 26 #[.val (.int pI1), .val (.int pI2), .val (.int (2 : Int32)), .val (.int (1 : Int32)), .val (.ref pR3), .val (.ref pR5), .unset] [(.int (2 : Int32)), (.int (1 : Int32))])) rfl (by rw [hml]; rfl) (argsL := [(.int (2 : Int32))]) (rest := [(.int (1 : Int32))]) (lenOf pd_3 rfl) rfl (by show 2 * 0 + _ ≤ _; exact Nat.le_of_eq rfl) (hb hby at_26) (fun _ _ => ⟨rfl, e6, (by decide : 0 + 0 ≤ _), (by decide : 0 + 0 ≤ _)⟩)
  dsimp only [Pt.U, Pt.locs, Pt.cells, Pt.slots] at X7 l7 y7 z7 st7 hQ7
  subst l7 y7 z7
  obtain ⟨rfl, Nq7, e7⟩ := hQ7
  have N7 := Fr.app N6 Nq7
  obtain ⟨cq11, kq11, q11a, q11b, q11c⟩ := isOf hZ e7 E_pR3
  obtain ⟨_, _, ⟨T11, L11, k11, n11⟩, -, X11, ⟨Lc11, hQ11, l11, y11, z11⟩, st11⟩ := X7.virtualBack hx (y := yN6) (z := yN6) hown (mvT hZ (ow hw 17 rfl)) (mvT hZ (ow hw 18 rfl)) (notFace_of_selects (args := #[]) (mvT hZ (ow hw 20 rfl))) (mvT hZ (ow hw 20 rfl)) (mvT hZ (ow hw 19 rfl)) (by decide) (backOf (W := 0) (irbN l Z a0 hw [] pR3 pR5 pI8 pR9 pI10 h0 n0 Z0 F_ordinal_pR5 E_pR5 F_lowestRole_pR3 F_ordinal_pR9 E_pR9 hc43) hZ (ow hw 21 rfl) (ow hw 6 rfl) (by decide) (by decide)) q11a q11c (g := (mkF m 43 #[.val (.int pI1), .val (.int pI2), .val (.int (2 : Int32)), .val (.int (1 : Int32)), .val (.ref pR3), .val (.ref pR5), .val (.int (0 : Int32))] [(.ref pR5), (.ref pR3)])) rfl (by rw [hml]; rfl) (Steps.refl _) (argsL := [(.ref pR5)]) (rest := []) (lenOf pd_4 rfl) rfl (by show 2 * 0 + _ ≤ _; exact Nat.le_of_eq rfl) (hb hby at_43) (fun _ _ => ⟨rfl, e7, (by decide : 0 + 0 ≤ _), (by decide : 0 + 0 ≤ _)⟩)
  dsimp only [Pt.U, Pt.locs, Pt.cells, Pt.slots] at X11 l11 y11 z11 st11 hQ11
  subst l11 y11 z11
  obtain ⟨rfl, Nq11, e11⟩ := hQ11
  have N11 := Fr.app N7 Nq11
  obtain ⟨fs, hr, hrun, hended, hW, hsame⟩ := X11.leave (v := some (.int (1 : Int32))) (fun h => by rw [Bd.returns] at h; cases h)
  refine ⟨_, _, pre0 _ ?_, hrun, hended, _, _, rfl, ?_, ⟨_, rfl⟩, hW, hsame.mono (by decide) (by decide)⟩
  · show oS p e below s₁ m 0 #[.val (.int pI1), .val (.int pI2), .unset, .unset, .unset, .unset, .unset] [] _
    refine XS.iloadN X0.here hx rfl (hb hby at_0) rfl ?_
    show oS p e below s₁ m 1 #[.val (.int pI1), .val (.int pI2), .unset, .unset, .unset, .unset, .unset] [(.int pI1)] _
    refine XS.iconst X0.here hx rfl (hb hby at_1) ?_
    show oS p e below s₁ m 2 #[.val (.int pI1), .val (.int pI2), .unset, .unset, .unset, .unset, .unset] [(.int (3 : Int32)), (.int pI1)] _
    refine XS.iand X0.here hx rfl (hb hby at_2) rfl ?_
    show Steps p.tables e below (s₁.setTop (mkF m 3 #[.val (.int pI1), .val (.int pI2), .unset, .unset, .unset, .unset, .unset] [(.int (pI1 &&& (3 : Int32)))])) _
    rw [hc2]
    show oS p e below s₁ m 3 #[.val (.int pI1), .val (.int pI2), .unset, .unset, .unset, .unset, .unset] [(.int (2 : Int32))] _
    refine XS.istoreN X0.here hx rfl (hb hby at_3) rfl (l' := #[.val (.int pI1), .val (.int pI2), .val (.int (2 : Int32)), .unset, .unset, .unset, .unset]) rfl ?_
    show oS p e below s₁ m 4 #[.val (.int pI1), .val (.int pI2), .val (.int (2 : Int32)), .unset, .unset, .unset, .unset] [] _
    refine XS.iloadN X0.here hx rfl (hb hby at_4) rfl ?_
    show oS p e below s₁ m 5 #[.val (.int pI1), .val (.int pI2), .val (.int (2 : Int32)), .unset, .unset, .unset, .unset] [(.int pI2)] _
    refine X0.ldcInt hx hown (mvT hZ (ow hw 0 rfl)) (g := (mkF m 5 #[.val (.int pI1), .val (.int pI2), .val (.int (2 : Int32)), .unset, .unset, .unset, .unset] [(.int pI2)])) rfl (hb hby at_5) _ ?_
    show oS p e below s₁ m 7 #[.val (.int pI1), .val (.int pI2), .val (.int (2 : Int32)), .unset, .unset, .unset, .unset] [(.int (2147483647 : Int32)), (.int pI2)] _
    refine XS.iand X0.here hx rfl (hb hby at_7) rfl ?_
    show oS p e below s₁ m 8 #[.val (.int pI1), .val (.int pI2), .val (.int (2 : Int32)), .unset, .unset, .unset, .unset] [(.int (pI2 &&& (2147483647 : Int32)))] _
    refine XS.bipush X0.here hx rfl (hb hby at_8) ?_
    show oS p e below s₁ m 10 #[.val (.int pI1), .val (.int pI2), .val (.int (2 : Int32)), .unset, .unset, .unset, .unset] [(.int (6 : Int32)), (.int (pI2 &&& (2147483647 : Int32)))] _
    refine iremM (g := (mkF m 10 #[.val (.int pI1), .val (.int pI2), .val (.int (2 : Int32)), .unset, .unset, .unset, .unset] [(.int (6 : Int32)), (.int (pI2 &&& (2147483647 : Int32)))])) X0 hx rfl (hb hby at_10) rfl (by decide) ?_
    show Steps p.tables e below (s₁.setTop (mkF m 11 #[.val (.int pI1), .val (.int pI2), .val (.int (2 : Int32)), .unset, .unset, .unset, .unset] [(.int ((pI2 &&& (2147483647 : Int32)) % (6 : Int32)))])) _
    rw [hc10]
    show oS p e below s₁ m 11 #[.val (.int pI1), .val (.int pI2), .val (.int (2 : Int32)), .unset, .unset, .unset, .unset] [(.int (1 : Int32))] _
    refine XS.istoreN X0.here hx rfl (hb hby at_11) rfl (l' := #[.val (.int pI1), .val (.int pI2), .val (.int (2 : Int32)), .val (.int (1 : Int32)), .unset, .unset, .unset]) rfl ?_
    show oS p e below s₁ m 12 #[.val (.int pI1), .val (.int pI2), .val (.int (2 : Int32)), .val (.int (1 : Int32)), .unset, .unset, .unset] [] _
    refine XS.iloadN X0.here hx rfl (hb hby at_12) rfl ?_
    show oS p e below s₁ m 13 #[.val (.int pI1), .val (.int pI2), .val (.int (2 : Int32)), .val (.int (1 : Int32)), .unset, .unset, .unset] [(.int (2 : Int32))] _
    refine st4 _ ?_
    show oS p e below T4 m 16 #[.val (.int pI1), .val (.int pI2), .val (.int (2 : Int32)), .val (.int (1 : Int32)), .unset, .unset, .unset] [(.ref pR3)] _
    refine XS.astore X4.here hx rfl (hb hby at_16) rfl rfl (l' := #[.val (.int pI1), .val (.int pI2), .val (.int (2 : Int32)), .val (.int (1 : Int32)), .val (.ref pR3), .unset, .unset]) rfl ?_
    show oS p e below T4 m 18 #[.val (.int pI1), .val (.int pI2), .val (.int (2 : Int32)), .val (.int (1 : Int32)), .val (.ref pR3), .unset, .unset] [] _
    refine XS.iloadN X4.here hx rfl (hb hby at_18) rfl ?_
    show oS p e below T4 m 19 #[.val (.int pI1), .val (.int pI2), .val (.int (2 : Int32)), .val (.int (1 : Int32)), .val (.ref pR3), .unset, .unset] [(.int (1 : Int32))] _
    refine st6 _ ?_
    show oS p e below T6 m 22 #[.val (.int pI1), .val (.int pI2), .val (.int (2 : Int32)), .val (.int (1 : Int32)), .val (.ref pR3), .unset, .unset] [(.ref pR5)] _
    refine XS.astore X6.here hx rfl (hb hby at_22) rfl rfl (l' := #[.val (.int pI1), .val (.int pI2), .val (.int (2 : Int32)), .val (.int (1 : Int32)), .val (.ref pR3), .val (.ref pR5), .unset]) rfl ?_
    show oS p e below T6 m 24 #[.val (.int pI1), .val (.int pI2), .val (.int (2 : Int32)), .val (.int (1 : Int32)), .val (.ref pR3), .val (.ref pR5), .unset] [] _
    refine XS.iloadN X6.here hx rfl (hb hby at_24) rfl ?_
    show oS p e below T6 m 25 #[.val (.int pI1), .val (.int pI2), .val (.int (2 : Int32)), .val (.int (1 : Int32)), .val (.ref pR3), .val (.ref pR5), .unset] [(.int (1 : Int32))] _
    refine XS.iloadN X6.here hx rfl (hb hby at_25) rfl ?_
    show oS p e below T6 m 26 #[.val (.int pI1), .val (.int pI2), .val (.int (2 : Int32)), .val (.int (1 : Int32)), .val (.ref pR3), .val (.ref pR5), .unset] [(.int (2 : Int32)), (.int (1 : Int32))] _
    refine st7 _ ?_
    show oS p e below T7 m 29 #[.val (.int pI1), .val (.int pI2), .val (.int (2 : Int32)), .val (.int (1 : Int32)), .val (.ref pR3), .val (.ref pR5), .unset] [(.int (3 : Int32)), (.int (1 : Int32))] _
    refine XS.icmpYes X7.here hx rfl (pc0 := 29) (pc' := 36) rfl (hb hby at_29) rfl (tlt (by decide : (1 : Int32) < (3 : Int32))).1 (by decide) (by decide) ?_
    show oS p e below T7 m 36 #[.val (.int pI1), .val (.int pI2), .val (.int (2 : Int32)), .val (.int (1 : Int32)), .val (.ref pR3), .val (.ref pR5), .unset] [] _
    refine XS.iconst X7.here hx rfl (hb hby at_36) ?_
    show oS p e below T7 m 37 #[.val (.int pI1), .val (.int pI2), .val (.int (2 : Int32)), .val (.int (1 : Int32)), .val (.ref pR3), .val (.ref pR5), .unset] [(.int (0 : Int32))] _
    refine XS.istore X7.here hx rfl (hb hby at_37) rfl (l' := #[.val (.int pI1), .val (.int pI2), .val (.int (2 : Int32)), .val (.int (1 : Int32)), .val (.ref pR3), .val (.ref pR5), .val (.int (0 : Int32))]) rfl ?_
    show oS p e below T7 m 39 #[.val (.int pI1), .val (.int pI2), .val (.int (2 : Int32)), .val (.int (1 : Int32)), .val (.ref pR3), .val (.ref pR5), .val (.int (0 : Int32))] [] _
    refine XS.aload X7.here hx rfl (hb hby at_39) rfl rfl ?_
    show oS p e below T7 m 41 #[.val (.int pI1), .val (.int pI2), .val (.int (2 : Int32)), .val (.int (1 : Int32)), .val (.ref pR3), .val (.ref pR5), .val (.int (0 : Int32))] [(.ref pR3)] _
    refine XS.aload X7.here hx rfl (hb hby at_41) rfl rfl ?_
    show oS p e below T7 m 43 #[.val (.int pI1), .val (.int pI2), .val (.int (2 : Int32)), .val (.int (1 : Int32)), .val (.ref pR3), .val (.ref pR5), .val (.int (0 : Int32))] [(.ref pR5), (.ref pR3)] _
    refine st11.trans ?_
    show oS p e below T11 m 46 #[.val (.int pI1), .val (.int pI2), .val (.int (2 : Int32)), .val (.int (1 : Int32)), .val (.ref pR3), .val (.ref pR5), .val (.int (0 : Int32))] [(.int (0 : Int32))] _
    refine XS.iload X11.here hx rfl (hb hby at_46) rfl ?_
    show oS p e below T11 m 48 #[.val (.int pI1), .val (.int pI2), .val (.int (2 : Int32)), .val (.int (1 : Int32)), .val (.ref pR3), .val (.ref pR5), .val (.int (0 : Int32))] [(.int (0 : Int32)), (.int (0 : Int32))] _
    refine XS.icmpNo X11.here hx rfl (hb hby at_48) rfl (teq (by decide : (0 : Int32) = (0 : Int32))).2 ?_
    show oS p e below T11 m 51 #[.val (.int pI1), .val (.int pI2), .val (.int (2 : Int32)), .val (.int (1 : Int32)), .val (.ref pR3), .val (.ref pR5), .val (.int (0 : Int32))] [] _
    refine XS.iconst X11.here hx rfl (hb hby at_51) ?_
    show oS p e below T11 m 52 #[.val (.int pI1), .val (.int pI2), .val (.int (2 : Int32)), .val (.int (1 : Int32)), .val (.ref pR3), .val (.ref pR5), .val (.int (0 : Int32))] [(.int (1 : Int32))] _
    refine XS.goto X11.here hx rfl (pc0 := 52) (pc' := 56) rfl (hb hby at_52) (by decide) (by decide) ?_
    show oS p e below T11 m 56 #[.val (.int pI1), .val (.int pI2), .val (.int (2 : Int32)), .val (.int (1 : Int32)), .val (.ref pR3), .val (.ref pR5), .val (.int (0 : Int32))] [(.int (1 : Int32))] _
    exact retN X11 hx (t := .boolean) Bd.returns (by simp) (hb hby at_56) hr
  · show Qlaw2_1 Z pI1 pI2 pR3 pR5 pI8 pR9 pI10 h0 n0 _ T11.heap _
    rw [e11]
    exact ⟨rfl, N11⟩
theorem ef_law2_2 (m : MethodId) (pI1 : Int32) (pI2 : Int32) : entryFrame m #[(.int pI1), (.int pI2)] maxLocals = mkF m 0 #[.val (.int pI1), .val (.int pI2), .unset, .unset, .unset, .unset, .unset] [] := by first | (simp [entryFrame, mkF, argsToLocals, Value.category, maxLocals]; done) | rfl
def Qlaw2_2 (Z : State) (pI1 : Int32) (pI2 : Int32) (pR3 : Addr) (pR5 : Addr) (pI8 : Int32) (pR9 : Addr) (pI10 : Int32) (h0 : Heap) (n0 : Nat) (v : Option Value) (h : Heap) (L : List Loc) : Prop := v = some (.int (1 : Int32)) ∧ Fr n0 L
set_option maxRecDepth 65536 in
set_option maxHeartbeats 40000000 in
theorem law2_2 (l : Launch) (Z : State) (a0 : Array Value) (hw : ∀ d ∈ tables_1, d.before a0 Z = true) (ws : List Jvm.Cond) (pI1 : Int32) (pI2 : Int32) (pR3 : Addr) (pR5 : Addr) (pI8 : Int32) (pR9 : Addr) (pI10 : Int32) (h0 : Heap) (n0 : Nat) (Z0 : n0 ≤ h0.size) (S_DocumentView_INVOICES : Sta Z h0 "com/example/willenhall/willenhall/external/DocumentView" "INVOICES" "Lcom/example/willenhall/willenhall/external/DocumentView;" (.ref pR3)) (S_ExternalRole_ORDERS_WITH_PRICES : Sta Z h0 "com/example/willenhall/willenhall/external/ExternalRole" "ORDERS_WITH_PRICES" "Lcom/example/willenhall/willenhall/external/ExternalRole;" (.ref pR5)) (F_ordinal_pR5 : Fld Z h0 pR5 "java/lang/Enum" "ordinal" "I" (.int pI8)) (E_pR5 : Exa Z h0 pR5 "com/example/willenhall/willenhall/external/ExternalRole") (F_lowestRole_pR3 : Fld Z h0 pR3 "com/example/willenhall/willenhall/external/DocumentView" "lowestRole" "Lcom/example/willenhall/willenhall/external/ExternalRole;" (.ref pR9)) (F_ordinal_pR9 : Fld Z h0 pR9 "java/lang/Enum" "ordinal" "I" (.int pI10)) (E_pR9 : Exa Z h0 pR9 "com/example/willenhall/willenhall/external/ExternalRole") (E_pR3 : Exa Z h0 pR3 "com/example/willenhall/willenhall/external/DocumentView") (hc2 : (pI1 &&& (3 : Int32)) = (2 : Int32)) (hc10 : ((pI2 &&& (2147483647 : Int32)) % (6 : Int32)) = (2 : Int32)) (hc43 : pI8 < pI10) :
    MetFree l x (head1 (Jvm.Cond.code x code maxLocals ret :: ws) room_1) (fun a U => a = #[(.int pI1), (.int pI2)] ∧ Z.Warmed39 U.vm ∧ U.heap = h0) (fun _ _ _ _ _ => True) (fun _ U o U' => ∃ v L, o = .returned v ∧ Qlaw2_2 Z pI1 pI2 pR3 pR5 pI8 pR9 pI10 h0 n0 v U'.heap L ∧ FrameEnd U o U' L room_1.cells room_1.slots) := by
  refine MetFree.of_bodySF (plainFor_of_name pn_0) hisR ?_
  intro p e s m args below meth c s₁ Bd hml0 hP hK
  obtain ⟨rfl, hZ, hh⟩ := hP
  have hx := Bd.exec
  have hby := Bd.bytes
  have hml : c.maxLocals = 7 := hml0
  have hown : s.vm.findClass "com/example/willenhall/willenhall/external/DocumentViewIsReachedByPinLaw" = some m.cls := findClass_of_methodNamed Bd.named
  have hnm := (name_of_methodNamed Bd.named Bd.method).1
  have X0 : Stand p l e room_1 s m #[(.int pI1), (.int pI2)] below meth c s₁ [] 0 0 := Stand.of_body Bd
  have e0 : s₁.heap = h0 := by rw [← hh, Bd.state]; rfl
  have N0 := Fr.nil n0
  have pre0 : ∀ t, Steps p.tables e below (s₁.setTop (mkF m 0 #[.val (.int pI1), .val (.int pI2), .unset, .unset, .unset, .unset, .unset] [])) t → Steps p.tables e below (s₁.setTop (entryFrame m #[(.int pI1), (.int pI2)] maxLocals)) t := fun t k => castTop (ef_law2_2 m pI1 pI2) k
  obtain ⟨_, _, ⟨T4, L4, k4, n4⟩, -, X4, ⟨Lc4, hQ4, l4, y4, z4⟩, st4⟩ := Jvm.LawKit.callS X0 hx (y := yN0) hown (mvT hZ (ow hw 1 rfl)) (mvT hZ (ow hw 2 rfl)) (mvT hZ (ow hw 3 rfl)) (mvT hZ (ow hw 4 rfl)) (by decide) (backOf (W := 0) (view2 l Z a0 hw [] pR3 h0 n0 Z0 S_DocumentView_INVOICES) hZ (ow hw 4 rfl) (ow hw 3 rfl) (by decide) (by decide)) (g := (mkF m 13 #[.val (.int pI1), .val (.int pI2), .val (.int (2 : Int32)), .val (.int (2 : Int32)), .unset, .unset, .unset] [(.int (2 : Int32))])) rfl (by rw [hml]; rfl) (argsL := [(.int (2 : Int32))]) (rest := []) (lenOf pd_1 rfl) rfl (by show 2 * 0 + _ ≤ _; exact Nat.le_of_eq rfl) (hb hby at_13) (fun _ _ => ⟨rfl, e0, (by decide : 0 + 0 ≤ _), (by decide : 0 + 0 ≤ _)⟩)
  dsimp only [Pt.U, Pt.locs, Pt.cells, Pt.slots] at X4 l4 y4 z4 st4 hQ4
  subst l4 y4 z4
  obtain ⟨rfl, Nq4, e4⟩ := hQ4
  have N4 := Fr.app N0 Nq4
  obtain ⟨_, _, ⟨T6, L6, k6, n6⟩, -, X6, ⟨Lc6, hQ6, l6, y6, z6⟩, st6⟩ := Jvm.LawKit.callS X4 hx (y := yN1) hown (mvT hZ (ow hw 8 rfl)) (mvT hZ (ow hw 9 rfl)) (mvT hZ (ow hw 3 rfl)) (mvT hZ (ow hw 10 rfl)) (by decide) (backOf (W := 0) (role2 l Z a0 hw [] pR5 h0 n0 Z0 S_ExternalRole_ORDERS_WITH_PRICES) hZ (ow hw 10 rfl) (ow hw 3 rfl) (by decide) (by decide)) (g := (mkF m 19 #[.val (.int pI1), .val (.int pI2), .val (.int (2 : Int32)), .val (.int (2 : Int32)), .val (.ref pR3), .unset, .unset] [(.int (2 : Int32))])) rfl (by rw [hml]; rfl) (argsL := [(.int (2 : Int32))]) (rest := []) (lenOf pd_2 rfl) rfl (by show 2 * 0 + _ ≤ _; exact Nat.le_of_eq rfl) (hb hby at_19) (fun _ _ => ⟨rfl, e4, (by decide : 0 + 0 ≤ _), (by decide : 0 + 0 ≤ _)⟩)
  dsimp only [Pt.U, Pt.locs, Pt.cells, Pt.slots] at X6 l6 y6 z6 st6 hQ6
  subst l6 y6 z6
  obtain ⟨rfl, Nq6, e6⟩ := hQ6
  have N6 := Fr.app N4 Nq6
  obtain ⟨_, _, ⟨T7, L7, k7, n7⟩, -, X7, ⟨Lc7, hQ7, l7, y7, z7⟩, st7⟩ := Jvm.LawKit.callS X6 hx (y := yN2) hown (mvT hZ (ow hw 14 rfl)) (mvT hZ (ow hw 15 rfl)) (mvT hZ (ow hw 3 rfl)) (mvT hZ (ow hw 16 rfl)) (by decide) (backOf (W := 1) (lowest2 l Z a0 hw []  h0 n0 Z0 ) hZ (ow hw 16 rfl) (ow hw 3 rfl) (by decide) (by decide)) (g := (mkF m 26 #[.val (.int pI1), .val (.int pI2), .val (.int (2 : Int32)), .val (.int (2 : Int32)), .val (.ref pR3), .val (.ref pR5), .unset] [(.int (2 : Int32)), (.int (2 : Int32))])) rfl (by rw [hml]; rfl) (argsL := [(.int (2 : Int32))]) (rest := [(.int (2 : Int32))]) (lenOf pd_3 rfl) rfl (by show 2 * 0 + _ ≤ _; exact Nat.le_of_eq rfl) (hb hby at_26) (fun _ _ => ⟨rfl, e6, (by decide : 0 + 0 ≤ _), (by decide : 0 + 0 ≤ _)⟩)
  dsimp only [Pt.U, Pt.locs, Pt.cells, Pt.slots] at X7 l7 y7 z7 st7 hQ7
  subst l7 y7 z7
  obtain ⟨rfl, Nq7, e7⟩ := hQ7
  have N7 := Fr.app N6 Nq7
  obtain ⟨cq11, kq11, q11a, q11b, q11c⟩ := isOf hZ e7 E_pR3
  obtain ⟨_, _, ⟨T11, L11, k11, n11⟩, -, X11, ⟨Lc11, hQ11, l11, y11, z11⟩, st11⟩ := X7.virtualBack hx (y := yN6) (z := yN6) hown (mvT hZ (ow hw 17 rfl)) (mvT hZ (ow hw 18 rfl)) (notFace_of_selects (args := #[]) (mvT hZ (ow hw 20 rfl))) (mvT hZ (ow hw 20 rfl)) (mvT hZ (ow hw 19 rfl)) (by decide) (backOf (W := 0) (irbN l Z a0 hw [] pR3 pR5 pI8 pR9 pI10 h0 n0 Z0 F_ordinal_pR5 E_pR5 F_lowestRole_pR3 F_ordinal_pR9 E_pR9 hc43) hZ (ow hw 21 rfl) (ow hw 6 rfl) (by decide) (by decide)) q11a q11c (g := (mkF m 43 #[.val (.int pI1), .val (.int pI2), .val (.int (2 : Int32)), .val (.int (2 : Int32)), .val (.ref pR3), .val (.ref pR5), .val (.int (0 : Int32))] [(.ref pR5), (.ref pR3)])) rfl (by rw [hml]; rfl) (Steps.refl _) (argsL := [(.ref pR5)]) (rest := []) (lenOf pd_4 rfl) rfl (by show 2 * 0 + _ ≤ _; exact Nat.le_of_eq rfl) (hb hby at_43) (fun _ _ => ⟨rfl, e7, (by decide : 0 + 0 ≤ _), (by decide : 0 + 0 ≤ _)⟩)
  dsimp only [Pt.U, Pt.locs, Pt.cells, Pt.slots] at X11 l11 y11 z11 st11 hQ11
  subst l11 y11 z11
  obtain ⟨rfl, Nq11, e11⟩ := hQ11
  have N11 := Fr.app N7 Nq11
  obtain ⟨fs, hr, hrun, hended, hW, hsame⟩ := X11.leave (v := some (.int (1 : Int32))) (fun h => by rw [Bd.returns] at h; cases h)
  refine ⟨_, _, pre0 _ ?_, hrun, hended, _, _, rfl, ?_, ⟨_, rfl⟩, hW, hsame.mono (by decide) (by decide)⟩
  · show oS p e below s₁ m 0 #[.val (.int pI1), .val (.int pI2), .unset, .unset, .unset, .unset, .unset] [] _
    refine XS.iloadN X0.here hx rfl (hb hby at_0) rfl ?_
    show oS p e below s₁ m 1 #[.val (.int pI1), .val (.int pI2), .unset, .unset, .unset, .unset, .unset] [(.int pI1)] _
    refine XS.iconst X0.here hx rfl (hb hby at_1) ?_
    show oS p e below s₁ m 2 #[.val (.int pI1), .val (.int pI2), .unset, .unset, .unset, .unset, .unset] [(.int (3 : Int32)), (.int pI1)] _
    refine XS.iand X0.here hx rfl (hb hby at_2) rfl ?_
    show Steps p.tables e below (s₁.setTop (mkF m 3 #[.val (.int pI1), .val (.int pI2), .unset, .unset, .unset, .unset, .unset] [(.int (pI1 &&& (3 : Int32)))])) _
    rw [hc2]
    show oS p e below s₁ m 3 #[.val (.int pI1), .val (.int pI2), .unset, .unset, .unset, .unset, .unset] [(.int (2 : Int32))] _
    refine XS.istoreN X0.here hx rfl (hb hby at_3) rfl (l' := #[.val (.int pI1), .val (.int pI2), .val (.int (2 : Int32)), .unset, .unset, .unset, .unset]) rfl ?_
    show oS p e below s₁ m 4 #[.val (.int pI1), .val (.int pI2), .val (.int (2 : Int32)), .unset, .unset, .unset, .unset] [] _
    refine XS.iloadN X0.here hx rfl (hb hby at_4) rfl ?_
    show oS p e below s₁ m 5 #[.val (.int pI1), .val (.int pI2), .val (.int (2 : Int32)), .unset, .unset, .unset, .unset] [(.int pI2)] _
    refine X0.ldcInt hx hown (mvT hZ (ow hw 0 rfl)) (g := (mkF m 5 #[.val (.int pI1), .val (.int pI2), .val (.int (2 : Int32)), .unset, .unset, .unset, .unset] [(.int pI2)])) rfl (hb hby at_5) _ ?_
    show oS p e below s₁ m 7 #[.val (.int pI1), .val (.int pI2), .val (.int (2 : Int32)), .unset, .unset, .unset, .unset] [(.int (2147483647 : Int32)), (.int pI2)] _
    refine XS.iand X0.here hx rfl (hb hby at_7) rfl ?_
    show oS p e below s₁ m 8 #[.val (.int pI1), .val (.int pI2), .val (.int (2 : Int32)), .unset, .unset, .unset, .unset] [(.int (pI2 &&& (2147483647 : Int32)))] _
    refine XS.bipush X0.here hx rfl (hb hby at_8) ?_
    show oS p e below s₁ m 10 #[.val (.int pI1), .val (.int pI2), .val (.int (2 : Int32)), .unset, .unset, .unset, .unset] [(.int (6 : Int32)), (.int (pI2 &&& (2147483647 : Int32)))] _
    refine iremM (g := (mkF m 10 #[.val (.int pI1), .val (.int pI2), .val (.int (2 : Int32)), .unset, .unset, .unset, .unset] [(.int (6 : Int32)), (.int (pI2 &&& (2147483647 : Int32)))])) X0 hx rfl (hb hby at_10) rfl (by decide) ?_
    show Steps p.tables e below (s₁.setTop (mkF m 11 #[.val (.int pI1), .val (.int pI2), .val (.int (2 : Int32)), .unset, .unset, .unset, .unset] [(.int ((pI2 &&& (2147483647 : Int32)) % (6 : Int32)))])) _
    rw [hc10]
    show oS p e below s₁ m 11 #[.val (.int pI1), .val (.int pI2), .val (.int (2 : Int32)), .unset, .unset, .unset, .unset] [(.int (2 : Int32))] _
    refine XS.istoreN X0.here hx rfl (hb hby at_11) rfl (l' := #[.val (.int pI1), .val (.int pI2), .val (.int (2 : Int32)), .val (.int (2 : Int32)), .unset, .unset, .unset]) rfl ?_
    show oS p e below s₁ m 12 #[.val (.int pI1), .val (.int pI2), .val (.int (2 : Int32)), .val (.int (2 : Int32)), .unset, .unset, .unset] [] _
    refine XS.iloadN X0.here hx rfl (hb hby at_12) rfl ?_
    show oS p e below s₁ m 13 #[.val (.int pI1), .val (.int pI2), .val (.int (2 : Int32)), .val (.int (2 : Int32)), .unset, .unset, .unset] [(.int (2 : Int32))] _
    refine st4 _ ?_
    show oS p e below T4 m 16 #[.val (.int pI1), .val (.int pI2), .val (.int (2 : Int32)), .val (.int (2 : Int32)), .unset, .unset, .unset] [(.ref pR3)] _
    refine XS.astore X4.here hx rfl (hb hby at_16) rfl rfl (l' := #[.val (.int pI1), .val (.int pI2), .val (.int (2 : Int32)), .val (.int (2 : Int32)), .val (.ref pR3), .unset, .unset]) rfl ?_
    show oS p e below T4 m 18 #[.val (.int pI1), .val (.int pI2), .val (.int (2 : Int32)), .val (.int (2 : Int32)), .val (.ref pR3), .unset, .unset] [] _
    refine XS.iloadN X4.here hx rfl (hb hby at_18) rfl ?_
    show oS p e below T4 m 19 #[.val (.int pI1), .val (.int pI2), .val (.int (2 : Int32)), .val (.int (2 : Int32)), .val (.ref pR3), .unset, .unset] [(.int (2 : Int32))] _
    refine st6 _ ?_
    show oS p e below T6 m 22 #[.val (.int pI1), .val (.int pI2), .val (.int (2 : Int32)), .val (.int (2 : Int32)), .val (.ref pR3), .unset, .unset] [(.ref pR5)] _
    refine XS.astore X6.here hx rfl (hb hby at_22) rfl rfl (l' := #[.val (.int pI1), .val (.int pI2), .val (.int (2 : Int32)), .val (.int (2 : Int32)), .val (.ref pR3), .val (.ref pR5), .unset]) rfl ?_
    show oS p e below T6 m 24 #[.val (.int pI1), .val (.int pI2), .val (.int (2 : Int32)), .val (.int (2 : Int32)), .val (.ref pR3), .val (.ref pR5), .unset] [] _
    refine XS.iloadN X6.here hx rfl (hb hby at_24) rfl ?_
    show oS p e below T6 m 25 #[.val (.int pI1), .val (.int pI2), .val (.int (2 : Int32)), .val (.int (2 : Int32)), .val (.ref pR3), .val (.ref pR5), .unset] [(.int (2 : Int32))] _
    refine XS.iloadN X6.here hx rfl (hb hby at_25) rfl ?_
    show oS p e below T6 m 26 #[.val (.int pI1), .val (.int pI2), .val (.int (2 : Int32)), .val (.int (2 : Int32)), .val (.ref pR3), .val (.ref pR5), .unset] [(.int (2 : Int32)), (.int (2 : Int32))] _
    refine st7 _ ?_
    show oS p e below T7 m 29 #[.val (.int pI1), .val (.int pI2), .val (.int (2 : Int32)), .val (.int (2 : Int32)), .val (.ref pR3), .val (.ref pR5), .unset] [(.int (3 : Int32)), (.int (2 : Int32))] _
    refine XS.icmpYes X7.here hx rfl (pc0 := 29) (pc' := 36) rfl (hb hby at_29) rfl (tlt (by decide : (2 : Int32) < (3 : Int32))).1 (by decide) (by decide) ?_
    show oS p e below T7 m 36 #[.val (.int pI1), .val (.int pI2), .val (.int (2 : Int32)), .val (.int (2 : Int32)), .val (.ref pR3), .val (.ref pR5), .unset] [] _
    refine XS.iconst X7.here hx rfl (hb hby at_36) ?_
    show oS p e below T7 m 37 #[.val (.int pI1), .val (.int pI2), .val (.int (2 : Int32)), .val (.int (2 : Int32)), .val (.ref pR3), .val (.ref pR5), .unset] [(.int (0 : Int32))] _
    refine XS.istore X7.here hx rfl (hb hby at_37) rfl (l' := #[.val (.int pI1), .val (.int pI2), .val (.int (2 : Int32)), .val (.int (2 : Int32)), .val (.ref pR3), .val (.ref pR5), .val (.int (0 : Int32))]) rfl ?_
    show oS p e below T7 m 39 #[.val (.int pI1), .val (.int pI2), .val (.int (2 : Int32)), .val (.int (2 : Int32)), .val (.ref pR3), .val (.ref pR5), .val (.int (0 : Int32))] [] _
    refine XS.aload X7.here hx rfl (hb hby at_39) rfl rfl ?_
    show oS p e below T7 m 41 #[.val (.int pI1), .val (.int pI2), .val (.int (2 : Int32)), .val (.int (2 : Int32)), .val (.ref pR3), .val (.ref pR5), .val (.int (0 : Int32))] [(.ref pR3)] _
    refine XS.aload X7.here hx rfl (hb hby at_41) rfl rfl ?_
    show oS p e below T7 m 43 #[.val (.int pI1), .val (.int pI2), .val (.int (2 : Int32)), .val (.int (2 : Int32)), .val (.ref pR3), .val (.ref pR5), .val (.int (0 : Int32))] [(.ref pR5), (.ref pR3)] _
    refine st11.trans ?_
    show oS p e below T11 m 46 #[.val (.int pI1), .val (.int pI2), .val (.int (2 : Int32)), .val (.int (2 : Int32)), .val (.ref pR3), .val (.ref pR5), .val (.int (0 : Int32))] [(.int (0 : Int32))] _
    refine XS.iload X11.here hx rfl (hb hby at_46) rfl ?_
    show oS p e below T11 m 48 #[.val (.int pI1), .val (.int pI2), .val (.int (2 : Int32)), .val (.int (2 : Int32)), .val (.ref pR3), .val (.ref pR5), .val (.int (0 : Int32))] [(.int (0 : Int32)), (.int (0 : Int32))] _
    refine XS.icmpNo X11.here hx rfl (hb hby at_48) rfl (teq (by decide : (0 : Int32) = (0 : Int32))).2 ?_
    show oS p e below T11 m 51 #[.val (.int pI1), .val (.int pI2), .val (.int (2 : Int32)), .val (.int (2 : Int32)), .val (.ref pR3), .val (.ref pR5), .val (.int (0 : Int32))] [] _
    refine XS.iconst X11.here hx rfl (hb hby at_51) ?_
    show oS p e below T11 m 52 #[.val (.int pI1), .val (.int pI2), .val (.int (2 : Int32)), .val (.int (2 : Int32)), .val (.ref pR3), .val (.ref pR5), .val (.int (0 : Int32))] [(.int (1 : Int32))] _
    refine XS.goto X11.here hx rfl (pc0 := 52) (pc' := 56) rfl (hb hby at_52) (by decide) (by decide) ?_
    show oS p e below T11 m 56 #[.val (.int pI1), .val (.int pI2), .val (.int (2 : Int32)), .val (.int (2 : Int32)), .val (.ref pR3), .val (.ref pR5), .val (.int (0 : Int32))] [(.int (1 : Int32))] _
    exact retN X11 hx (t := .boolean) Bd.returns (by simp) (hb hby at_56) hr
  · show Qlaw2_2 Z pI1 pI2 pR3 pR5 pI8 pR9 pI10 h0 n0 _ T11.heap _
    rw [e11]
    exact ⟨rfl, N11⟩
theorem ef_law2_3 (m : MethodId) (pI1 : Int32) (pI2 : Int32) : entryFrame m #[(.int pI1), (.int pI2)] maxLocals = mkF m 0 #[.val (.int pI1), .val (.int pI2), .unset, .unset, .unset, .unset, .unset] [] := by first | (simp [entryFrame, mkF, argsToLocals, Value.category, maxLocals]; done) | rfl
def Qlaw2_3 (Z : State) (pI1 : Int32) (pI2 : Int32) (pR3 : Addr) (pR5 : Addr) (pI8 : Int32) (pR9 : Addr) (pI10 : Int32) (h0 : Heap) (n0 : Nat) (v : Option Value) (h : Heap) (L : List Loc) : Prop := v = some (.int (1 : Int32)) ∧ Fr n0 L
set_option maxRecDepth 65536 in
set_option maxHeartbeats 40000000 in
theorem law2_3 (l : Launch) (Z : State) (a0 : Array Value) (hw : ∀ d ∈ tables_1, d.before a0 Z = true) (ws : List Jvm.Cond) (pI1 : Int32) (pI2 : Int32) (pR3 : Addr) (pR5 : Addr) (pI8 : Int32) (pR9 : Addr) (pI10 : Int32) (h0 : Heap) (n0 : Nat) (Z0 : n0 ≤ h0.size) (S_DocumentView_INVOICES : Sta Z h0 "com/example/willenhall/willenhall/external/DocumentView" "INVOICES" "Lcom/example/willenhall/willenhall/external/DocumentView;" (.ref pR3)) (S_ExternalRole_BILLING : Sta Z h0 "com/example/willenhall/willenhall/external/ExternalRole" "BILLING" "Lcom/example/willenhall/willenhall/external/ExternalRole;" (.ref pR5)) (F_ordinal_pR5 : Fld Z h0 pR5 "java/lang/Enum" "ordinal" "I" (.int pI8)) (E_pR5 : Exa Z h0 pR5 "com/example/willenhall/willenhall/external/ExternalRole") (F_lowestRole_pR3 : Fld Z h0 pR3 "com/example/willenhall/willenhall/external/DocumentView" "lowestRole" "Lcom/example/willenhall/willenhall/external/ExternalRole;" (.ref pR9)) (F_ordinal_pR9 : Fld Z h0 pR9 "java/lang/Enum" "ordinal" "I" (.int pI10)) (E_pR9 : Exa Z h0 pR9 "com/example/willenhall/willenhall/external/ExternalRole") (E_pR3 : Exa Z h0 pR3 "com/example/willenhall/willenhall/external/DocumentView") (hc2 : (pI1 &&& (3 : Int32)) = (2 : Int32)) (hc10 : ((pI2 &&& (2147483647 : Int32)) % (6 : Int32)) = (3 : Int32)) (hc43 : ¬ (pI8 < pI10)) :
    MetFree l x (head1 (Jvm.Cond.code x code maxLocals ret :: ws) room_1) (fun a U => a = #[(.int pI1), (.int pI2)] ∧ Z.Warmed39 U.vm ∧ U.heap = h0) (fun _ _ _ _ _ => True) (fun _ U o U' => ∃ v L, o = .returned v ∧ Qlaw2_3 Z pI1 pI2 pR3 pR5 pI8 pR9 pI10 h0 n0 v U'.heap L ∧ FrameEnd U o U' L room_1.cells room_1.slots) := by
  refine MetFree.of_bodySF (plainFor_of_name pn_0) hisR ?_
  intro p e s m args below meth c s₁ Bd hml0 hP hK
  obtain ⟨rfl, hZ, hh⟩ := hP
  have hx := Bd.exec
  have hby := Bd.bytes
  have hml : c.maxLocals = 7 := hml0
  have hown : s.vm.findClass "com/example/willenhall/willenhall/external/DocumentViewIsReachedByPinLaw" = some m.cls := findClass_of_methodNamed Bd.named
  have hnm := (name_of_methodNamed Bd.named Bd.method).1
  have X0 : Stand p l e room_1 s m #[(.int pI1), (.int pI2)] below meth c s₁ [] 0 0 := Stand.of_body Bd
  have e0 : s₁.heap = h0 := by rw [← hh, Bd.state]; rfl
  have N0 := Fr.nil n0
  have pre0 : ∀ t, Steps p.tables e below (s₁.setTop (mkF m 0 #[.val (.int pI1), .val (.int pI2), .unset, .unset, .unset, .unset, .unset] [])) t → Steps p.tables e below (s₁.setTop (entryFrame m #[(.int pI1), (.int pI2)] maxLocals)) t := fun t k => castTop (ef_law2_3 m pI1 pI2) k
  obtain ⟨_, _, ⟨T4, L4, k4, n4⟩, -, X4, ⟨Lc4, hQ4, l4, y4, z4⟩, st4⟩ := Jvm.LawKit.callS X0 hx (y := yN0) hown (mvT hZ (ow hw 1 rfl)) (mvT hZ (ow hw 2 rfl)) (mvT hZ (ow hw 3 rfl)) (mvT hZ (ow hw 4 rfl)) (by decide) (backOf (W := 0) (view2 l Z a0 hw [] pR3 h0 n0 Z0 S_DocumentView_INVOICES) hZ (ow hw 4 rfl) (ow hw 3 rfl) (by decide) (by decide)) (g := (mkF m 13 #[.val (.int pI1), .val (.int pI2), .val (.int (2 : Int32)), .val (.int (3 : Int32)), .unset, .unset, .unset] [(.int (2 : Int32))])) rfl (by rw [hml]; rfl) (argsL := [(.int (2 : Int32))]) (rest := []) (lenOf pd_1 rfl) rfl (by show 2 * 0 + _ ≤ _; exact Nat.le_of_eq rfl) (hb hby at_13) (fun _ _ => ⟨rfl, e0, (by decide : 0 + 0 ≤ _), (by decide : 0 + 0 ≤ _)⟩)
  dsimp only [Pt.U, Pt.locs, Pt.cells, Pt.slots] at X4 l4 y4 z4 st4 hQ4
  subst l4 y4 z4
  obtain ⟨rfl, Nq4, e4⟩ := hQ4
  have N4 := Fr.app N0 Nq4
  obtain ⟨_, _, ⟨T6, L6, k6, n6⟩, -, X6, ⟨Lc6, hQ6, l6, y6, z6⟩, st6⟩ := Jvm.LawKit.callS X4 hx (y := yN1) hown (mvT hZ (ow hw 8 rfl)) (mvT hZ (ow hw 9 rfl)) (mvT hZ (ow hw 3 rfl)) (mvT hZ (ow hw 10 rfl)) (by decide) (backOf (W := 0) (role3 l Z a0 hw [] pR5 h0 n0 Z0 S_ExternalRole_BILLING) hZ (ow hw 10 rfl) (ow hw 3 rfl) (by decide) (by decide)) (g := (mkF m 19 #[.val (.int pI1), .val (.int pI2), .val (.int (2 : Int32)), .val (.int (3 : Int32)), .val (.ref pR3), .unset, .unset] [(.int (3 : Int32))])) rfl (by rw [hml]; rfl) (argsL := [(.int (3 : Int32))]) (rest := []) (lenOf pd_2 rfl) rfl (by show 2 * 0 + _ ≤ _; exact Nat.le_of_eq rfl) (hb hby at_19) (fun _ _ => ⟨rfl, e4, (by decide : 0 + 0 ≤ _), (by decide : 0 + 0 ≤ _)⟩)
  dsimp only [Pt.U, Pt.locs, Pt.cells, Pt.slots] at X6 l6 y6 z6 st6 hQ6
  subst l6 y6 z6
  obtain ⟨rfl, Nq6, e6⟩ := hQ6
  have N6 := Fr.app N4 Nq6
  obtain ⟨_, _, ⟨T7, L7, k7, n7⟩, -, X7, ⟨Lc7, hQ7, l7, y7, z7⟩, st7⟩ := Jvm.LawKit.callS X6 hx (y := yN2) hown (mvT hZ (ow hw 14 rfl)) (mvT hZ (ow hw 15 rfl)) (mvT hZ (ow hw 3 rfl)) (mvT hZ (ow hw 16 rfl)) (by decide) (backOf (W := 1) (lowest2 l Z a0 hw []  h0 n0 Z0 ) hZ (ow hw 16 rfl) (ow hw 3 rfl) (by decide) (by decide)) (g := (mkF m 26 #[.val (.int pI1), .val (.int pI2), .val (.int (2 : Int32)), .val (.int (3 : Int32)), .val (.ref pR3), .val (.ref pR5), .unset] [(.int (2 : Int32)), (.int (3 : Int32))])) rfl (by rw [hml]; rfl) (argsL := [(.int (2 : Int32))]) (rest := [(.int (3 : Int32))]) (lenOf pd_3 rfl) rfl (by show 2 * 0 + _ ≤ _; exact Nat.le_of_eq rfl) (hb hby at_26) (fun _ _ => ⟨rfl, e6, (by decide : 0 + 0 ≤ _), (by decide : 0 + 0 ≤ _)⟩)
  dsimp only [Pt.U, Pt.locs, Pt.cells, Pt.slots] at X7 l7 y7 z7 st7 hQ7
  subst l7 y7 z7
  obtain ⟨rfl, Nq7, e7⟩ := hQ7
  have N7 := Fr.app N6 Nq7
  obtain ⟨cq11, kq11, q11a, q11b, q11c⟩ := isOf hZ e7 E_pR3
  obtain ⟨_, _, ⟨T11, L11, k11, n11⟩, -, X11, ⟨Lc11, hQ11, l11, y11, z11⟩, st11⟩ := X7.virtualBack hx (y := yN6) (z := yN6) hown (mvT hZ (ow hw 17 rfl)) (mvT hZ (ow hw 18 rfl)) (notFace_of_selects (args := #[]) (mvT hZ (ow hw 20 rfl))) (mvT hZ (ow hw 20 rfl)) (mvT hZ (ow hw 19 rfl)) (by decide) (backOf (W := 0) (irbY l Z a0 hw [] pR3 pR5 pI8 pR9 pI10 h0 n0 Z0 F_ordinal_pR5 E_pR5 F_lowestRole_pR3 F_ordinal_pR9 E_pR9 hc43) hZ (ow hw 21 rfl) (ow hw 6 rfl) (by decide) (by decide)) q11a q11c (g := (mkF m 43 #[.val (.int pI1), .val (.int pI2), .val (.int (2 : Int32)), .val (.int (3 : Int32)), .val (.ref pR3), .val (.ref pR5), .val (.int (1 : Int32))] [(.ref pR5), (.ref pR3)])) rfl (by rw [hml]; rfl) (Steps.refl _) (argsL := [(.ref pR5)]) (rest := []) (lenOf pd_4 rfl) rfl (by show 2 * 0 + _ ≤ _; exact Nat.le_of_eq rfl) (hb hby at_43) (fun _ _ => ⟨rfl, e7, (by decide : 0 + 0 ≤ _), (by decide : 0 + 0 ≤ _)⟩)
  dsimp only [Pt.U, Pt.locs, Pt.cells, Pt.slots] at X11 l11 y11 z11 st11 hQ11
  subst l11 y11 z11
  obtain ⟨rfl, Nq11, e11⟩ := hQ11
  have N11 := Fr.app N7 Nq11
  obtain ⟨fs, hr, hrun, hended, hW, hsame⟩ := X11.leave (v := some (.int (1 : Int32))) (fun h => by rw [Bd.returns] at h; cases h)
  refine ⟨_, _, pre0 _ ?_, hrun, hended, _, _, rfl, ?_, ⟨_, rfl⟩, hW, hsame.mono (by decide) (by decide)⟩
  · show oS p e below s₁ m 0 #[.val (.int pI1), .val (.int pI2), .unset, .unset, .unset, .unset, .unset] [] _
    refine XS.iloadN X0.here hx rfl (hb hby at_0) rfl ?_
    show oS p e below s₁ m 1 #[.val (.int pI1), .val (.int pI2), .unset, .unset, .unset, .unset, .unset] [(.int pI1)] _
    refine XS.iconst X0.here hx rfl (hb hby at_1) ?_
    show oS p e below s₁ m 2 #[.val (.int pI1), .val (.int pI2), .unset, .unset, .unset, .unset, .unset] [(.int (3 : Int32)), (.int pI1)] _
    refine XS.iand X0.here hx rfl (hb hby at_2) rfl ?_
    show Steps p.tables e below (s₁.setTop (mkF m 3 #[.val (.int pI1), .val (.int pI2), .unset, .unset, .unset, .unset, .unset] [(.int (pI1 &&& (3 : Int32)))])) _
    rw [hc2]
    show oS p e below s₁ m 3 #[.val (.int pI1), .val (.int pI2), .unset, .unset, .unset, .unset, .unset] [(.int (2 : Int32))] _
    refine XS.istoreN X0.here hx rfl (hb hby at_3) rfl (l' := #[.val (.int pI1), .val (.int pI2), .val (.int (2 : Int32)), .unset, .unset, .unset, .unset]) rfl ?_
    show oS p e below s₁ m 4 #[.val (.int pI1), .val (.int pI2), .val (.int (2 : Int32)), .unset, .unset, .unset, .unset] [] _
    refine XS.iloadN X0.here hx rfl (hb hby at_4) rfl ?_
    show oS p e below s₁ m 5 #[.val (.int pI1), .val (.int pI2), .val (.int (2 : Int32)), .unset, .unset, .unset, .unset] [(.int pI2)] _
    refine X0.ldcInt hx hown (mvT hZ (ow hw 0 rfl)) (g := (mkF m 5 #[.val (.int pI1), .val (.int pI2), .val (.int (2 : Int32)), .unset, .unset, .unset, .unset] [(.int pI2)])) rfl (hb hby at_5) _ ?_
    show oS p e below s₁ m 7 #[.val (.int pI1), .val (.int pI2), .val (.int (2 : Int32)), .unset, .unset, .unset, .unset] [(.int (2147483647 : Int32)), (.int pI2)] _
    refine XS.iand X0.here hx rfl (hb hby at_7) rfl ?_
    show oS p e below s₁ m 8 #[.val (.int pI1), .val (.int pI2), .val (.int (2 : Int32)), .unset, .unset, .unset, .unset] [(.int (pI2 &&& (2147483647 : Int32)))] _
    refine XS.bipush X0.here hx rfl (hb hby at_8) ?_
    show oS p e below s₁ m 10 #[.val (.int pI1), .val (.int pI2), .val (.int (2 : Int32)), .unset, .unset, .unset, .unset] [(.int (6 : Int32)), (.int (pI2 &&& (2147483647 : Int32)))] _
    refine iremM (g := (mkF m 10 #[.val (.int pI1), .val (.int pI2), .val (.int (2 : Int32)), .unset, .unset, .unset, .unset] [(.int (6 : Int32)), (.int (pI2 &&& (2147483647 : Int32)))])) X0 hx rfl (hb hby at_10) rfl (by decide) ?_
    show Steps p.tables e below (s₁.setTop (mkF m 11 #[.val (.int pI1), .val (.int pI2), .val (.int (2 : Int32)), .unset, .unset, .unset, .unset] [(.int ((pI2 &&& (2147483647 : Int32)) % (6 : Int32)))])) _
    rw [hc10]
    show oS p e below s₁ m 11 #[.val (.int pI1), .val (.int pI2), .val (.int (2 : Int32)), .unset, .unset, .unset, .unset] [(.int (3 : Int32))] _
    refine XS.istoreN X0.here hx rfl (hb hby at_11) rfl (l' := #[.val (.int pI1), .val (.int pI2), .val (.int (2 : Int32)), .val (.int (3 : Int32)), .unset, .unset, .unset]) rfl ?_
    show oS p e below s₁ m 12 #[.val (.int pI1), .val (.int pI2), .val (.int (2 : Int32)), .val (.int (3 : Int32)), .unset, .unset, .unset] [] _
    refine XS.iloadN X0.here hx rfl (hb hby at_12) rfl ?_
    show oS p e below s₁ m 13 #[.val (.int pI1), .val (.int pI2), .val (.int (2 : Int32)), .val (.int (3 : Int32)), .unset, .unset, .unset] [(.int (2 : Int32))] _
    refine st4 _ ?_
    show oS p e below T4 m 16 #[.val (.int pI1), .val (.int pI2), .val (.int (2 : Int32)), .val (.int (3 : Int32)), .unset, .unset, .unset] [(.ref pR3)] _
    refine XS.astore X4.here hx rfl (hb hby at_16) rfl rfl (l' := #[.val (.int pI1), .val (.int pI2), .val (.int (2 : Int32)), .val (.int (3 : Int32)), .val (.ref pR3), .unset, .unset]) rfl ?_
    show oS p e below T4 m 18 #[.val (.int pI1), .val (.int pI2), .val (.int (2 : Int32)), .val (.int (3 : Int32)), .val (.ref pR3), .unset, .unset] [] _
    refine XS.iloadN X4.here hx rfl (hb hby at_18) rfl ?_
    show oS p e below T4 m 19 #[.val (.int pI1), .val (.int pI2), .val (.int (2 : Int32)), .val (.int (3 : Int32)), .val (.ref pR3), .unset, .unset] [(.int (3 : Int32))] _
    refine st6 _ ?_
    show oS p e below T6 m 22 #[.val (.int pI1), .val (.int pI2), .val (.int (2 : Int32)), .val (.int (3 : Int32)), .val (.ref pR3), .unset, .unset] [(.ref pR5)] _
    refine XS.astore X6.here hx rfl (hb hby at_22) rfl rfl (l' := #[.val (.int pI1), .val (.int pI2), .val (.int (2 : Int32)), .val (.int (3 : Int32)), .val (.ref pR3), .val (.ref pR5), .unset]) rfl ?_
    show oS p e below T6 m 24 #[.val (.int pI1), .val (.int pI2), .val (.int (2 : Int32)), .val (.int (3 : Int32)), .val (.ref pR3), .val (.ref pR5), .unset] [] _
    refine XS.iloadN X6.here hx rfl (hb hby at_24) rfl ?_
    show oS p e below T6 m 25 #[.val (.int pI1), .val (.int pI2), .val (.int (2 : Int32)), .val (.int (3 : Int32)), .val (.ref pR3), .val (.ref pR5), .unset] [(.int (3 : Int32))] _
    refine XS.iloadN X6.here hx rfl (hb hby at_25) rfl ?_
    show oS p e below T6 m 26 #[.val (.int pI1), .val (.int pI2), .val (.int (2 : Int32)), .val (.int (3 : Int32)), .val (.ref pR3), .val (.ref pR5), .unset] [(.int (2 : Int32)), (.int (3 : Int32))] _
    refine st7 _ ?_
    show oS p e below T7 m 29 #[.val (.int pI1), .val (.int pI2), .val (.int (2 : Int32)), .val (.int (3 : Int32)), .val (.ref pR3), .val (.ref pR5), .unset] [(.int (3 : Int32)), (.int (3 : Int32))] _
    refine XS.icmpNo X7.here hx rfl (hb hby at_29) rfl (flt (by decide : ¬ ((3 : Int32) < (3 : Int32)))).1 ?_
    show oS p e below T7 m 32 #[.val (.int pI1), .val (.int pI2), .val (.int (2 : Int32)), .val (.int (3 : Int32)), .val (.ref pR3), .val (.ref pR5), .unset] [] _
    refine XS.iconst X7.here hx rfl (hb hby at_32) ?_
    show oS p e below T7 m 33 #[.val (.int pI1), .val (.int pI2), .val (.int (2 : Int32)), .val (.int (3 : Int32)), .val (.ref pR3), .val (.ref pR5), .unset] [(.int (1 : Int32))] _
    refine XS.goto X7.here hx rfl (pc0 := 33) (pc' := 37) rfl (hb hby at_33) (by decide) (by decide) ?_
    show oS p e below T7 m 37 #[.val (.int pI1), .val (.int pI2), .val (.int (2 : Int32)), .val (.int (3 : Int32)), .val (.ref pR3), .val (.ref pR5), .unset] [(.int (1 : Int32))] _
    refine XS.istore X7.here hx rfl (hb hby at_37) rfl (l' := #[.val (.int pI1), .val (.int pI2), .val (.int (2 : Int32)), .val (.int (3 : Int32)), .val (.ref pR3), .val (.ref pR5), .val (.int (1 : Int32))]) rfl ?_
    show oS p e below T7 m 39 #[.val (.int pI1), .val (.int pI2), .val (.int (2 : Int32)), .val (.int (3 : Int32)), .val (.ref pR3), .val (.ref pR5), .val (.int (1 : Int32))] [] _
    refine XS.aload X7.here hx rfl (hb hby at_39) rfl rfl ?_
    show oS p e below T7 m 41 #[.val (.int pI1), .val (.int pI2), .val (.int (2 : Int32)), .val (.int (3 : Int32)), .val (.ref pR3), .val (.ref pR5), .val (.int (1 : Int32))] [(.ref pR3)] _
    refine XS.aload X7.here hx rfl (hb hby at_41) rfl rfl ?_
    show oS p e below T7 m 43 #[.val (.int pI1), .val (.int pI2), .val (.int (2 : Int32)), .val (.int (3 : Int32)), .val (.ref pR3), .val (.ref pR5), .val (.int (1 : Int32))] [(.ref pR5), (.ref pR3)] _
    refine st11.trans ?_
    show oS p e below T11 m 46 #[.val (.int pI1), .val (.int pI2), .val (.int (2 : Int32)), .val (.int (3 : Int32)), .val (.ref pR3), .val (.ref pR5), .val (.int (1 : Int32))] [(.int (1 : Int32))] _
    refine XS.iload X11.here hx rfl (hb hby at_46) rfl ?_
    show oS p e below T11 m 48 #[.val (.int pI1), .val (.int pI2), .val (.int (2 : Int32)), .val (.int (3 : Int32)), .val (.ref pR3), .val (.ref pR5), .val (.int (1 : Int32))] [(.int (1 : Int32)), (.int (1 : Int32))] _
    refine XS.icmpNo X11.here hx rfl (hb hby at_48) rfl (teq (by decide : (1 : Int32) = (1 : Int32))).2 ?_
    show oS p e below T11 m 51 #[.val (.int pI1), .val (.int pI2), .val (.int (2 : Int32)), .val (.int (3 : Int32)), .val (.ref pR3), .val (.ref pR5), .val (.int (1 : Int32))] [] _
    refine XS.iconst X11.here hx rfl (hb hby at_51) ?_
    show oS p e below T11 m 52 #[.val (.int pI1), .val (.int pI2), .val (.int (2 : Int32)), .val (.int (3 : Int32)), .val (.ref pR3), .val (.ref pR5), .val (.int (1 : Int32))] [(.int (1 : Int32))] _
    refine XS.goto X11.here hx rfl (pc0 := 52) (pc' := 56) rfl (hb hby at_52) (by decide) (by decide) ?_
    show oS p e below T11 m 56 #[.val (.int pI1), .val (.int pI2), .val (.int (2 : Int32)), .val (.int (3 : Int32)), .val (.ref pR3), .val (.ref pR5), .val (.int (1 : Int32))] [(.int (1 : Int32))] _
    exact retN X11 hx (t := .boolean) Bd.returns (by simp) (hb hby at_56) hr
  · show Qlaw2_3 Z pI1 pI2 pR3 pR5 pI8 pR9 pI10 h0 n0 _ T11.heap _
    rw [e11]
    exact ⟨rfl, N11⟩
theorem ef_law2_4 (m : MethodId) (pI1 : Int32) (pI2 : Int32) : entryFrame m #[(.int pI1), (.int pI2)] maxLocals = mkF m 0 #[.val (.int pI1), .val (.int pI2), .unset, .unset, .unset, .unset, .unset] [] := by first | (simp [entryFrame, mkF, argsToLocals, Value.category, maxLocals]; done) | rfl
def Qlaw2_4 (Z : State) (pI1 : Int32) (pI2 : Int32) (pR3 : Addr) (pR5 : Addr) (pI8 : Int32) (pR9 : Addr) (pI10 : Int32) (h0 : Heap) (n0 : Nat) (v : Option Value) (h : Heap) (L : List Loc) : Prop := v = some (.int (1 : Int32)) ∧ Fr n0 L
set_option maxRecDepth 65536 in
set_option maxHeartbeats 40000000 in
theorem law2_4 (l : Launch) (Z : State) (a0 : Array Value) (hw : ∀ d ∈ tables_1, d.before a0 Z = true) (ws : List Jvm.Cond) (pI1 : Int32) (pI2 : Int32) (pR3 : Addr) (pR5 : Addr) (pI8 : Int32) (pR9 : Addr) (pI10 : Int32) (h0 : Heap) (n0 : Nat) (Z0 : n0 ≤ h0.size) (S_DocumentView_INVOICES : Sta Z h0 "com/example/willenhall/willenhall/external/DocumentView" "INVOICES" "Lcom/example/willenhall/willenhall/external/DocumentView;" (.ref pR3)) (S_ExternalRole_ADMIN : Sta Z h0 "com/example/willenhall/willenhall/external/ExternalRole" "ADMIN" "Lcom/example/willenhall/willenhall/external/ExternalRole;" (.ref pR5)) (F_ordinal_pR5 : Fld Z h0 pR5 "java/lang/Enum" "ordinal" "I" (.int pI8)) (E_pR5 : Exa Z h0 pR5 "com/example/willenhall/willenhall/external/ExternalRole") (F_lowestRole_pR3 : Fld Z h0 pR3 "com/example/willenhall/willenhall/external/DocumentView" "lowestRole" "Lcom/example/willenhall/willenhall/external/ExternalRole;" (.ref pR9)) (F_ordinal_pR9 : Fld Z h0 pR9 "java/lang/Enum" "ordinal" "I" (.int pI10)) (E_pR9 : Exa Z h0 pR9 "com/example/willenhall/willenhall/external/ExternalRole") (E_pR3 : Exa Z h0 pR3 "com/example/willenhall/willenhall/external/DocumentView") (hc2 : (pI1 &&& (3 : Int32)) = (2 : Int32)) (hc10 : ((pI2 &&& (2147483647 : Int32)) % (6 : Int32)) = (4 : Int32)) (hc43 : ¬ (pI8 < pI10)) :
    MetFree l x (head1 (Jvm.Cond.code x code maxLocals ret :: ws) room_1) (fun a U => a = #[(.int pI1), (.int pI2)] ∧ Z.Warmed39 U.vm ∧ U.heap = h0) (fun _ _ _ _ _ => True) (fun _ U o U' => ∃ v L, o = .returned v ∧ Qlaw2_4 Z pI1 pI2 pR3 pR5 pI8 pR9 pI10 h0 n0 v U'.heap L ∧ FrameEnd U o U' L room_1.cells room_1.slots) := by
  refine MetFree.of_bodySF (plainFor_of_name pn_0) hisR ?_
  intro p e s m args below meth c s₁ Bd hml0 hP hK
  obtain ⟨rfl, hZ, hh⟩ := hP
  have hx := Bd.exec
  have hby := Bd.bytes
  have hml : c.maxLocals = 7 := hml0
  have hown : s.vm.findClass "com/example/willenhall/willenhall/external/DocumentViewIsReachedByPinLaw" = some m.cls := findClass_of_methodNamed Bd.named
  have hnm := (name_of_methodNamed Bd.named Bd.method).1
  have X0 : Stand p l e room_1 s m #[(.int pI1), (.int pI2)] below meth c s₁ [] 0 0 := Stand.of_body Bd
  have e0 : s₁.heap = h0 := by rw [← hh, Bd.state]; rfl
  have N0 := Fr.nil n0
  have pre0 : ∀ t, Steps p.tables e below (s₁.setTop (mkF m 0 #[.val (.int pI1), .val (.int pI2), .unset, .unset, .unset, .unset, .unset] [])) t → Steps p.tables e below (s₁.setTop (entryFrame m #[(.int pI1), (.int pI2)] maxLocals)) t := fun t k => castTop (ef_law2_4 m pI1 pI2) k
  obtain ⟨_, _, ⟨T4, L4, k4, n4⟩, -, X4, ⟨Lc4, hQ4, l4, y4, z4⟩, st4⟩ := Jvm.LawKit.callS X0 hx (y := yN0) hown (mvT hZ (ow hw 1 rfl)) (mvT hZ (ow hw 2 rfl)) (mvT hZ (ow hw 3 rfl)) (mvT hZ (ow hw 4 rfl)) (by decide) (backOf (W := 0) (view2 l Z a0 hw [] pR3 h0 n0 Z0 S_DocumentView_INVOICES) hZ (ow hw 4 rfl) (ow hw 3 rfl) (by decide) (by decide)) (g := (mkF m 13 #[.val (.int pI1), .val (.int pI2), .val (.int (2 : Int32)), .val (.int (4 : Int32)), .unset, .unset, .unset] [(.int (2 : Int32))])) rfl (by rw [hml]; rfl) (argsL := [(.int (2 : Int32))]) (rest := []) (lenOf pd_1 rfl) rfl (by show 2 * 0 + _ ≤ _; exact Nat.le_of_eq rfl) (hb hby at_13) (fun _ _ => ⟨rfl, e0, (by decide : 0 + 0 ≤ _), (by decide : 0 + 0 ≤ _)⟩)
  dsimp only [Pt.U, Pt.locs, Pt.cells, Pt.slots] at X4 l4 y4 z4 st4 hQ4
  subst l4 y4 z4
  obtain ⟨rfl, Nq4, e4⟩ := hQ4
  have N4 := Fr.app N0 Nq4
  obtain ⟨_, _, ⟨T6, L6, k6, n6⟩, -, X6, ⟨Lc6, hQ6, l6, y6, z6⟩, st6⟩ := Jvm.LawKit.callS X4 hx (y := yN1) hown (mvT hZ (ow hw 8 rfl)) (mvT hZ (ow hw 9 rfl)) (mvT hZ (ow hw 3 rfl)) (mvT hZ (ow hw 10 rfl)) (by decide) (backOf (W := 0) (role4 l Z a0 hw [] pR5 h0 n0 Z0 S_ExternalRole_ADMIN) hZ (ow hw 10 rfl) (ow hw 3 rfl) (by decide) (by decide)) (g := (mkF m 19 #[.val (.int pI1), .val (.int pI2), .val (.int (2 : Int32)), .val (.int (4 : Int32)), .val (.ref pR3), .unset, .unset] [(.int (4 : Int32))])) rfl (by rw [hml]; rfl) (argsL := [(.int (4 : Int32))]) (rest := []) (lenOf pd_2 rfl) rfl (by show 2 * 0 + _ ≤ _; exact Nat.le_of_eq rfl) (hb hby at_19) (fun _ _ => ⟨rfl, e4, (by decide : 0 + 0 ≤ _), (by decide : 0 + 0 ≤ _)⟩)
  dsimp only [Pt.U, Pt.locs, Pt.cells, Pt.slots] at X6 l6 y6 z6 st6 hQ6
  subst l6 y6 z6
  obtain ⟨rfl, Nq6, e6⟩ := hQ6
  have N6 := Fr.app N4 Nq6
  obtain ⟨_, _, ⟨T7, L7, k7, n7⟩, -, X7, ⟨Lc7, hQ7, l7, y7, z7⟩, st7⟩ := Jvm.LawKit.callS X6 hx (y := yN2) hown (mvT hZ (ow hw 14 rfl)) (mvT hZ (ow hw 15 rfl)) (mvT hZ (ow hw 3 rfl)) (mvT hZ (ow hw 16 rfl)) (by decide) (backOf (W := 1) (lowest2 l Z a0 hw []  h0 n0 Z0 ) hZ (ow hw 16 rfl) (ow hw 3 rfl) (by decide) (by decide)) (g := (mkF m 26 #[.val (.int pI1), .val (.int pI2), .val (.int (2 : Int32)), .val (.int (4 : Int32)), .val (.ref pR3), .val (.ref pR5), .unset] [(.int (2 : Int32)), (.int (4 : Int32))])) rfl (by rw [hml]; rfl) (argsL := [(.int (2 : Int32))]) (rest := [(.int (4 : Int32))]) (lenOf pd_3 rfl) rfl (by show 2 * 0 + _ ≤ _; exact Nat.le_of_eq rfl) (hb hby at_26) (fun _ _ => ⟨rfl, e6, (by decide : 0 + 0 ≤ _), (by decide : 0 + 0 ≤ _)⟩)
  dsimp only [Pt.U, Pt.locs, Pt.cells, Pt.slots] at X7 l7 y7 z7 st7 hQ7
  subst l7 y7 z7
  obtain ⟨rfl, Nq7, e7⟩ := hQ7
  have N7 := Fr.app N6 Nq7
  obtain ⟨cq11, kq11, q11a, q11b, q11c⟩ := isOf hZ e7 E_pR3
  obtain ⟨_, _, ⟨T11, L11, k11, n11⟩, -, X11, ⟨Lc11, hQ11, l11, y11, z11⟩, st11⟩ := X7.virtualBack hx (y := yN6) (z := yN6) hown (mvT hZ (ow hw 17 rfl)) (mvT hZ (ow hw 18 rfl)) (notFace_of_selects (args := #[]) (mvT hZ (ow hw 20 rfl))) (mvT hZ (ow hw 20 rfl)) (mvT hZ (ow hw 19 rfl)) (by decide) (backOf (W := 0) (irbY l Z a0 hw [] pR3 pR5 pI8 pR9 pI10 h0 n0 Z0 F_ordinal_pR5 E_pR5 F_lowestRole_pR3 F_ordinal_pR9 E_pR9 hc43) hZ (ow hw 21 rfl) (ow hw 6 rfl) (by decide) (by decide)) q11a q11c (g := (mkF m 43 #[.val (.int pI1), .val (.int pI2), .val (.int (2 : Int32)), .val (.int (4 : Int32)), .val (.ref pR3), .val (.ref pR5), .val (.int (1 : Int32))] [(.ref pR5), (.ref pR3)])) rfl (by rw [hml]; rfl) (Steps.refl _) (argsL := [(.ref pR5)]) (rest := []) (lenOf pd_4 rfl) rfl (by show 2 * 0 + _ ≤ _; exact Nat.le_of_eq rfl) (hb hby at_43) (fun _ _ => ⟨rfl, e7, (by decide : 0 + 0 ≤ _), (by decide : 0 + 0 ≤ _)⟩)
  dsimp only [Pt.U, Pt.locs, Pt.cells, Pt.slots] at X11 l11 y11 z11 st11 hQ11
  subst l11 y11 z11
  obtain ⟨rfl, Nq11, e11⟩ := hQ11
  have N11 := Fr.app N7 Nq11
  obtain ⟨fs, hr, hrun, hended, hW, hsame⟩ := X11.leave (v := some (.int (1 : Int32))) (fun h => by rw [Bd.returns] at h; cases h)
  refine ⟨_, _, pre0 _ ?_, hrun, hended, _, _, rfl, ?_, ⟨_, rfl⟩, hW, hsame.mono (by decide) (by decide)⟩
  · show oS p e below s₁ m 0 #[.val (.int pI1), .val (.int pI2), .unset, .unset, .unset, .unset, .unset] [] _
    refine XS.iloadN X0.here hx rfl (hb hby at_0) rfl ?_
    show oS p e below s₁ m 1 #[.val (.int pI1), .val (.int pI2), .unset, .unset, .unset, .unset, .unset] [(.int pI1)] _
    refine XS.iconst X0.here hx rfl (hb hby at_1) ?_
    show oS p e below s₁ m 2 #[.val (.int pI1), .val (.int pI2), .unset, .unset, .unset, .unset, .unset] [(.int (3 : Int32)), (.int pI1)] _
    refine XS.iand X0.here hx rfl (hb hby at_2) rfl ?_
    show Steps p.tables e below (s₁.setTop (mkF m 3 #[.val (.int pI1), .val (.int pI2), .unset, .unset, .unset, .unset, .unset] [(.int (pI1 &&& (3 : Int32)))])) _
    rw [hc2]
    show oS p e below s₁ m 3 #[.val (.int pI1), .val (.int pI2), .unset, .unset, .unset, .unset, .unset] [(.int (2 : Int32))] _
    refine XS.istoreN X0.here hx rfl (hb hby at_3) rfl (l' := #[.val (.int pI1), .val (.int pI2), .val (.int (2 : Int32)), .unset, .unset, .unset, .unset]) rfl ?_
    show oS p e below s₁ m 4 #[.val (.int pI1), .val (.int pI2), .val (.int (2 : Int32)), .unset, .unset, .unset, .unset] [] _
    refine XS.iloadN X0.here hx rfl (hb hby at_4) rfl ?_
    show oS p e below s₁ m 5 #[.val (.int pI1), .val (.int pI2), .val (.int (2 : Int32)), .unset, .unset, .unset, .unset] [(.int pI2)] _
    refine X0.ldcInt hx hown (mvT hZ (ow hw 0 rfl)) (g := (mkF m 5 #[.val (.int pI1), .val (.int pI2), .val (.int (2 : Int32)), .unset, .unset, .unset, .unset] [(.int pI2)])) rfl (hb hby at_5) _ ?_
    show oS p e below s₁ m 7 #[.val (.int pI1), .val (.int pI2), .val (.int (2 : Int32)), .unset, .unset, .unset, .unset] [(.int (2147483647 : Int32)), (.int pI2)] _
    refine XS.iand X0.here hx rfl (hb hby at_7) rfl ?_
    show oS p e below s₁ m 8 #[.val (.int pI1), .val (.int pI2), .val (.int (2 : Int32)), .unset, .unset, .unset, .unset] [(.int (pI2 &&& (2147483647 : Int32)))] _
    refine XS.bipush X0.here hx rfl (hb hby at_8) ?_
    show oS p e below s₁ m 10 #[.val (.int pI1), .val (.int pI2), .val (.int (2 : Int32)), .unset, .unset, .unset, .unset] [(.int (6 : Int32)), (.int (pI2 &&& (2147483647 : Int32)))] _
    refine iremM (g := (mkF m 10 #[.val (.int pI1), .val (.int pI2), .val (.int (2 : Int32)), .unset, .unset, .unset, .unset] [(.int (6 : Int32)), (.int (pI2 &&& (2147483647 : Int32)))])) X0 hx rfl (hb hby at_10) rfl (by decide) ?_
    show Steps p.tables e below (s₁.setTop (mkF m 11 #[.val (.int pI1), .val (.int pI2), .val (.int (2 : Int32)), .unset, .unset, .unset, .unset] [(.int ((pI2 &&& (2147483647 : Int32)) % (6 : Int32)))])) _
    rw [hc10]
    show oS p e below s₁ m 11 #[.val (.int pI1), .val (.int pI2), .val (.int (2 : Int32)), .unset, .unset, .unset, .unset] [(.int (4 : Int32))] _
    refine XS.istoreN X0.here hx rfl (hb hby at_11) rfl (l' := #[.val (.int pI1), .val (.int pI2), .val (.int (2 : Int32)), .val (.int (4 : Int32)), .unset, .unset, .unset]) rfl ?_
    show oS p e below s₁ m 12 #[.val (.int pI1), .val (.int pI2), .val (.int (2 : Int32)), .val (.int (4 : Int32)), .unset, .unset, .unset] [] _
    refine XS.iloadN X0.here hx rfl (hb hby at_12) rfl ?_
    show oS p e below s₁ m 13 #[.val (.int pI1), .val (.int pI2), .val (.int (2 : Int32)), .val (.int (4 : Int32)), .unset, .unset, .unset] [(.int (2 : Int32))] _
    refine st4 _ ?_
    show oS p e below T4 m 16 #[.val (.int pI1), .val (.int pI2), .val (.int (2 : Int32)), .val (.int (4 : Int32)), .unset, .unset, .unset] [(.ref pR3)] _
    refine XS.astore X4.here hx rfl (hb hby at_16) rfl rfl (l' := #[.val (.int pI1), .val (.int pI2), .val (.int (2 : Int32)), .val (.int (4 : Int32)), .val (.ref pR3), .unset, .unset]) rfl ?_
    show oS p e below T4 m 18 #[.val (.int pI1), .val (.int pI2), .val (.int (2 : Int32)), .val (.int (4 : Int32)), .val (.ref pR3), .unset, .unset] [] _
    refine XS.iloadN X4.here hx rfl (hb hby at_18) rfl ?_
    show oS p e below T4 m 19 #[.val (.int pI1), .val (.int pI2), .val (.int (2 : Int32)), .val (.int (4 : Int32)), .val (.ref pR3), .unset, .unset] [(.int (4 : Int32))] _
    refine st6 _ ?_
    show oS p e below T6 m 22 #[.val (.int pI1), .val (.int pI2), .val (.int (2 : Int32)), .val (.int (4 : Int32)), .val (.ref pR3), .unset, .unset] [(.ref pR5)] _
    refine XS.astore X6.here hx rfl (hb hby at_22) rfl rfl (l' := #[.val (.int pI1), .val (.int pI2), .val (.int (2 : Int32)), .val (.int (4 : Int32)), .val (.ref pR3), .val (.ref pR5), .unset]) rfl ?_
    show oS p e below T6 m 24 #[.val (.int pI1), .val (.int pI2), .val (.int (2 : Int32)), .val (.int (4 : Int32)), .val (.ref pR3), .val (.ref pR5), .unset] [] _
    refine XS.iloadN X6.here hx rfl (hb hby at_24) rfl ?_
    show oS p e below T6 m 25 #[.val (.int pI1), .val (.int pI2), .val (.int (2 : Int32)), .val (.int (4 : Int32)), .val (.ref pR3), .val (.ref pR5), .unset] [(.int (4 : Int32))] _
    refine XS.iloadN X6.here hx rfl (hb hby at_25) rfl ?_
    show oS p e below T6 m 26 #[.val (.int pI1), .val (.int pI2), .val (.int (2 : Int32)), .val (.int (4 : Int32)), .val (.ref pR3), .val (.ref pR5), .unset] [(.int (2 : Int32)), (.int (4 : Int32))] _
    refine st7 _ ?_
    show oS p e below T7 m 29 #[.val (.int pI1), .val (.int pI2), .val (.int (2 : Int32)), .val (.int (4 : Int32)), .val (.ref pR3), .val (.ref pR5), .unset] [(.int (3 : Int32)), (.int (4 : Int32))] _
    refine XS.icmpNo X7.here hx rfl (hb hby at_29) rfl (flt (by decide : ¬ ((4 : Int32) < (3 : Int32)))).1 ?_
    show oS p e below T7 m 32 #[.val (.int pI1), .val (.int pI2), .val (.int (2 : Int32)), .val (.int (4 : Int32)), .val (.ref pR3), .val (.ref pR5), .unset] [] _
    refine XS.iconst X7.here hx rfl (hb hby at_32) ?_
    show oS p e below T7 m 33 #[.val (.int pI1), .val (.int pI2), .val (.int (2 : Int32)), .val (.int (4 : Int32)), .val (.ref pR3), .val (.ref pR5), .unset] [(.int (1 : Int32))] _
    refine XS.goto X7.here hx rfl (pc0 := 33) (pc' := 37) rfl (hb hby at_33) (by decide) (by decide) ?_
    show oS p e below T7 m 37 #[.val (.int pI1), .val (.int pI2), .val (.int (2 : Int32)), .val (.int (4 : Int32)), .val (.ref pR3), .val (.ref pR5), .unset] [(.int (1 : Int32))] _
    refine XS.istore X7.here hx rfl (hb hby at_37) rfl (l' := #[.val (.int pI1), .val (.int pI2), .val (.int (2 : Int32)), .val (.int (4 : Int32)), .val (.ref pR3), .val (.ref pR5), .val (.int (1 : Int32))]) rfl ?_
    show oS p e below T7 m 39 #[.val (.int pI1), .val (.int pI2), .val (.int (2 : Int32)), .val (.int (4 : Int32)), .val (.ref pR3), .val (.ref pR5), .val (.int (1 : Int32))] [] _
    refine XS.aload X7.here hx rfl (hb hby at_39) rfl rfl ?_
    show oS p e below T7 m 41 #[.val (.int pI1), .val (.int pI2), .val (.int (2 : Int32)), .val (.int (4 : Int32)), .val (.ref pR3), .val (.ref pR5), .val (.int (1 : Int32))] [(.ref pR3)] _
    refine XS.aload X7.here hx rfl (hb hby at_41) rfl rfl ?_
    show oS p e below T7 m 43 #[.val (.int pI1), .val (.int pI2), .val (.int (2 : Int32)), .val (.int (4 : Int32)), .val (.ref pR3), .val (.ref pR5), .val (.int (1 : Int32))] [(.ref pR5), (.ref pR3)] _
    refine st11.trans ?_
    show oS p e below T11 m 46 #[.val (.int pI1), .val (.int pI2), .val (.int (2 : Int32)), .val (.int (4 : Int32)), .val (.ref pR3), .val (.ref pR5), .val (.int (1 : Int32))] [(.int (1 : Int32))] _
    refine XS.iload X11.here hx rfl (hb hby at_46) rfl ?_
    show oS p e below T11 m 48 #[.val (.int pI1), .val (.int pI2), .val (.int (2 : Int32)), .val (.int (4 : Int32)), .val (.ref pR3), .val (.ref pR5), .val (.int (1 : Int32))] [(.int (1 : Int32)), (.int (1 : Int32))] _
    refine XS.icmpNo X11.here hx rfl (hb hby at_48) rfl (teq (by decide : (1 : Int32) = (1 : Int32))).2 ?_
    show oS p e below T11 m 51 #[.val (.int pI1), .val (.int pI2), .val (.int (2 : Int32)), .val (.int (4 : Int32)), .val (.ref pR3), .val (.ref pR5), .val (.int (1 : Int32))] [] _
    refine XS.iconst X11.here hx rfl (hb hby at_51) ?_
    show oS p e below T11 m 52 #[.val (.int pI1), .val (.int pI2), .val (.int (2 : Int32)), .val (.int (4 : Int32)), .val (.ref pR3), .val (.ref pR5), .val (.int (1 : Int32))] [(.int (1 : Int32))] _
    refine XS.goto X11.here hx rfl (pc0 := 52) (pc' := 56) rfl (hb hby at_52) (by decide) (by decide) ?_
    show oS p e below T11 m 56 #[.val (.int pI1), .val (.int pI2), .val (.int (2 : Int32)), .val (.int (4 : Int32)), .val (.ref pR3), .val (.ref pR5), .val (.int (1 : Int32))] [(.int (1 : Int32))] _
    exact retN X11 hx (t := .boolean) Bd.returns (by simp) (hb hby at_56) hr
  · show Qlaw2_4 Z pI1 pI2 pR3 pR5 pI8 pR9 pI10 h0 n0 _ T11.heap _
    rw [e11]
    exact ⟨rfl, N11⟩
theorem ef_law2_5 (m : MethodId) (pI1 : Int32) (pI2 : Int32) : entryFrame m #[(.int pI1), (.int pI2)] maxLocals = mkF m 0 #[.val (.int pI1), .val (.int pI2), .unset, .unset, .unset, .unset, .unset] [] := by first | (simp [entryFrame, mkF, argsToLocals, Value.category, maxLocals]; done) | rfl
def Qlaw2_5 (Z : State) (pI1 : Int32) (pI2 : Int32) (pR3 : Addr) (pR5 : Addr) (pI8 : Int32) (pR9 : Addr) (pI10 : Int32) (h0 : Heap) (n0 : Nat) (v : Option Value) (h : Heap) (L : List Loc) : Prop := v = some (.int (1 : Int32)) ∧ Fr n0 L
set_option maxRecDepth 65536 in
set_option maxHeartbeats 40000000 in
theorem law2_5 (l : Launch) (Z : State) (a0 : Array Value) (hw : ∀ d ∈ tables_1, d.before a0 Z = true) (ws : List Jvm.Cond) (pI1 : Int32) (pI2 : Int32) (pR3 : Addr) (pR5 : Addr) (pI8 : Int32) (pR9 : Addr) (pI10 : Int32) (h0 : Heap) (n0 : Nat) (Z0 : n0 ≤ h0.size) (S_DocumentView_INVOICES : Sta Z h0 "com/example/willenhall/willenhall/external/DocumentView" "INVOICES" "Lcom/example/willenhall/willenhall/external/DocumentView;" (.ref pR3)) (S_ExternalRole_OWNER : Sta Z h0 "com/example/willenhall/willenhall/external/ExternalRole" "OWNER" "Lcom/example/willenhall/willenhall/external/ExternalRole;" (.ref pR5)) (F_ordinal_pR5 : Fld Z h0 pR5 "java/lang/Enum" "ordinal" "I" (.int pI8)) (E_pR5 : Exa Z h0 pR5 "com/example/willenhall/willenhall/external/ExternalRole") (F_lowestRole_pR3 : Fld Z h0 pR3 "com/example/willenhall/willenhall/external/DocumentView" "lowestRole" "Lcom/example/willenhall/willenhall/external/ExternalRole;" (.ref pR9)) (F_ordinal_pR9 : Fld Z h0 pR9 "java/lang/Enum" "ordinal" "I" (.int pI10)) (E_pR9 : Exa Z h0 pR9 "com/example/willenhall/willenhall/external/ExternalRole") (E_pR3 : Exa Z h0 pR3 "com/example/willenhall/willenhall/external/DocumentView") (hc2 : (pI1 &&& (3 : Int32)) = (2 : Int32)) (hc10 : ((pI2 &&& (2147483647 : Int32)) % (6 : Int32)) = (5 : Int32)) (hc43 : ¬ (pI8 < pI10)) :
    MetFree l x (head1 (Jvm.Cond.code x code maxLocals ret :: ws) room_1) (fun a U => a = #[(.int pI1), (.int pI2)] ∧ Z.Warmed39 U.vm ∧ U.heap = h0) (fun _ _ _ _ _ => True) (fun _ U o U' => ∃ v L, o = .returned v ∧ Qlaw2_5 Z pI1 pI2 pR3 pR5 pI8 pR9 pI10 h0 n0 v U'.heap L ∧ FrameEnd U o U' L room_1.cells room_1.slots) := by
  refine MetFree.of_bodySF (plainFor_of_name pn_0) hisR ?_
  intro p e s m args below meth c s₁ Bd hml0 hP hK
  obtain ⟨rfl, hZ, hh⟩ := hP
  have hx := Bd.exec
  have hby := Bd.bytes
  have hml : c.maxLocals = 7 := hml0
  have hown : s.vm.findClass "com/example/willenhall/willenhall/external/DocumentViewIsReachedByPinLaw" = some m.cls := findClass_of_methodNamed Bd.named
  have hnm := (name_of_methodNamed Bd.named Bd.method).1
  have X0 : Stand p l e room_1 s m #[(.int pI1), (.int pI2)] below meth c s₁ [] 0 0 := Stand.of_body Bd
  have e0 : s₁.heap = h0 := by rw [← hh, Bd.state]; rfl
  have N0 := Fr.nil n0
  have pre0 : ∀ t, Steps p.tables e below (s₁.setTop (mkF m 0 #[.val (.int pI1), .val (.int pI2), .unset, .unset, .unset, .unset, .unset] [])) t → Steps p.tables e below (s₁.setTop (entryFrame m #[(.int pI1), (.int pI2)] maxLocals)) t := fun t k => castTop (ef_law2_5 m pI1 pI2) k
  obtain ⟨_, _, ⟨T4, L4, k4, n4⟩, -, X4, ⟨Lc4, hQ4, l4, y4, z4⟩, st4⟩ := Jvm.LawKit.callS X0 hx (y := yN0) hown (mvT hZ (ow hw 1 rfl)) (mvT hZ (ow hw 2 rfl)) (mvT hZ (ow hw 3 rfl)) (mvT hZ (ow hw 4 rfl)) (by decide) (backOf (W := 0) (view2 l Z a0 hw [] pR3 h0 n0 Z0 S_DocumentView_INVOICES) hZ (ow hw 4 rfl) (ow hw 3 rfl) (by decide) (by decide)) (g := (mkF m 13 #[.val (.int pI1), .val (.int pI2), .val (.int (2 : Int32)), .val (.int (5 : Int32)), .unset, .unset, .unset] [(.int (2 : Int32))])) rfl (by rw [hml]; rfl) (argsL := [(.int (2 : Int32))]) (rest := []) (lenOf pd_1 rfl) rfl (by show 2 * 0 + _ ≤ _; exact Nat.le_of_eq rfl) (hb hby at_13) (fun _ _ => ⟨rfl, e0, (by decide : 0 + 0 ≤ _), (by decide : 0 + 0 ≤ _)⟩)
  dsimp only [Pt.U, Pt.locs, Pt.cells, Pt.slots] at X4 l4 y4 z4 st4 hQ4
  subst l4 y4 z4
  obtain ⟨rfl, Nq4, e4⟩ := hQ4
  have N4 := Fr.app N0 Nq4
  obtain ⟨_, _, ⟨T6, L6, k6, n6⟩, -, X6, ⟨Lc6, hQ6, l6, y6, z6⟩, st6⟩ := Jvm.LawKit.callS X4 hx (y := yN1) hown (mvT hZ (ow hw 8 rfl)) (mvT hZ (ow hw 9 rfl)) (mvT hZ (ow hw 3 rfl)) (mvT hZ (ow hw 10 rfl)) (by decide) (backOf (W := 0) (role5 l Z a0 hw [] pR5 h0 n0 Z0 S_ExternalRole_OWNER) hZ (ow hw 10 rfl) (ow hw 3 rfl) (by decide) (by decide)) (g := (mkF m 19 #[.val (.int pI1), .val (.int pI2), .val (.int (2 : Int32)), .val (.int (5 : Int32)), .val (.ref pR3), .unset, .unset] [(.int (5 : Int32))])) rfl (by rw [hml]; rfl) (argsL := [(.int (5 : Int32))]) (rest := []) (lenOf pd_2 rfl) rfl (by show 2 * 0 + _ ≤ _; exact Nat.le_of_eq rfl) (hb hby at_19) (fun _ _ => ⟨rfl, e4, (by decide : 0 + 0 ≤ _), (by decide : 0 + 0 ≤ _)⟩)
  dsimp only [Pt.U, Pt.locs, Pt.cells, Pt.slots] at X6 l6 y6 z6 st6 hQ6
  subst l6 y6 z6
  obtain ⟨rfl, Nq6, e6⟩ := hQ6
  have N6 := Fr.app N4 Nq6
  obtain ⟨_, _, ⟨T7, L7, k7, n7⟩, -, X7, ⟨Lc7, hQ7, l7, y7, z7⟩, st7⟩ := Jvm.LawKit.callS X6 hx (y := yN2) hown (mvT hZ (ow hw 14 rfl)) (mvT hZ (ow hw 15 rfl)) (mvT hZ (ow hw 3 rfl)) (mvT hZ (ow hw 16 rfl)) (by decide) (backOf (W := 1) (lowest2 l Z a0 hw []  h0 n0 Z0 ) hZ (ow hw 16 rfl) (ow hw 3 rfl) (by decide) (by decide)) (g := (mkF m 26 #[.val (.int pI1), .val (.int pI2), .val (.int (2 : Int32)), .val (.int (5 : Int32)), .val (.ref pR3), .val (.ref pR5), .unset] [(.int (2 : Int32)), (.int (5 : Int32))])) rfl (by rw [hml]; rfl) (argsL := [(.int (2 : Int32))]) (rest := [(.int (5 : Int32))]) (lenOf pd_3 rfl) rfl (by show 2 * 0 + _ ≤ _; exact Nat.le_of_eq rfl) (hb hby at_26) (fun _ _ => ⟨rfl, e6, (by decide : 0 + 0 ≤ _), (by decide : 0 + 0 ≤ _)⟩)
  dsimp only [Pt.U, Pt.locs, Pt.cells, Pt.slots] at X7 l7 y7 z7 st7 hQ7
  subst l7 y7 z7
  obtain ⟨rfl, Nq7, e7⟩ := hQ7
  have N7 := Fr.app N6 Nq7
  obtain ⟨cq11, kq11, q11a, q11b, q11c⟩ := isOf hZ e7 E_pR3
  obtain ⟨_, _, ⟨T11, L11, k11, n11⟩, -, X11, ⟨Lc11, hQ11, l11, y11, z11⟩, st11⟩ := X7.virtualBack hx (y := yN6) (z := yN6) hown (mvT hZ (ow hw 17 rfl)) (mvT hZ (ow hw 18 rfl)) (notFace_of_selects (args := #[]) (mvT hZ (ow hw 20 rfl))) (mvT hZ (ow hw 20 rfl)) (mvT hZ (ow hw 19 rfl)) (by decide) (backOf (W := 0) (irbY l Z a0 hw [] pR3 pR5 pI8 pR9 pI10 h0 n0 Z0 F_ordinal_pR5 E_pR5 F_lowestRole_pR3 F_ordinal_pR9 E_pR9 hc43) hZ (ow hw 21 rfl) (ow hw 6 rfl) (by decide) (by decide)) q11a q11c (g := (mkF m 43 #[.val (.int pI1), .val (.int pI2), .val (.int (2 : Int32)), .val (.int (5 : Int32)), .val (.ref pR3), .val (.ref pR5), .val (.int (1 : Int32))] [(.ref pR5), (.ref pR3)])) rfl (by rw [hml]; rfl) (Steps.refl _) (argsL := [(.ref pR5)]) (rest := []) (lenOf pd_4 rfl) rfl (by show 2 * 0 + _ ≤ _; exact Nat.le_of_eq rfl) (hb hby at_43) (fun _ _ => ⟨rfl, e7, (by decide : 0 + 0 ≤ _), (by decide : 0 + 0 ≤ _)⟩)
  dsimp only [Pt.U, Pt.locs, Pt.cells, Pt.slots] at X11 l11 y11 z11 st11 hQ11
  subst l11 y11 z11
  obtain ⟨rfl, Nq11, e11⟩ := hQ11
  have N11 := Fr.app N7 Nq11
  obtain ⟨fs, hr, hrun, hended, hW, hsame⟩ := X11.leave (v := some (.int (1 : Int32))) (fun h => by rw [Bd.returns] at h; cases h)
  refine ⟨_, _, pre0 _ ?_, hrun, hended, _, _, rfl, ?_, ⟨_, rfl⟩, hW, hsame.mono (by decide) (by decide)⟩
  · show oS p e below s₁ m 0 #[.val (.int pI1), .val (.int pI2), .unset, .unset, .unset, .unset, .unset] [] _
    refine XS.iloadN X0.here hx rfl (hb hby at_0) rfl ?_
    show oS p e below s₁ m 1 #[.val (.int pI1), .val (.int pI2), .unset, .unset, .unset, .unset, .unset] [(.int pI1)] _
    refine XS.iconst X0.here hx rfl (hb hby at_1) ?_
    show oS p e below s₁ m 2 #[.val (.int pI1), .val (.int pI2), .unset, .unset, .unset, .unset, .unset] [(.int (3 : Int32)), (.int pI1)] _
    refine XS.iand X0.here hx rfl (hb hby at_2) rfl ?_
    show Steps p.tables e below (s₁.setTop (mkF m 3 #[.val (.int pI1), .val (.int pI2), .unset, .unset, .unset, .unset, .unset] [(.int (pI1 &&& (3 : Int32)))])) _
    rw [hc2]
    show oS p e below s₁ m 3 #[.val (.int pI1), .val (.int pI2), .unset, .unset, .unset, .unset, .unset] [(.int (2 : Int32))] _
    refine XS.istoreN X0.here hx rfl (hb hby at_3) rfl (l' := #[.val (.int pI1), .val (.int pI2), .val (.int (2 : Int32)), .unset, .unset, .unset, .unset]) rfl ?_
    show oS p e below s₁ m 4 #[.val (.int pI1), .val (.int pI2), .val (.int (2 : Int32)), .unset, .unset, .unset, .unset] [] _
    refine XS.iloadN X0.here hx rfl (hb hby at_4) rfl ?_
    show oS p e below s₁ m 5 #[.val (.int pI1), .val (.int pI2), .val (.int (2 : Int32)), .unset, .unset, .unset, .unset] [(.int pI2)] _
    refine X0.ldcInt hx hown (mvT hZ (ow hw 0 rfl)) (g := (mkF m 5 #[.val (.int pI1), .val (.int pI2), .val (.int (2 : Int32)), .unset, .unset, .unset, .unset] [(.int pI2)])) rfl (hb hby at_5) _ ?_
    show oS p e below s₁ m 7 #[.val (.int pI1), .val (.int pI2), .val (.int (2 : Int32)), .unset, .unset, .unset, .unset] [(.int (2147483647 : Int32)), (.int pI2)] _
    refine XS.iand X0.here hx rfl (hb hby at_7) rfl ?_
    show oS p e below s₁ m 8 #[.val (.int pI1), .val (.int pI2), .val (.int (2 : Int32)), .unset, .unset, .unset, .unset] [(.int (pI2 &&& (2147483647 : Int32)))] _
    refine XS.bipush X0.here hx rfl (hb hby at_8) ?_
    show oS p e below s₁ m 10 #[.val (.int pI1), .val (.int pI2), .val (.int (2 : Int32)), .unset, .unset, .unset, .unset] [(.int (6 : Int32)), (.int (pI2 &&& (2147483647 : Int32)))] _
    refine iremM (g := (mkF m 10 #[.val (.int pI1), .val (.int pI2), .val (.int (2 : Int32)), .unset, .unset, .unset, .unset] [(.int (6 : Int32)), (.int (pI2 &&& (2147483647 : Int32)))])) X0 hx rfl (hb hby at_10) rfl (by decide) ?_
    show Steps p.tables e below (s₁.setTop (mkF m 11 #[.val (.int pI1), .val (.int pI2), .val (.int (2 : Int32)), .unset, .unset, .unset, .unset] [(.int ((pI2 &&& (2147483647 : Int32)) % (6 : Int32)))])) _
    rw [hc10]
    show oS p e below s₁ m 11 #[.val (.int pI1), .val (.int pI2), .val (.int (2 : Int32)), .unset, .unset, .unset, .unset] [(.int (5 : Int32))] _
    refine XS.istoreN X0.here hx rfl (hb hby at_11) rfl (l' := #[.val (.int pI1), .val (.int pI2), .val (.int (2 : Int32)), .val (.int (5 : Int32)), .unset, .unset, .unset]) rfl ?_
    show oS p e below s₁ m 12 #[.val (.int pI1), .val (.int pI2), .val (.int (2 : Int32)), .val (.int (5 : Int32)), .unset, .unset, .unset] [] _
    refine XS.iloadN X0.here hx rfl (hb hby at_12) rfl ?_
    show oS p e below s₁ m 13 #[.val (.int pI1), .val (.int pI2), .val (.int (2 : Int32)), .val (.int (5 : Int32)), .unset, .unset, .unset] [(.int (2 : Int32))] _
    refine st4 _ ?_
    show oS p e below T4 m 16 #[.val (.int pI1), .val (.int pI2), .val (.int (2 : Int32)), .val (.int (5 : Int32)), .unset, .unset, .unset] [(.ref pR3)] _
    refine XS.astore X4.here hx rfl (hb hby at_16) rfl rfl (l' := #[.val (.int pI1), .val (.int pI2), .val (.int (2 : Int32)), .val (.int (5 : Int32)), .val (.ref pR3), .unset, .unset]) rfl ?_
    show oS p e below T4 m 18 #[.val (.int pI1), .val (.int pI2), .val (.int (2 : Int32)), .val (.int (5 : Int32)), .val (.ref pR3), .unset, .unset] [] _
    refine XS.iloadN X4.here hx rfl (hb hby at_18) rfl ?_
    show oS p e below T4 m 19 #[.val (.int pI1), .val (.int pI2), .val (.int (2 : Int32)), .val (.int (5 : Int32)), .val (.ref pR3), .unset, .unset] [(.int (5 : Int32))] _
    refine st6 _ ?_
    show oS p e below T6 m 22 #[.val (.int pI1), .val (.int pI2), .val (.int (2 : Int32)), .val (.int (5 : Int32)), .val (.ref pR3), .unset, .unset] [(.ref pR5)] _
    refine XS.astore X6.here hx rfl (hb hby at_22) rfl rfl (l' := #[.val (.int pI1), .val (.int pI2), .val (.int (2 : Int32)), .val (.int (5 : Int32)), .val (.ref pR3), .val (.ref pR5), .unset]) rfl ?_
    show oS p e below T6 m 24 #[.val (.int pI1), .val (.int pI2), .val (.int (2 : Int32)), .val (.int (5 : Int32)), .val (.ref pR3), .val (.ref pR5), .unset] [] _
    refine XS.iloadN X6.here hx rfl (hb hby at_24) rfl ?_
    show oS p e below T6 m 25 #[.val (.int pI1), .val (.int pI2), .val (.int (2 : Int32)), .val (.int (5 : Int32)), .val (.ref pR3), .val (.ref pR5), .unset] [(.int (5 : Int32))] _
    refine XS.iloadN X6.here hx rfl (hb hby at_25) rfl ?_
    show oS p e below T6 m 26 #[.val (.int pI1), .val (.int pI2), .val (.int (2 : Int32)), .val (.int (5 : Int32)), .val (.ref pR3), .val (.ref pR5), .unset] [(.int (2 : Int32)), (.int (5 : Int32))] _
    refine st7 _ ?_
    show oS p e below T7 m 29 #[.val (.int pI1), .val (.int pI2), .val (.int (2 : Int32)), .val (.int (5 : Int32)), .val (.ref pR3), .val (.ref pR5), .unset] [(.int (3 : Int32)), (.int (5 : Int32))] _
    refine XS.icmpNo X7.here hx rfl (hb hby at_29) rfl (flt (by decide : ¬ ((5 : Int32) < (3 : Int32)))).1 ?_
    show oS p e below T7 m 32 #[.val (.int pI1), .val (.int pI2), .val (.int (2 : Int32)), .val (.int (5 : Int32)), .val (.ref pR3), .val (.ref pR5), .unset] [] _
    refine XS.iconst X7.here hx rfl (hb hby at_32) ?_
    show oS p e below T7 m 33 #[.val (.int pI1), .val (.int pI2), .val (.int (2 : Int32)), .val (.int (5 : Int32)), .val (.ref pR3), .val (.ref pR5), .unset] [(.int (1 : Int32))] _
    refine XS.goto X7.here hx rfl (pc0 := 33) (pc' := 37) rfl (hb hby at_33) (by decide) (by decide) ?_
    show oS p e below T7 m 37 #[.val (.int pI1), .val (.int pI2), .val (.int (2 : Int32)), .val (.int (5 : Int32)), .val (.ref pR3), .val (.ref pR5), .unset] [(.int (1 : Int32))] _
    refine XS.istore X7.here hx rfl (hb hby at_37) rfl (l' := #[.val (.int pI1), .val (.int pI2), .val (.int (2 : Int32)), .val (.int (5 : Int32)), .val (.ref pR3), .val (.ref pR5), .val (.int (1 : Int32))]) rfl ?_
    show oS p e below T7 m 39 #[.val (.int pI1), .val (.int pI2), .val (.int (2 : Int32)), .val (.int (5 : Int32)), .val (.ref pR3), .val (.ref pR5), .val (.int (1 : Int32))] [] _
    refine XS.aload X7.here hx rfl (hb hby at_39) rfl rfl ?_
    show oS p e below T7 m 41 #[.val (.int pI1), .val (.int pI2), .val (.int (2 : Int32)), .val (.int (5 : Int32)), .val (.ref pR3), .val (.ref pR5), .val (.int (1 : Int32))] [(.ref pR3)] _
    refine XS.aload X7.here hx rfl (hb hby at_41) rfl rfl ?_
    show oS p e below T7 m 43 #[.val (.int pI1), .val (.int pI2), .val (.int (2 : Int32)), .val (.int (5 : Int32)), .val (.ref pR3), .val (.ref pR5), .val (.int (1 : Int32))] [(.ref pR5), (.ref pR3)] _
    refine st11.trans ?_
    show oS p e below T11 m 46 #[.val (.int pI1), .val (.int pI2), .val (.int (2 : Int32)), .val (.int (5 : Int32)), .val (.ref pR3), .val (.ref pR5), .val (.int (1 : Int32))] [(.int (1 : Int32))] _
    refine XS.iload X11.here hx rfl (hb hby at_46) rfl ?_
    show oS p e below T11 m 48 #[.val (.int pI1), .val (.int pI2), .val (.int (2 : Int32)), .val (.int (5 : Int32)), .val (.ref pR3), .val (.ref pR5), .val (.int (1 : Int32))] [(.int (1 : Int32)), (.int (1 : Int32))] _
    refine XS.icmpNo X11.here hx rfl (hb hby at_48) rfl (teq (by decide : (1 : Int32) = (1 : Int32))).2 ?_
    show oS p e below T11 m 51 #[.val (.int pI1), .val (.int pI2), .val (.int (2 : Int32)), .val (.int (5 : Int32)), .val (.ref pR3), .val (.ref pR5), .val (.int (1 : Int32))] [] _
    refine XS.iconst X11.here hx rfl (hb hby at_51) ?_
    show oS p e below T11 m 52 #[.val (.int pI1), .val (.int pI2), .val (.int (2 : Int32)), .val (.int (5 : Int32)), .val (.ref pR3), .val (.ref pR5), .val (.int (1 : Int32))] [(.int (1 : Int32))] _
    refine XS.goto X11.here hx rfl (pc0 := 52) (pc' := 56) rfl (hb hby at_52) (by decide) (by decide) ?_
    show oS p e below T11 m 56 #[.val (.int pI1), .val (.int pI2), .val (.int (2 : Int32)), .val (.int (5 : Int32)), .val (.ref pR3), .val (.ref pR5), .val (.int (1 : Int32))] [(.int (1 : Int32))] _
    exact retN X11 hx (t := .boolean) Bd.returns (by simp) (hb hby at_56) hr
  · show Qlaw2_5 Z pI1 pI2 pR3 pR5 pI8 pR9 pI10 h0 n0 _ T11.heap _
    rw [e11]
    exact ⟨rfl, N11⟩
theorem ef_law3_0 (m : MethodId) (pI1 : Int32) (pI2 : Int32) : entryFrame m #[(.int pI1), (.int pI2)] maxLocals = mkF m 0 #[.val (.int pI1), .val (.int pI2), .unset, .unset, .unset, .unset, .unset] [] := by first | (simp [entryFrame, mkF, argsToLocals, Value.category, maxLocals]; done) | rfl
def Qlaw3_0 (Z : State) (pI1 : Int32) (pI2 : Int32) (pR3 : Addr) (pR5 : Addr) (pI8 : Int32) (pR9 : Addr) (pI10 : Int32) (h0 : Heap) (n0 : Nat) (v : Option Value) (h : Heap) (L : List Loc) : Prop := v = some (.int (1 : Int32)) ∧ Fr n0 L
set_option maxRecDepth 65536 in
set_option maxHeartbeats 40000000 in
theorem law3_0 (l : Launch) (Z : State) (a0 : Array Value) (hw : ∀ d ∈ tables_1, d.before a0 Z = true) (ws : List Jvm.Cond) (pI1 : Int32) (pI2 : Int32) (pR3 : Addr) (pR5 : Addr) (pI8 : Int32) (pR9 : Addr) (pI10 : Int32) (h0 : Heap) (n0 : Nat) (Z0 : n0 ≤ h0.size) (S_DocumentView_PAYMENTS : Sta Z h0 "com/example/willenhall/willenhall/external/DocumentView" "PAYMENTS" "Lcom/example/willenhall/willenhall/external/DocumentView;" (.ref pR3)) (S_ExternalRole_BASIC : Sta Z h0 "com/example/willenhall/willenhall/external/ExternalRole" "BASIC" "Lcom/example/willenhall/willenhall/external/ExternalRole;" (.ref pR5)) (F_ordinal_pR5 : Fld Z h0 pR5 "java/lang/Enum" "ordinal" "I" (.int pI8)) (E_pR5 : Exa Z h0 pR5 "com/example/willenhall/willenhall/external/ExternalRole") (F_lowestRole_pR3 : Fld Z h0 pR3 "com/example/willenhall/willenhall/external/DocumentView" "lowestRole" "Lcom/example/willenhall/willenhall/external/ExternalRole;" (.ref pR9)) (F_ordinal_pR9 : Fld Z h0 pR9 "java/lang/Enum" "ordinal" "I" (.int pI10)) (E_pR9 : Exa Z h0 pR9 "com/example/willenhall/willenhall/external/ExternalRole") (E_pR3 : Exa Z h0 pR3 "com/example/willenhall/willenhall/external/DocumentView") (hc2 : (pI1 &&& (3 : Int32)) = (3 : Int32)) (hc10 : ((pI2 &&& (2147483647 : Int32)) % (6 : Int32)) = (0 : Int32)) (hc43 : pI8 < pI10) :
    MetFree l x (head1 (Jvm.Cond.code x code maxLocals ret :: ws) room_1) (fun a U => a = #[(.int pI1), (.int pI2)] ∧ Z.Warmed39 U.vm ∧ U.heap = h0) (fun _ _ _ _ _ => True) (fun _ U o U' => ∃ v L, o = .returned v ∧ Qlaw3_0 Z pI1 pI2 pR3 pR5 pI8 pR9 pI10 h0 n0 v U'.heap L ∧ FrameEnd U o U' L room_1.cells room_1.slots) := by
  refine MetFree.of_bodySF (plainFor_of_name pn_0) hisR ?_
  intro p e s m args below meth c s₁ Bd hml0 hP hK
  obtain ⟨rfl, hZ, hh⟩ := hP
  have hx := Bd.exec
  have hby := Bd.bytes
  have hml : c.maxLocals = 7 := hml0
  have hown : s.vm.findClass "com/example/willenhall/willenhall/external/DocumentViewIsReachedByPinLaw" = some m.cls := findClass_of_methodNamed Bd.named
  have hnm := (name_of_methodNamed Bd.named Bd.method).1
  have X0 : Stand p l e room_1 s m #[(.int pI1), (.int pI2)] below meth c s₁ [] 0 0 := Stand.of_body Bd
  have e0 : s₁.heap = h0 := by rw [← hh, Bd.state]; rfl
  have N0 := Fr.nil n0
  have pre0 : ∀ t, Steps p.tables e below (s₁.setTop (mkF m 0 #[.val (.int pI1), .val (.int pI2), .unset, .unset, .unset, .unset, .unset] [])) t → Steps p.tables e below (s₁.setTop (entryFrame m #[(.int pI1), (.int pI2)] maxLocals)) t := fun t k => castTop (ef_law3_0 m pI1 pI2) k
  obtain ⟨_, _, ⟨T4, L4, k4, n4⟩, -, X4, ⟨Lc4, hQ4, l4, y4, z4⟩, st4⟩ := Jvm.LawKit.callS X0 hx (y := yN0) hown (mvT hZ (ow hw 1 rfl)) (mvT hZ (ow hw 2 rfl)) (mvT hZ (ow hw 3 rfl)) (mvT hZ (ow hw 4 rfl)) (by decide) (backOf (W := 0) (view3 l Z a0 hw [] pR3 h0 n0 Z0 S_DocumentView_PAYMENTS) hZ (ow hw 4 rfl) (ow hw 3 rfl) (by decide) (by decide)) (g := (mkF m 13 #[.val (.int pI1), .val (.int pI2), .val (.int (3 : Int32)), .val (.int (0 : Int32)), .unset, .unset, .unset] [(.int (3 : Int32))])) rfl (by rw [hml]; rfl) (argsL := [(.int (3 : Int32))]) (rest := []) (lenOf pd_1 rfl) rfl (by show 2 * 0 + _ ≤ _; exact Nat.le_of_eq rfl) (hb hby at_13) (fun _ _ => ⟨rfl, e0, (by decide : 0 + 0 ≤ _), (by decide : 0 + 0 ≤ _)⟩)
  dsimp only [Pt.U, Pt.locs, Pt.cells, Pt.slots] at X4 l4 y4 z4 st4 hQ4
  subst l4 y4 z4
  obtain ⟨rfl, Nq4, e4⟩ := hQ4
  have N4 := Fr.app N0 Nq4
  obtain ⟨_, _, ⟨T6, L6, k6, n6⟩, -, X6, ⟨Lc6, hQ6, l6, y6, z6⟩, st6⟩ := Jvm.LawKit.callS X4 hx (y := yN1) hown (mvT hZ (ow hw 8 rfl)) (mvT hZ (ow hw 9 rfl)) (mvT hZ (ow hw 3 rfl)) (mvT hZ (ow hw 10 rfl)) (by decide) (backOf (W := 0) (role0 l Z a0 hw [] pR5 h0 n0 Z0 S_ExternalRole_BASIC) hZ (ow hw 10 rfl) (ow hw 3 rfl) (by decide) (by decide)) (g := (mkF m 19 #[.val (.int pI1), .val (.int pI2), .val (.int (3 : Int32)), .val (.int (0 : Int32)), .val (.ref pR3), .unset, .unset] [(.int (0 : Int32))])) rfl (by rw [hml]; rfl) (argsL := [(.int (0 : Int32))]) (rest := []) (lenOf pd_2 rfl) rfl (by show 2 * 0 + _ ≤ _; exact Nat.le_of_eq rfl) (hb hby at_19) (fun _ _ => ⟨rfl, e4, (by decide : 0 + 0 ≤ _), (by decide : 0 + 0 ≤ _)⟩)
  dsimp only [Pt.U, Pt.locs, Pt.cells, Pt.slots] at X6 l6 y6 z6 st6 hQ6
  subst l6 y6 z6
  obtain ⟨rfl, Nq6, e6⟩ := hQ6
  have N6 := Fr.app N4 Nq6
  obtain ⟨_, _, ⟨T7, L7, k7, n7⟩, -, X7, ⟨Lc7, hQ7, l7, y7, z7⟩, st7⟩ := Jvm.LawKit.callS X6 hx (y := yN2) hown (mvT hZ (ow hw 14 rfl)) (mvT hZ (ow hw 15 rfl)) (mvT hZ (ow hw 3 rfl)) (mvT hZ (ow hw 16 rfl)) (by decide) (backOf (W := 1) (lowest3 l Z a0 hw []  h0 n0 Z0 ) hZ (ow hw 16 rfl) (ow hw 3 rfl) (by decide) (by decide)) (g := (mkF m 26 #[.val (.int pI1), .val (.int pI2), .val (.int (3 : Int32)), .val (.int (0 : Int32)), .val (.ref pR3), .val (.ref pR5), .unset] [(.int (3 : Int32)), (.int (0 : Int32))])) rfl (by rw [hml]; rfl) (argsL := [(.int (3 : Int32))]) (rest := [(.int (0 : Int32))]) (lenOf pd_3 rfl) rfl (by show 2 * 0 + _ ≤ _; exact Nat.le_of_eq rfl) (hb hby at_26) (fun _ _ => ⟨rfl, e6, (by decide : 0 + 0 ≤ _), (by decide : 0 + 0 ≤ _)⟩)
  dsimp only [Pt.U, Pt.locs, Pt.cells, Pt.slots] at X7 l7 y7 z7 st7 hQ7
  subst l7 y7 z7
  obtain ⟨rfl, Nq7, e7⟩ := hQ7
  have N7 := Fr.app N6 Nq7
  obtain ⟨cq11, kq11, q11a, q11b, q11c⟩ := isOf hZ e7 E_pR3
  obtain ⟨_, _, ⟨T11, L11, k11, n11⟩, -, X11, ⟨Lc11, hQ11, l11, y11, z11⟩, st11⟩ := X7.virtualBack hx (y := yN6) (z := yN6) hown (mvT hZ (ow hw 17 rfl)) (mvT hZ (ow hw 18 rfl)) (notFace_of_selects (args := #[]) (mvT hZ (ow hw 20 rfl))) (mvT hZ (ow hw 20 rfl)) (mvT hZ (ow hw 19 rfl)) (by decide) (backOf (W := 0) (irbN l Z a0 hw [] pR3 pR5 pI8 pR9 pI10 h0 n0 Z0 F_ordinal_pR5 E_pR5 F_lowestRole_pR3 F_ordinal_pR9 E_pR9 hc43) hZ (ow hw 21 rfl) (ow hw 6 rfl) (by decide) (by decide)) q11a q11c (g := (mkF m 43 #[.val (.int pI1), .val (.int pI2), .val (.int (3 : Int32)), .val (.int (0 : Int32)), .val (.ref pR3), .val (.ref pR5), .val (.int (0 : Int32))] [(.ref pR5), (.ref pR3)])) rfl (by rw [hml]; rfl) (Steps.refl _) (argsL := [(.ref pR5)]) (rest := []) (lenOf pd_4 rfl) rfl (by show 2 * 0 + _ ≤ _; exact Nat.le_of_eq rfl) (hb hby at_43) (fun _ _ => ⟨rfl, e7, (by decide : 0 + 0 ≤ _), (by decide : 0 + 0 ≤ _)⟩)
  dsimp only [Pt.U, Pt.locs, Pt.cells, Pt.slots] at X11 l11 y11 z11 st11 hQ11
  subst l11 y11 z11
  obtain ⟨rfl, Nq11, e11⟩ := hQ11
  have N11 := Fr.app N7 Nq11
  obtain ⟨fs, hr, hrun, hended, hW, hsame⟩ := X11.leave (v := some (.int (1 : Int32))) (fun h => by rw [Bd.returns] at h; cases h)
  refine ⟨_, _, pre0 _ ?_, hrun, hended, _, _, rfl, ?_, ⟨_, rfl⟩, hW, hsame.mono (by decide) (by decide)⟩
  · show oS p e below s₁ m 0 #[.val (.int pI1), .val (.int pI2), .unset, .unset, .unset, .unset, .unset] [] _
    refine XS.iloadN X0.here hx rfl (hb hby at_0) rfl ?_
    show oS p e below s₁ m 1 #[.val (.int pI1), .val (.int pI2), .unset, .unset, .unset, .unset, .unset] [(.int pI1)] _
    refine XS.iconst X0.here hx rfl (hb hby at_1) ?_
    show oS p e below s₁ m 2 #[.val (.int pI1), .val (.int pI2), .unset, .unset, .unset, .unset, .unset] [(.int (3 : Int32)), (.int pI1)] _
    refine XS.iand X0.here hx rfl (hb hby at_2) rfl ?_
    show Steps p.tables e below (s₁.setTop (mkF m 3 #[.val (.int pI1), .val (.int pI2), .unset, .unset, .unset, .unset, .unset] [(.int (pI1 &&& (3 : Int32)))])) _
    rw [hc2]
    show oS p e below s₁ m 3 #[.val (.int pI1), .val (.int pI2), .unset, .unset, .unset, .unset, .unset] [(.int (3 : Int32))] _
    refine XS.istoreN X0.here hx rfl (hb hby at_3) rfl (l' := #[.val (.int pI1), .val (.int pI2), .val (.int (3 : Int32)), .unset, .unset, .unset, .unset]) rfl ?_
    show oS p e below s₁ m 4 #[.val (.int pI1), .val (.int pI2), .val (.int (3 : Int32)), .unset, .unset, .unset, .unset] [] _
    refine XS.iloadN X0.here hx rfl (hb hby at_4) rfl ?_
    show oS p e below s₁ m 5 #[.val (.int pI1), .val (.int pI2), .val (.int (3 : Int32)), .unset, .unset, .unset, .unset] [(.int pI2)] _
    refine X0.ldcInt hx hown (mvT hZ (ow hw 0 rfl)) (g := (mkF m 5 #[.val (.int pI1), .val (.int pI2), .val (.int (3 : Int32)), .unset, .unset, .unset, .unset] [(.int pI2)])) rfl (hb hby at_5) _ ?_
    show oS p e below s₁ m 7 #[.val (.int pI1), .val (.int pI2), .val (.int (3 : Int32)), .unset, .unset, .unset, .unset] [(.int (2147483647 : Int32)), (.int pI2)] _
    refine XS.iand X0.here hx rfl (hb hby at_7) rfl ?_
    show oS p e below s₁ m 8 #[.val (.int pI1), .val (.int pI2), .val (.int (3 : Int32)), .unset, .unset, .unset, .unset] [(.int (pI2 &&& (2147483647 : Int32)))] _
    refine XS.bipush X0.here hx rfl (hb hby at_8) ?_
    show oS p e below s₁ m 10 #[.val (.int pI1), .val (.int pI2), .val (.int (3 : Int32)), .unset, .unset, .unset, .unset] [(.int (6 : Int32)), (.int (pI2 &&& (2147483647 : Int32)))] _
    refine iremM (g := (mkF m 10 #[.val (.int pI1), .val (.int pI2), .val (.int (3 : Int32)), .unset, .unset, .unset, .unset] [(.int (6 : Int32)), (.int (pI2 &&& (2147483647 : Int32)))])) X0 hx rfl (hb hby at_10) rfl (by decide) ?_
    show Steps p.tables e below (s₁.setTop (mkF m 11 #[.val (.int pI1), .val (.int pI2), .val (.int (3 : Int32)), .unset, .unset, .unset, .unset] [(.int ((pI2 &&& (2147483647 : Int32)) % (6 : Int32)))])) _
    rw [hc10]
    show oS p e below s₁ m 11 #[.val (.int pI1), .val (.int pI2), .val (.int (3 : Int32)), .unset, .unset, .unset, .unset] [(.int (0 : Int32))] _
    refine XS.istoreN X0.here hx rfl (hb hby at_11) rfl (l' := #[.val (.int pI1), .val (.int pI2), .val (.int (3 : Int32)), .val (.int (0 : Int32)), .unset, .unset, .unset]) rfl ?_
    show oS p e below s₁ m 12 #[.val (.int pI1), .val (.int pI2), .val (.int (3 : Int32)), .val (.int (0 : Int32)), .unset, .unset, .unset] [] _
    refine XS.iloadN X0.here hx rfl (hb hby at_12) rfl ?_
    show oS p e below s₁ m 13 #[.val (.int pI1), .val (.int pI2), .val (.int (3 : Int32)), .val (.int (0 : Int32)), .unset, .unset, .unset] [(.int (3 : Int32))] _
    refine st4 _ ?_
    show oS p e below T4 m 16 #[.val (.int pI1), .val (.int pI2), .val (.int (3 : Int32)), .val (.int (0 : Int32)), .unset, .unset, .unset] [(.ref pR3)] _
    refine XS.astore X4.here hx rfl (hb hby at_16) rfl rfl (l' := #[.val (.int pI1), .val (.int pI2), .val (.int (3 : Int32)), .val (.int (0 : Int32)), .val (.ref pR3), .unset, .unset]) rfl ?_
    show oS p e below T4 m 18 #[.val (.int pI1), .val (.int pI2), .val (.int (3 : Int32)), .val (.int (0 : Int32)), .val (.ref pR3), .unset, .unset] [] _
    refine XS.iloadN X4.here hx rfl (hb hby at_18) rfl ?_
    show oS p e below T4 m 19 #[.val (.int pI1), .val (.int pI2), .val (.int (3 : Int32)), .val (.int (0 : Int32)), .val (.ref pR3), .unset, .unset] [(.int (0 : Int32))] _
    refine st6 _ ?_
    show oS p e below T6 m 22 #[.val (.int pI1), .val (.int pI2), .val (.int (3 : Int32)), .val (.int (0 : Int32)), .val (.ref pR3), .unset, .unset] [(.ref pR5)] _
    refine XS.astore X6.here hx rfl (hb hby at_22) rfl rfl (l' := #[.val (.int pI1), .val (.int pI2), .val (.int (3 : Int32)), .val (.int (0 : Int32)), .val (.ref pR3), .val (.ref pR5), .unset]) rfl ?_
    show oS p e below T6 m 24 #[.val (.int pI1), .val (.int pI2), .val (.int (3 : Int32)), .val (.int (0 : Int32)), .val (.ref pR3), .val (.ref pR5), .unset] [] _
    refine XS.iloadN X6.here hx rfl (hb hby at_24) rfl ?_
    show oS p e below T6 m 25 #[.val (.int pI1), .val (.int pI2), .val (.int (3 : Int32)), .val (.int (0 : Int32)), .val (.ref pR3), .val (.ref pR5), .unset] [(.int (0 : Int32))] _
    refine XS.iloadN X6.here hx rfl (hb hby at_25) rfl ?_
    show oS p e below T6 m 26 #[.val (.int pI1), .val (.int pI2), .val (.int (3 : Int32)), .val (.int (0 : Int32)), .val (.ref pR3), .val (.ref pR5), .unset] [(.int (3 : Int32)), (.int (0 : Int32))] _
    refine st7 _ ?_
    show oS p e below T7 m 29 #[.val (.int pI1), .val (.int pI2), .val (.int (3 : Int32)), .val (.int (0 : Int32)), .val (.ref pR3), .val (.ref pR5), .unset] [(.int (3 : Int32)), (.int (0 : Int32))] _
    refine XS.icmpYes X7.here hx rfl (pc0 := 29) (pc' := 36) rfl (hb hby at_29) rfl (tlt (by decide : (0 : Int32) < (3 : Int32))).1 (by decide) (by decide) ?_
    show oS p e below T7 m 36 #[.val (.int pI1), .val (.int pI2), .val (.int (3 : Int32)), .val (.int (0 : Int32)), .val (.ref pR3), .val (.ref pR5), .unset] [] _
    refine XS.iconst X7.here hx rfl (hb hby at_36) ?_
    show oS p e below T7 m 37 #[.val (.int pI1), .val (.int pI2), .val (.int (3 : Int32)), .val (.int (0 : Int32)), .val (.ref pR3), .val (.ref pR5), .unset] [(.int (0 : Int32))] _
    refine XS.istore X7.here hx rfl (hb hby at_37) rfl (l' := #[.val (.int pI1), .val (.int pI2), .val (.int (3 : Int32)), .val (.int (0 : Int32)), .val (.ref pR3), .val (.ref pR5), .val (.int (0 : Int32))]) rfl ?_
    show oS p e below T7 m 39 #[.val (.int pI1), .val (.int pI2), .val (.int (3 : Int32)), .val (.int (0 : Int32)), .val (.ref pR3), .val (.ref pR5), .val (.int (0 : Int32))] [] _
    refine XS.aload X7.here hx rfl (hb hby at_39) rfl rfl ?_
    show oS p e below T7 m 41 #[.val (.int pI1), .val (.int pI2), .val (.int (3 : Int32)), .val (.int (0 : Int32)), .val (.ref pR3), .val (.ref pR5), .val (.int (0 : Int32))] [(.ref pR3)] _
    refine XS.aload X7.here hx rfl (hb hby at_41) rfl rfl ?_
    show oS p e below T7 m 43 #[.val (.int pI1), .val (.int pI2), .val (.int (3 : Int32)), .val (.int (0 : Int32)), .val (.ref pR3), .val (.ref pR5), .val (.int (0 : Int32))] [(.ref pR5), (.ref pR3)] _
    refine st11.trans ?_
    show oS p e below T11 m 46 #[.val (.int pI1), .val (.int pI2), .val (.int (3 : Int32)), .val (.int (0 : Int32)), .val (.ref pR3), .val (.ref pR5), .val (.int (0 : Int32))] [(.int (0 : Int32))] _
    refine XS.iload X11.here hx rfl (hb hby at_46) rfl ?_
    show oS p e below T11 m 48 #[.val (.int pI1), .val (.int pI2), .val (.int (3 : Int32)), .val (.int (0 : Int32)), .val (.ref pR3), .val (.ref pR5), .val (.int (0 : Int32))] [(.int (0 : Int32)), (.int (0 : Int32))] _
    refine XS.icmpNo X11.here hx rfl (hb hby at_48) rfl (teq (by decide : (0 : Int32) = (0 : Int32))).2 ?_
    show oS p e below T11 m 51 #[.val (.int pI1), .val (.int pI2), .val (.int (3 : Int32)), .val (.int (0 : Int32)), .val (.ref pR3), .val (.ref pR5), .val (.int (0 : Int32))] [] _
    refine XS.iconst X11.here hx rfl (hb hby at_51) ?_
    show oS p e below T11 m 52 #[.val (.int pI1), .val (.int pI2), .val (.int (3 : Int32)), .val (.int (0 : Int32)), .val (.ref pR3), .val (.ref pR5), .val (.int (0 : Int32))] [(.int (1 : Int32))] _
    refine XS.goto X11.here hx rfl (pc0 := 52) (pc' := 56) rfl (hb hby at_52) (by decide) (by decide) ?_
    show oS p e below T11 m 56 #[.val (.int pI1), .val (.int pI2), .val (.int (3 : Int32)), .val (.int (0 : Int32)), .val (.ref pR3), .val (.ref pR5), .val (.int (0 : Int32))] [(.int (1 : Int32))] _
    exact retN X11 hx (t := .boolean) Bd.returns (by simp) (hb hby at_56) hr
  · show Qlaw3_0 Z pI1 pI2 pR3 pR5 pI8 pR9 pI10 h0 n0 _ T11.heap _
    rw [e11]
    exact ⟨rfl, N11⟩
theorem ef_law3_1 (m : MethodId) (pI1 : Int32) (pI2 : Int32) : entryFrame m #[(.int pI1), (.int pI2)] maxLocals = mkF m 0 #[.val (.int pI1), .val (.int pI2), .unset, .unset, .unset, .unset, .unset] [] := by first | (simp [entryFrame, mkF, argsToLocals, Value.category, maxLocals]; done) | rfl
def Qlaw3_1 (Z : State) (pI1 : Int32) (pI2 : Int32) (pR3 : Addr) (pR5 : Addr) (pI8 : Int32) (pR9 : Addr) (pI10 : Int32) (h0 : Heap) (n0 : Nat) (v : Option Value) (h : Heap) (L : List Loc) : Prop := v = some (.int (1 : Int32)) ∧ Fr n0 L
set_option maxRecDepth 65536 in
set_option maxHeartbeats 40000000 in
theorem law3_1 (l : Launch) (Z : State) (a0 : Array Value) (hw : ∀ d ∈ tables_1, d.before a0 Z = true) (ws : List Jvm.Cond) (pI1 : Int32) (pI2 : Int32) (pR3 : Addr) (pR5 : Addr) (pI8 : Int32) (pR9 : Addr) (pI10 : Int32) (h0 : Heap) (n0 : Nat) (Z0 : n0 ≤ h0.size) (S_DocumentView_PAYMENTS : Sta Z h0 "com/example/willenhall/willenhall/external/DocumentView" "PAYMENTS" "Lcom/example/willenhall/willenhall/external/DocumentView;" (.ref pR3)) (S_ExternalRole_ORDERS : Sta Z h0 "com/example/willenhall/willenhall/external/ExternalRole" "ORDERS" "Lcom/example/willenhall/willenhall/external/ExternalRole;" (.ref pR5)) (F_ordinal_pR5 : Fld Z h0 pR5 "java/lang/Enum" "ordinal" "I" (.int pI8)) (E_pR5 : Exa Z h0 pR5 "com/example/willenhall/willenhall/external/ExternalRole") (F_lowestRole_pR3 : Fld Z h0 pR3 "com/example/willenhall/willenhall/external/DocumentView" "lowestRole" "Lcom/example/willenhall/willenhall/external/ExternalRole;" (.ref pR9)) (F_ordinal_pR9 : Fld Z h0 pR9 "java/lang/Enum" "ordinal" "I" (.int pI10)) (E_pR9 : Exa Z h0 pR9 "com/example/willenhall/willenhall/external/ExternalRole") (E_pR3 : Exa Z h0 pR3 "com/example/willenhall/willenhall/external/DocumentView") (hc2 : (pI1 &&& (3 : Int32)) = (3 : Int32)) (hc10 : ((pI2 &&& (2147483647 : Int32)) % (6 : Int32)) = (1 : Int32)) (hc43 : pI8 < pI10) :
    MetFree l x (head1 (Jvm.Cond.code x code maxLocals ret :: ws) room_1) (fun a U => a = #[(.int pI1), (.int pI2)] ∧ Z.Warmed39 U.vm ∧ U.heap = h0) (fun _ _ _ _ _ => True) (fun _ U o U' => ∃ v L, o = .returned v ∧ Qlaw3_1 Z pI1 pI2 pR3 pR5 pI8 pR9 pI10 h0 n0 v U'.heap L ∧ FrameEnd U o U' L room_1.cells room_1.slots) := by
  refine MetFree.of_bodySF (plainFor_of_name pn_0) hisR ?_
  intro p e s m args below meth c s₁ Bd hml0 hP hK
  obtain ⟨rfl, hZ, hh⟩ := hP
  have hx := Bd.exec
  have hby := Bd.bytes
  have hml : c.maxLocals = 7 := hml0
  have hown : s.vm.findClass "com/example/willenhall/willenhall/external/DocumentViewIsReachedByPinLaw" = some m.cls := findClass_of_methodNamed Bd.named
  have hnm := (name_of_methodNamed Bd.named Bd.method).1
  have X0 : Stand p l e room_1 s m #[(.int pI1), (.int pI2)] below meth c s₁ [] 0 0 := Stand.of_body Bd
  have e0 : s₁.heap = h0 := by rw [← hh, Bd.state]; rfl
  have N0 := Fr.nil n0
  have pre0 : ∀ t, Steps p.tables e below (s₁.setTop (mkF m 0 #[.val (.int pI1), .val (.int pI2), .unset, .unset, .unset, .unset, .unset] [])) t → Steps p.tables e below (s₁.setTop (entryFrame m #[(.int pI1), (.int pI2)] maxLocals)) t := fun t k => castTop (ef_law3_1 m pI1 pI2) k
  obtain ⟨_, _, ⟨T4, L4, k4, n4⟩, -, X4, ⟨Lc4, hQ4, l4, y4, z4⟩, st4⟩ := Jvm.LawKit.callS X0 hx (y := yN0) hown (mvT hZ (ow hw 1 rfl)) (mvT hZ (ow hw 2 rfl)) (mvT hZ (ow hw 3 rfl)) (mvT hZ (ow hw 4 rfl)) (by decide) (backOf (W := 0) (view3 l Z a0 hw [] pR3 h0 n0 Z0 S_DocumentView_PAYMENTS) hZ (ow hw 4 rfl) (ow hw 3 rfl) (by decide) (by decide)) (g := (mkF m 13 #[.val (.int pI1), .val (.int pI2), .val (.int (3 : Int32)), .val (.int (1 : Int32)), .unset, .unset, .unset] [(.int (3 : Int32))])) rfl (by rw [hml]; rfl) (argsL := [(.int (3 : Int32))]) (rest := []) (lenOf pd_1 rfl) rfl (by show 2 * 0 + _ ≤ _; exact Nat.le_of_eq rfl) (hb hby at_13) (fun _ _ => ⟨rfl, e0, (by decide : 0 + 0 ≤ _), (by decide : 0 + 0 ≤ _)⟩)
  dsimp only [Pt.U, Pt.locs, Pt.cells, Pt.slots] at X4 l4 y4 z4 st4 hQ4
  subst l4 y4 z4
  obtain ⟨rfl, Nq4, e4⟩ := hQ4
  have N4 := Fr.app N0 Nq4
  obtain ⟨_, _, ⟨T6, L6, k6, n6⟩, -, X6, ⟨Lc6, hQ6, l6, y6, z6⟩, st6⟩ := Jvm.LawKit.callS X4 hx (y := yN1) hown (mvT hZ (ow hw 8 rfl)) (mvT hZ (ow hw 9 rfl)) (mvT hZ (ow hw 3 rfl)) (mvT hZ (ow hw 10 rfl)) (by decide) (backOf (W := 0) (role1 l Z a0 hw [] pR5 h0 n0 Z0 S_ExternalRole_ORDERS) hZ (ow hw 10 rfl) (ow hw 3 rfl) (by decide) (by decide)) (g := (mkF m 19 #[.val (.int pI1), .val (.int pI2), .val (.int (3 : Int32)), .val (.int (1 : Int32)), .val (.ref pR3), .unset, .unset] [(.int (1 : Int32))])) rfl (by rw [hml]; rfl) (argsL := [(.int (1 : Int32))]) (rest := []) (lenOf pd_2 rfl) rfl (by show 2 * 0 + _ ≤ _; exact Nat.le_of_eq rfl) (hb hby at_19) (fun _ _ => ⟨rfl, e4, (by decide : 0 + 0 ≤ _), (by decide : 0 + 0 ≤ _)⟩)
  dsimp only [Pt.U, Pt.locs, Pt.cells, Pt.slots] at X6 l6 y6 z6 st6 hQ6
  subst l6 y6 z6
  obtain ⟨rfl, Nq6, e6⟩ := hQ6
  have N6 := Fr.app N4 Nq6
  obtain ⟨_, _, ⟨T7, L7, k7, n7⟩, -, X7, ⟨Lc7, hQ7, l7, y7, z7⟩, st7⟩ := Jvm.LawKit.callS X6 hx (y := yN2) hown (mvT hZ (ow hw 14 rfl)) (mvT hZ (ow hw 15 rfl)) (mvT hZ (ow hw 3 rfl)) (mvT hZ (ow hw 16 rfl)) (by decide) (backOf (W := 1) (lowest3 l Z a0 hw []  h0 n0 Z0 ) hZ (ow hw 16 rfl) (ow hw 3 rfl) (by decide) (by decide)) (g := (mkF m 26 #[.val (.int pI1), .val (.int pI2), .val (.int (3 : Int32)), .val (.int (1 : Int32)), .val (.ref pR3), .val (.ref pR5), .unset] [(.int (3 : Int32)), (.int (1 : Int32))])) rfl (by rw [hml]; rfl) (argsL := [(.int (3 : Int32))]) (rest := [(.int (1 : Int32))]) (lenOf pd_3 rfl) rfl (by show 2 * 0 + _ ≤ _; exact Nat.le_of_eq rfl) (hb hby at_26) (fun _ _ => ⟨rfl, e6, (by decide : 0 + 0 ≤ _), (by decide : 0 + 0 ≤ _)⟩)
  dsimp only [Pt.U, Pt.locs, Pt.cells, Pt.slots] at X7 l7 y7 z7 st7 hQ7
  subst l7 y7 z7
  obtain ⟨rfl, Nq7, e7⟩ := hQ7
  have N7 := Fr.app N6 Nq7
  obtain ⟨cq11, kq11, q11a, q11b, q11c⟩ := isOf hZ e7 E_pR3
  obtain ⟨_, _, ⟨T11, L11, k11, n11⟩, -, X11, ⟨Lc11, hQ11, l11, y11, z11⟩, st11⟩ := X7.virtualBack hx (y := yN6) (z := yN6) hown (mvT hZ (ow hw 17 rfl)) (mvT hZ (ow hw 18 rfl)) (notFace_of_selects (args := #[]) (mvT hZ (ow hw 20 rfl))) (mvT hZ (ow hw 20 rfl)) (mvT hZ (ow hw 19 rfl)) (by decide) (backOf (W := 0) (irbN l Z a0 hw [] pR3 pR5 pI8 pR9 pI10 h0 n0 Z0 F_ordinal_pR5 E_pR5 F_lowestRole_pR3 F_ordinal_pR9 E_pR9 hc43) hZ (ow hw 21 rfl) (ow hw 6 rfl) (by decide) (by decide)) q11a q11c (g := (mkF m 43 #[.val (.int pI1), .val (.int pI2), .val (.int (3 : Int32)), .val (.int (1 : Int32)), .val (.ref pR3), .val (.ref pR5), .val (.int (0 : Int32))] [(.ref pR5), (.ref pR3)])) rfl (by rw [hml]; rfl) (Steps.refl _) (argsL := [(.ref pR5)]) (rest := []) (lenOf pd_4 rfl) rfl (by show 2 * 0 + _ ≤ _; exact Nat.le_of_eq rfl) (hb hby at_43) (fun _ _ => ⟨rfl, e7, (by decide : 0 + 0 ≤ _), (by decide : 0 + 0 ≤ _)⟩)
  dsimp only [Pt.U, Pt.locs, Pt.cells, Pt.slots] at X11 l11 y11 z11 st11 hQ11
  subst l11 y11 z11
  obtain ⟨rfl, Nq11, e11⟩ := hQ11
  have N11 := Fr.app N7 Nq11
  obtain ⟨fs, hr, hrun, hended, hW, hsame⟩ := X11.leave (v := some (.int (1 : Int32))) (fun h => by rw [Bd.returns] at h; cases h)
  refine ⟨_, _, pre0 _ ?_, hrun, hended, _, _, rfl, ?_, ⟨_, rfl⟩, hW, hsame.mono (by decide) (by decide)⟩
  · show oS p e below s₁ m 0 #[.val (.int pI1), .val (.int pI2), .unset, .unset, .unset, .unset, .unset] [] _
    refine XS.iloadN X0.here hx rfl (hb hby at_0) rfl ?_
    show oS p e below s₁ m 1 #[.val (.int pI1), .val (.int pI2), .unset, .unset, .unset, .unset, .unset] [(.int pI1)] _
    refine XS.iconst X0.here hx rfl (hb hby at_1) ?_
    show oS p e below s₁ m 2 #[.val (.int pI1), .val (.int pI2), .unset, .unset, .unset, .unset, .unset] [(.int (3 : Int32)), (.int pI1)] _
    refine XS.iand X0.here hx rfl (hb hby at_2) rfl ?_
    show Steps p.tables e below (s₁.setTop (mkF m 3 #[.val (.int pI1), .val (.int pI2), .unset, .unset, .unset, .unset, .unset] [(.int (pI1 &&& (3 : Int32)))])) _
    rw [hc2]
    show oS p e below s₁ m 3 #[.val (.int pI1), .val (.int pI2), .unset, .unset, .unset, .unset, .unset] [(.int (3 : Int32))] _
    refine XS.istoreN X0.here hx rfl (hb hby at_3) rfl (l' := #[.val (.int pI1), .val (.int pI2), .val (.int (3 : Int32)), .unset, .unset, .unset, .unset]) rfl ?_
    show oS p e below s₁ m 4 #[.val (.int pI1), .val (.int pI2), .val (.int (3 : Int32)), .unset, .unset, .unset, .unset] [] _
    refine XS.iloadN X0.here hx rfl (hb hby at_4) rfl ?_
    show oS p e below s₁ m 5 #[.val (.int pI1), .val (.int pI2), .val (.int (3 : Int32)), .unset, .unset, .unset, .unset] [(.int pI2)] _
    refine X0.ldcInt hx hown (mvT hZ (ow hw 0 rfl)) (g := (mkF m 5 #[.val (.int pI1), .val (.int pI2), .val (.int (3 : Int32)), .unset, .unset, .unset, .unset] [(.int pI2)])) rfl (hb hby at_5) _ ?_
    show oS p e below s₁ m 7 #[.val (.int pI1), .val (.int pI2), .val (.int (3 : Int32)), .unset, .unset, .unset, .unset] [(.int (2147483647 : Int32)), (.int pI2)] _
    refine XS.iand X0.here hx rfl (hb hby at_7) rfl ?_
    show oS p e below s₁ m 8 #[.val (.int pI1), .val (.int pI2), .val (.int (3 : Int32)), .unset, .unset, .unset, .unset] [(.int (pI2 &&& (2147483647 : Int32)))] _
    refine XS.bipush X0.here hx rfl (hb hby at_8) ?_
    show oS p e below s₁ m 10 #[.val (.int pI1), .val (.int pI2), .val (.int (3 : Int32)), .unset, .unset, .unset, .unset] [(.int (6 : Int32)), (.int (pI2 &&& (2147483647 : Int32)))] _
    refine iremM (g := (mkF m 10 #[.val (.int pI1), .val (.int pI2), .val (.int (3 : Int32)), .unset, .unset, .unset, .unset] [(.int (6 : Int32)), (.int (pI2 &&& (2147483647 : Int32)))])) X0 hx rfl (hb hby at_10) rfl (by decide) ?_
    show Steps p.tables e below (s₁.setTop (mkF m 11 #[.val (.int pI1), .val (.int pI2), .val (.int (3 : Int32)), .unset, .unset, .unset, .unset] [(.int ((pI2 &&& (2147483647 : Int32)) % (6 : Int32)))])) _
    rw [hc10]
    show oS p e below s₁ m 11 #[.val (.int pI1), .val (.int pI2), .val (.int (3 : Int32)), .unset, .unset, .unset, .unset] [(.int (1 : Int32))] _
    refine XS.istoreN X0.here hx rfl (hb hby at_11) rfl (l' := #[.val (.int pI1), .val (.int pI2), .val (.int (3 : Int32)), .val (.int (1 : Int32)), .unset, .unset, .unset]) rfl ?_
    show oS p e below s₁ m 12 #[.val (.int pI1), .val (.int pI2), .val (.int (3 : Int32)), .val (.int (1 : Int32)), .unset, .unset, .unset] [] _
    refine XS.iloadN X0.here hx rfl (hb hby at_12) rfl ?_
    show oS p e below s₁ m 13 #[.val (.int pI1), .val (.int pI2), .val (.int (3 : Int32)), .val (.int (1 : Int32)), .unset, .unset, .unset] [(.int (3 : Int32))] _
    refine st4 _ ?_
    show oS p e below T4 m 16 #[.val (.int pI1), .val (.int pI2), .val (.int (3 : Int32)), .val (.int (1 : Int32)), .unset, .unset, .unset] [(.ref pR3)] _
    refine XS.astore X4.here hx rfl (hb hby at_16) rfl rfl (l' := #[.val (.int pI1), .val (.int pI2), .val (.int (3 : Int32)), .val (.int (1 : Int32)), .val (.ref pR3), .unset, .unset]) rfl ?_
    show oS p e below T4 m 18 #[.val (.int pI1), .val (.int pI2), .val (.int (3 : Int32)), .val (.int (1 : Int32)), .val (.ref pR3), .unset, .unset] [] _
    refine XS.iloadN X4.here hx rfl (hb hby at_18) rfl ?_
    show oS p e below T4 m 19 #[.val (.int pI1), .val (.int pI2), .val (.int (3 : Int32)), .val (.int (1 : Int32)), .val (.ref pR3), .unset, .unset] [(.int (1 : Int32))] _
    refine st6 _ ?_
    show oS p e below T6 m 22 #[.val (.int pI1), .val (.int pI2), .val (.int (3 : Int32)), .val (.int (1 : Int32)), .val (.ref pR3), .unset, .unset] [(.ref pR5)] _
    refine XS.astore X6.here hx rfl (hb hby at_22) rfl rfl (l' := #[.val (.int pI1), .val (.int pI2), .val (.int (3 : Int32)), .val (.int (1 : Int32)), .val (.ref pR3), .val (.ref pR5), .unset]) rfl ?_
    show oS p e below T6 m 24 #[.val (.int pI1), .val (.int pI2), .val (.int (3 : Int32)), .val (.int (1 : Int32)), .val (.ref pR3), .val (.ref pR5), .unset] [] _
    refine XS.iloadN X6.here hx rfl (hb hby at_24) rfl ?_
    show oS p e below T6 m 25 #[.val (.int pI1), .val (.int pI2), .val (.int (3 : Int32)), .val (.int (1 : Int32)), .val (.ref pR3), .val (.ref pR5), .unset] [(.int (1 : Int32))] _
    refine XS.iloadN X6.here hx rfl (hb hby at_25) rfl ?_
    show oS p e below T6 m 26 #[.val (.int pI1), .val (.int pI2), .val (.int (3 : Int32)), .val (.int (1 : Int32)), .val (.ref pR3), .val (.ref pR5), .unset] [(.int (3 : Int32)), (.int (1 : Int32))] _
    refine st7 _ ?_
    show oS p e below T7 m 29 #[.val (.int pI1), .val (.int pI2), .val (.int (3 : Int32)), .val (.int (1 : Int32)), .val (.ref pR3), .val (.ref pR5), .unset] [(.int (3 : Int32)), (.int (1 : Int32))] _
    refine XS.icmpYes X7.here hx rfl (pc0 := 29) (pc' := 36) rfl (hb hby at_29) rfl (tlt (by decide : (1 : Int32) < (3 : Int32))).1 (by decide) (by decide) ?_
    show oS p e below T7 m 36 #[.val (.int pI1), .val (.int pI2), .val (.int (3 : Int32)), .val (.int (1 : Int32)), .val (.ref pR3), .val (.ref pR5), .unset] [] _
    refine XS.iconst X7.here hx rfl (hb hby at_36) ?_
    show oS p e below T7 m 37 #[.val (.int pI1), .val (.int pI2), .val (.int (3 : Int32)), .val (.int (1 : Int32)), .val (.ref pR3), .val (.ref pR5), .unset] [(.int (0 : Int32))] _
    refine XS.istore X7.here hx rfl (hb hby at_37) rfl (l' := #[.val (.int pI1), .val (.int pI2), .val (.int (3 : Int32)), .val (.int (1 : Int32)), .val (.ref pR3), .val (.ref pR5), .val (.int (0 : Int32))]) rfl ?_
    show oS p e below T7 m 39 #[.val (.int pI1), .val (.int pI2), .val (.int (3 : Int32)), .val (.int (1 : Int32)), .val (.ref pR3), .val (.ref pR5), .val (.int (0 : Int32))] [] _
    refine XS.aload X7.here hx rfl (hb hby at_39) rfl rfl ?_
    show oS p e below T7 m 41 #[.val (.int pI1), .val (.int pI2), .val (.int (3 : Int32)), .val (.int (1 : Int32)), .val (.ref pR3), .val (.ref pR5), .val (.int (0 : Int32))] [(.ref pR3)] _
    refine XS.aload X7.here hx rfl (hb hby at_41) rfl rfl ?_
    show oS p e below T7 m 43 #[.val (.int pI1), .val (.int pI2), .val (.int (3 : Int32)), .val (.int (1 : Int32)), .val (.ref pR3), .val (.ref pR5), .val (.int (0 : Int32))] [(.ref pR5), (.ref pR3)] _
    refine st11.trans ?_
    show oS p e below T11 m 46 #[.val (.int pI1), .val (.int pI2), .val (.int (3 : Int32)), .val (.int (1 : Int32)), .val (.ref pR3), .val (.ref pR5), .val (.int (0 : Int32))] [(.int (0 : Int32))] _
    refine XS.iload X11.here hx rfl (hb hby at_46) rfl ?_
    show oS p e below T11 m 48 #[.val (.int pI1), .val (.int pI2), .val (.int (3 : Int32)), .val (.int (1 : Int32)), .val (.ref pR3), .val (.ref pR5), .val (.int (0 : Int32))] [(.int (0 : Int32)), (.int (0 : Int32))] _
    refine XS.icmpNo X11.here hx rfl (hb hby at_48) rfl (teq (by decide : (0 : Int32) = (0 : Int32))).2 ?_
    show oS p e below T11 m 51 #[.val (.int pI1), .val (.int pI2), .val (.int (3 : Int32)), .val (.int (1 : Int32)), .val (.ref pR3), .val (.ref pR5), .val (.int (0 : Int32))] [] _
    refine XS.iconst X11.here hx rfl (hb hby at_51) ?_
    show oS p e below T11 m 52 #[.val (.int pI1), .val (.int pI2), .val (.int (3 : Int32)), .val (.int (1 : Int32)), .val (.ref pR3), .val (.ref pR5), .val (.int (0 : Int32))] [(.int (1 : Int32))] _
    refine XS.goto X11.here hx rfl (pc0 := 52) (pc' := 56) rfl (hb hby at_52) (by decide) (by decide) ?_
    show oS p e below T11 m 56 #[.val (.int pI1), .val (.int pI2), .val (.int (3 : Int32)), .val (.int (1 : Int32)), .val (.ref pR3), .val (.ref pR5), .val (.int (0 : Int32))] [(.int (1 : Int32))] _
    exact retN X11 hx (t := .boolean) Bd.returns (by simp) (hb hby at_56) hr
  · show Qlaw3_1 Z pI1 pI2 pR3 pR5 pI8 pR9 pI10 h0 n0 _ T11.heap _
    rw [e11]
    exact ⟨rfl, N11⟩
theorem ef_law3_2 (m : MethodId) (pI1 : Int32) (pI2 : Int32) : entryFrame m #[(.int pI1), (.int pI2)] maxLocals = mkF m 0 #[.val (.int pI1), .val (.int pI2), .unset, .unset, .unset, .unset, .unset] [] := by first | (simp [entryFrame, mkF, argsToLocals, Value.category, maxLocals]; done) | rfl
def Qlaw3_2 (Z : State) (pI1 : Int32) (pI2 : Int32) (pR3 : Addr) (pR5 : Addr) (pI8 : Int32) (pR9 : Addr) (pI10 : Int32) (h0 : Heap) (n0 : Nat) (v : Option Value) (h : Heap) (L : List Loc) : Prop := v = some (.int (1 : Int32)) ∧ Fr n0 L
set_option maxRecDepth 65536 in
set_option maxHeartbeats 40000000 in
theorem law3_2 (l : Launch) (Z : State) (a0 : Array Value) (hw : ∀ d ∈ tables_1, d.before a0 Z = true) (ws : List Jvm.Cond) (pI1 : Int32) (pI2 : Int32) (pR3 : Addr) (pR5 : Addr) (pI8 : Int32) (pR9 : Addr) (pI10 : Int32) (h0 : Heap) (n0 : Nat) (Z0 : n0 ≤ h0.size) (S_DocumentView_PAYMENTS : Sta Z h0 "com/example/willenhall/willenhall/external/DocumentView" "PAYMENTS" "Lcom/example/willenhall/willenhall/external/DocumentView;" (.ref pR3)) (S_ExternalRole_ORDERS_WITH_PRICES : Sta Z h0 "com/example/willenhall/willenhall/external/ExternalRole" "ORDERS_WITH_PRICES" "Lcom/example/willenhall/willenhall/external/ExternalRole;" (.ref pR5)) (F_ordinal_pR5 : Fld Z h0 pR5 "java/lang/Enum" "ordinal" "I" (.int pI8)) (E_pR5 : Exa Z h0 pR5 "com/example/willenhall/willenhall/external/ExternalRole") (F_lowestRole_pR3 : Fld Z h0 pR3 "com/example/willenhall/willenhall/external/DocumentView" "lowestRole" "Lcom/example/willenhall/willenhall/external/ExternalRole;" (.ref pR9)) (F_ordinal_pR9 : Fld Z h0 pR9 "java/lang/Enum" "ordinal" "I" (.int pI10)) (E_pR9 : Exa Z h0 pR9 "com/example/willenhall/willenhall/external/ExternalRole") (E_pR3 : Exa Z h0 pR3 "com/example/willenhall/willenhall/external/DocumentView") (hc2 : (pI1 &&& (3 : Int32)) = (3 : Int32)) (hc10 : ((pI2 &&& (2147483647 : Int32)) % (6 : Int32)) = (2 : Int32)) (hc43 : pI8 < pI10) :
    MetFree l x (head1 (Jvm.Cond.code x code maxLocals ret :: ws) room_1) (fun a U => a = #[(.int pI1), (.int pI2)] ∧ Z.Warmed39 U.vm ∧ U.heap = h0) (fun _ _ _ _ _ => True) (fun _ U o U' => ∃ v L, o = .returned v ∧ Qlaw3_2 Z pI1 pI2 pR3 pR5 pI8 pR9 pI10 h0 n0 v U'.heap L ∧ FrameEnd U o U' L room_1.cells room_1.slots) := by
  refine MetFree.of_bodySF (plainFor_of_name pn_0) hisR ?_
  intro p e s m args below meth c s₁ Bd hml0 hP hK
  obtain ⟨rfl, hZ, hh⟩ := hP
  have hx := Bd.exec
  have hby := Bd.bytes
  have hml : c.maxLocals = 7 := hml0
  have hown : s.vm.findClass "com/example/willenhall/willenhall/external/DocumentViewIsReachedByPinLaw" = some m.cls := findClass_of_methodNamed Bd.named
  have hnm := (name_of_methodNamed Bd.named Bd.method).1
  have X0 : Stand p l e room_1 s m #[(.int pI1), (.int pI2)] below meth c s₁ [] 0 0 := Stand.of_body Bd
  have e0 : s₁.heap = h0 := by rw [← hh, Bd.state]; rfl
  have N0 := Fr.nil n0
  have pre0 : ∀ t, Steps p.tables e below (s₁.setTop (mkF m 0 #[.val (.int pI1), .val (.int pI2), .unset, .unset, .unset, .unset, .unset] [])) t → Steps p.tables e below (s₁.setTop (entryFrame m #[(.int pI1), (.int pI2)] maxLocals)) t := fun t k => castTop (ef_law3_2 m pI1 pI2) k
  obtain ⟨_, _, ⟨T4, L4, k4, n4⟩, -, X4, ⟨Lc4, hQ4, l4, y4, z4⟩, st4⟩ := Jvm.LawKit.callS X0 hx (y := yN0) hown (mvT hZ (ow hw 1 rfl)) (mvT hZ (ow hw 2 rfl)) (mvT hZ (ow hw 3 rfl)) (mvT hZ (ow hw 4 rfl)) (by decide) (backOf (W := 0) (view3 l Z a0 hw [] pR3 h0 n0 Z0 S_DocumentView_PAYMENTS) hZ (ow hw 4 rfl) (ow hw 3 rfl) (by decide) (by decide)) (g := (mkF m 13 #[.val (.int pI1), .val (.int pI2), .val (.int (3 : Int32)), .val (.int (2 : Int32)), .unset, .unset, .unset] [(.int (3 : Int32))])) rfl (by rw [hml]; rfl) (argsL := [(.int (3 : Int32))]) (rest := []) (lenOf pd_1 rfl) rfl (by show 2 * 0 + _ ≤ _; exact Nat.le_of_eq rfl) (hb hby at_13) (fun _ _ => ⟨rfl, e0, (by decide : 0 + 0 ≤ _), (by decide : 0 + 0 ≤ _)⟩)
  dsimp only [Pt.U, Pt.locs, Pt.cells, Pt.slots] at X4 l4 y4 z4 st4 hQ4
  subst l4 y4 z4
  obtain ⟨rfl, Nq4, e4⟩ := hQ4
  have N4 := Fr.app N0 Nq4
  obtain ⟨_, _, ⟨T6, L6, k6, n6⟩, -, X6, ⟨Lc6, hQ6, l6, y6, z6⟩, st6⟩ := Jvm.LawKit.callS X4 hx (y := yN1) hown (mvT hZ (ow hw 8 rfl)) (mvT hZ (ow hw 9 rfl)) (mvT hZ (ow hw 3 rfl)) (mvT hZ (ow hw 10 rfl)) (by decide) (backOf (W := 0) (role2 l Z a0 hw [] pR5 h0 n0 Z0 S_ExternalRole_ORDERS_WITH_PRICES) hZ (ow hw 10 rfl) (ow hw 3 rfl) (by decide) (by decide)) (g := (mkF m 19 #[.val (.int pI1), .val (.int pI2), .val (.int (3 : Int32)), .val (.int (2 : Int32)), .val (.ref pR3), .unset, .unset] [(.int (2 : Int32))])) rfl (by rw [hml]; rfl) (argsL := [(.int (2 : Int32))]) (rest := []) (lenOf pd_2 rfl) rfl (by show 2 * 0 + _ ≤ _; exact Nat.le_of_eq rfl) (hb hby at_19) (fun _ _ => ⟨rfl, e4, (by decide : 0 + 0 ≤ _), (by decide : 0 + 0 ≤ _)⟩)
  dsimp only [Pt.U, Pt.locs, Pt.cells, Pt.slots] at X6 l6 y6 z6 st6 hQ6
  subst l6 y6 z6
  obtain ⟨rfl, Nq6, e6⟩ := hQ6
  have N6 := Fr.app N4 Nq6
  obtain ⟨_, _, ⟨T7, L7, k7, n7⟩, -, X7, ⟨Lc7, hQ7, l7, y7, z7⟩, st7⟩ := Jvm.LawKit.callS X6 hx (y := yN2) hown (mvT hZ (ow hw 14 rfl)) (mvT hZ (ow hw 15 rfl)) (mvT hZ (ow hw 3 rfl)) (mvT hZ (ow hw 16 rfl)) (by decide) (backOf (W := 1) (lowest3 l Z a0 hw []  h0 n0 Z0 ) hZ (ow hw 16 rfl) (ow hw 3 rfl) (by decide) (by decide)) (g := (mkF m 26 #[.val (.int pI1), .val (.int pI2), .val (.int (3 : Int32)), .val (.int (2 : Int32)), .val (.ref pR3), .val (.ref pR5), .unset] [(.int (3 : Int32)), (.int (2 : Int32))])) rfl (by rw [hml]; rfl) (argsL := [(.int (3 : Int32))]) (rest := [(.int (2 : Int32))]) (lenOf pd_3 rfl) rfl (by show 2 * 0 + _ ≤ _; exact Nat.le_of_eq rfl) (hb hby at_26) (fun _ _ => ⟨rfl, e6, (by decide : 0 + 0 ≤ _), (by decide : 0 + 0 ≤ _)⟩)
  dsimp only [Pt.U, Pt.locs, Pt.cells, Pt.slots] at X7 l7 y7 z7 st7 hQ7
  subst l7 y7 z7
  obtain ⟨rfl, Nq7, e7⟩ := hQ7
  have N7 := Fr.app N6 Nq7
  obtain ⟨cq11, kq11, q11a, q11b, q11c⟩ := isOf hZ e7 E_pR3
  obtain ⟨_, _, ⟨T11, L11, k11, n11⟩, -, X11, ⟨Lc11, hQ11, l11, y11, z11⟩, st11⟩ := X7.virtualBack hx (y := yN6) (z := yN6) hown (mvT hZ (ow hw 17 rfl)) (mvT hZ (ow hw 18 rfl)) (notFace_of_selects (args := #[]) (mvT hZ (ow hw 20 rfl))) (mvT hZ (ow hw 20 rfl)) (mvT hZ (ow hw 19 rfl)) (by decide) (backOf (W := 0) (irbN l Z a0 hw [] pR3 pR5 pI8 pR9 pI10 h0 n0 Z0 F_ordinal_pR5 E_pR5 F_lowestRole_pR3 F_ordinal_pR9 E_pR9 hc43) hZ (ow hw 21 rfl) (ow hw 6 rfl) (by decide) (by decide)) q11a q11c (g := (mkF m 43 #[.val (.int pI1), .val (.int pI2), .val (.int (3 : Int32)), .val (.int (2 : Int32)), .val (.ref pR3), .val (.ref pR5), .val (.int (0 : Int32))] [(.ref pR5), (.ref pR3)])) rfl (by rw [hml]; rfl) (Steps.refl _) (argsL := [(.ref pR5)]) (rest := []) (lenOf pd_4 rfl) rfl (by show 2 * 0 + _ ≤ _; exact Nat.le_of_eq rfl) (hb hby at_43) (fun _ _ => ⟨rfl, e7, (by decide : 0 + 0 ≤ _), (by decide : 0 + 0 ≤ _)⟩)
  dsimp only [Pt.U, Pt.locs, Pt.cells, Pt.slots] at X11 l11 y11 z11 st11 hQ11
  subst l11 y11 z11
  obtain ⟨rfl, Nq11, e11⟩ := hQ11
  have N11 := Fr.app N7 Nq11
  obtain ⟨fs, hr, hrun, hended, hW, hsame⟩ := X11.leave (v := some (.int (1 : Int32))) (fun h => by rw [Bd.returns] at h; cases h)
  refine ⟨_, _, pre0 _ ?_, hrun, hended, _, _, rfl, ?_, ⟨_, rfl⟩, hW, hsame.mono (by decide) (by decide)⟩
  · show oS p e below s₁ m 0 #[.val (.int pI1), .val (.int pI2), .unset, .unset, .unset, .unset, .unset] [] _
    refine XS.iloadN X0.here hx rfl (hb hby at_0) rfl ?_
    show oS p e below s₁ m 1 #[.val (.int pI1), .val (.int pI2), .unset, .unset, .unset, .unset, .unset] [(.int pI1)] _
    refine XS.iconst X0.here hx rfl (hb hby at_1) ?_
    show oS p e below s₁ m 2 #[.val (.int pI1), .val (.int pI2), .unset, .unset, .unset, .unset, .unset] [(.int (3 : Int32)), (.int pI1)] _
    refine XS.iand X0.here hx rfl (hb hby at_2) rfl ?_
    show Steps p.tables e below (s₁.setTop (mkF m 3 #[.val (.int pI1), .val (.int pI2), .unset, .unset, .unset, .unset, .unset] [(.int (pI1 &&& (3 : Int32)))])) _
    rw [hc2]
    show oS p e below s₁ m 3 #[.val (.int pI1), .val (.int pI2), .unset, .unset, .unset, .unset, .unset] [(.int (3 : Int32))] _
    refine XS.istoreN X0.here hx rfl (hb hby at_3) rfl (l' := #[.val (.int pI1), .val (.int pI2), .val (.int (3 : Int32)), .unset, .unset, .unset, .unset]) rfl ?_
    show oS p e below s₁ m 4 #[.val (.int pI1), .val (.int pI2), .val (.int (3 : Int32)), .unset, .unset, .unset, .unset] [] _
    refine XS.iloadN X0.here hx rfl (hb hby at_4) rfl ?_
    show oS p e below s₁ m 5 #[.val (.int pI1), .val (.int pI2), .val (.int (3 : Int32)), .unset, .unset, .unset, .unset] [(.int pI2)] _
    refine X0.ldcInt hx hown (mvT hZ (ow hw 0 rfl)) (g := (mkF m 5 #[.val (.int pI1), .val (.int pI2), .val (.int (3 : Int32)), .unset, .unset, .unset, .unset] [(.int pI2)])) rfl (hb hby at_5) _ ?_
    show oS p e below s₁ m 7 #[.val (.int pI1), .val (.int pI2), .val (.int (3 : Int32)), .unset, .unset, .unset, .unset] [(.int (2147483647 : Int32)), (.int pI2)] _
    refine XS.iand X0.here hx rfl (hb hby at_7) rfl ?_
    show oS p e below s₁ m 8 #[.val (.int pI1), .val (.int pI2), .val (.int (3 : Int32)), .unset, .unset, .unset, .unset] [(.int (pI2 &&& (2147483647 : Int32)))] _
    refine XS.bipush X0.here hx rfl (hb hby at_8) ?_
    show oS p e below s₁ m 10 #[.val (.int pI1), .val (.int pI2), .val (.int (3 : Int32)), .unset, .unset, .unset, .unset] [(.int (6 : Int32)), (.int (pI2 &&& (2147483647 : Int32)))] _
    refine iremM (g := (mkF m 10 #[.val (.int pI1), .val (.int pI2), .val (.int (3 : Int32)), .unset, .unset, .unset, .unset] [(.int (6 : Int32)), (.int (pI2 &&& (2147483647 : Int32)))])) X0 hx rfl (hb hby at_10) rfl (by decide) ?_
    show Steps p.tables e below (s₁.setTop (mkF m 11 #[.val (.int pI1), .val (.int pI2), .val (.int (3 : Int32)), .unset, .unset, .unset, .unset] [(.int ((pI2 &&& (2147483647 : Int32)) % (6 : Int32)))])) _
    rw [hc10]
    show oS p e below s₁ m 11 #[.val (.int pI1), .val (.int pI2), .val (.int (3 : Int32)), .unset, .unset, .unset, .unset] [(.int (2 : Int32))] _
    refine XS.istoreN X0.here hx rfl (hb hby at_11) rfl (l' := #[.val (.int pI1), .val (.int pI2), .val (.int (3 : Int32)), .val (.int (2 : Int32)), .unset, .unset, .unset]) rfl ?_
    show oS p e below s₁ m 12 #[.val (.int pI1), .val (.int pI2), .val (.int (3 : Int32)), .val (.int (2 : Int32)), .unset, .unset, .unset] [] _
    refine XS.iloadN X0.here hx rfl (hb hby at_12) rfl ?_
    show oS p e below s₁ m 13 #[.val (.int pI1), .val (.int pI2), .val (.int (3 : Int32)), .val (.int (2 : Int32)), .unset, .unset, .unset] [(.int (3 : Int32))] _
    refine st4 _ ?_
    show oS p e below T4 m 16 #[.val (.int pI1), .val (.int pI2), .val (.int (3 : Int32)), .val (.int (2 : Int32)), .unset, .unset, .unset] [(.ref pR3)] _
    refine XS.astore X4.here hx rfl (hb hby at_16) rfl rfl (l' := #[.val (.int pI1), .val (.int pI2), .val (.int (3 : Int32)), .val (.int (2 : Int32)), .val (.ref pR3), .unset, .unset]) rfl ?_
    show oS p e below T4 m 18 #[.val (.int pI1), .val (.int pI2), .val (.int (3 : Int32)), .val (.int (2 : Int32)), .val (.ref pR3), .unset, .unset] [] _
    refine XS.iloadN X4.here hx rfl (hb hby at_18) rfl ?_
    show oS p e below T4 m 19 #[.val (.int pI1), .val (.int pI2), .val (.int (3 : Int32)), .val (.int (2 : Int32)), .val (.ref pR3), .unset, .unset] [(.int (2 : Int32))] _
    refine st6 _ ?_
    show oS p e below T6 m 22 #[.val (.int pI1), .val (.int pI2), .val (.int (3 : Int32)), .val (.int (2 : Int32)), .val (.ref pR3), .unset, .unset] [(.ref pR5)] _
    refine XS.astore X6.here hx rfl (hb hby at_22) rfl rfl (l' := #[.val (.int pI1), .val (.int pI2), .val (.int (3 : Int32)), .val (.int (2 : Int32)), .val (.ref pR3), .val (.ref pR5), .unset]) rfl ?_
    show oS p e below T6 m 24 #[.val (.int pI1), .val (.int pI2), .val (.int (3 : Int32)), .val (.int (2 : Int32)), .val (.ref pR3), .val (.ref pR5), .unset] [] _
    refine XS.iloadN X6.here hx rfl (hb hby at_24) rfl ?_
    show oS p e below T6 m 25 #[.val (.int pI1), .val (.int pI2), .val (.int (3 : Int32)), .val (.int (2 : Int32)), .val (.ref pR3), .val (.ref pR5), .unset] [(.int (2 : Int32))] _
    refine XS.iloadN X6.here hx rfl (hb hby at_25) rfl ?_
    show oS p e below T6 m 26 #[.val (.int pI1), .val (.int pI2), .val (.int (3 : Int32)), .val (.int (2 : Int32)), .val (.ref pR3), .val (.ref pR5), .unset] [(.int (3 : Int32)), (.int (2 : Int32))] _
    refine st7 _ ?_
    show oS p e below T7 m 29 #[.val (.int pI1), .val (.int pI2), .val (.int (3 : Int32)), .val (.int (2 : Int32)), .val (.ref pR3), .val (.ref pR5), .unset] [(.int (3 : Int32)), (.int (2 : Int32))] _
    refine XS.icmpYes X7.here hx rfl (pc0 := 29) (pc' := 36) rfl (hb hby at_29) rfl (tlt (by decide : (2 : Int32) < (3 : Int32))).1 (by decide) (by decide) ?_
    show oS p e below T7 m 36 #[.val (.int pI1), .val (.int pI2), .val (.int (3 : Int32)), .val (.int (2 : Int32)), .val (.ref pR3), .val (.ref pR5), .unset] [] _
    refine XS.iconst X7.here hx rfl (hb hby at_36) ?_
    show oS p e below T7 m 37 #[.val (.int pI1), .val (.int pI2), .val (.int (3 : Int32)), .val (.int (2 : Int32)), .val (.ref pR3), .val (.ref pR5), .unset] [(.int (0 : Int32))] _
    refine XS.istore X7.here hx rfl (hb hby at_37) rfl (l' := #[.val (.int pI1), .val (.int pI2), .val (.int (3 : Int32)), .val (.int (2 : Int32)), .val (.ref pR3), .val (.ref pR5), .val (.int (0 : Int32))]) rfl ?_
    show oS p e below T7 m 39 #[.val (.int pI1), .val (.int pI2), .val (.int (3 : Int32)), .val (.int (2 : Int32)), .val (.ref pR3), .val (.ref pR5), .val (.int (0 : Int32))] [] _
    refine XS.aload X7.here hx rfl (hb hby at_39) rfl rfl ?_
    show oS p e below T7 m 41 #[.val (.int pI1), .val (.int pI2), .val (.int (3 : Int32)), .val (.int (2 : Int32)), .val (.ref pR3), .val (.ref pR5), .val (.int (0 : Int32))] [(.ref pR3)] _
    refine XS.aload X7.here hx rfl (hb hby at_41) rfl rfl ?_
    show oS p e below T7 m 43 #[.val (.int pI1), .val (.int pI2), .val (.int (3 : Int32)), .val (.int (2 : Int32)), .val (.ref pR3), .val (.ref pR5), .val (.int (0 : Int32))] [(.ref pR5), (.ref pR3)] _
    refine st11.trans ?_
    show oS p e below T11 m 46 #[.val (.int pI1), .val (.int pI2), .val (.int (3 : Int32)), .val (.int (2 : Int32)), .val (.ref pR3), .val (.ref pR5), .val (.int (0 : Int32))] [(.int (0 : Int32))] _
    refine XS.iload X11.here hx rfl (hb hby at_46) rfl ?_
    show oS p e below T11 m 48 #[.val (.int pI1), .val (.int pI2), .val (.int (3 : Int32)), .val (.int (2 : Int32)), .val (.ref pR3), .val (.ref pR5), .val (.int (0 : Int32))] [(.int (0 : Int32)), (.int (0 : Int32))] _
    refine XS.icmpNo X11.here hx rfl (hb hby at_48) rfl (teq (by decide : (0 : Int32) = (0 : Int32))).2 ?_
    show oS p e below T11 m 51 #[.val (.int pI1), .val (.int pI2), .val (.int (3 : Int32)), .val (.int (2 : Int32)), .val (.ref pR3), .val (.ref pR5), .val (.int (0 : Int32))] [] _
    refine XS.iconst X11.here hx rfl (hb hby at_51) ?_
    show oS p e below T11 m 52 #[.val (.int pI1), .val (.int pI2), .val (.int (3 : Int32)), .val (.int (2 : Int32)), .val (.ref pR3), .val (.ref pR5), .val (.int (0 : Int32))] [(.int (1 : Int32))] _
    refine XS.goto X11.here hx rfl (pc0 := 52) (pc' := 56) rfl (hb hby at_52) (by decide) (by decide) ?_
    show oS p e below T11 m 56 #[.val (.int pI1), .val (.int pI2), .val (.int (3 : Int32)), .val (.int (2 : Int32)), .val (.ref pR3), .val (.ref pR5), .val (.int (0 : Int32))] [(.int (1 : Int32))] _
    exact retN X11 hx (t := .boolean) Bd.returns (by simp) (hb hby at_56) hr
  · show Qlaw3_2 Z pI1 pI2 pR3 pR5 pI8 pR9 pI10 h0 n0 _ T11.heap _
    rw [e11]
    exact ⟨rfl, N11⟩
theorem ef_law3_3 (m : MethodId) (pI1 : Int32) (pI2 : Int32) : entryFrame m #[(.int pI1), (.int pI2)] maxLocals = mkF m 0 #[.val (.int pI1), .val (.int pI2), .unset, .unset, .unset, .unset, .unset] [] := by first | (simp [entryFrame, mkF, argsToLocals, Value.category, maxLocals]; done) | rfl
def Qlaw3_3 (Z : State) (pI1 : Int32) (pI2 : Int32) (pR3 : Addr) (pR5 : Addr) (pI8 : Int32) (pR9 : Addr) (pI10 : Int32) (h0 : Heap) (n0 : Nat) (v : Option Value) (h : Heap) (L : List Loc) : Prop := v = some (.int (1 : Int32)) ∧ Fr n0 L
set_option maxRecDepth 65536 in
set_option maxHeartbeats 40000000 in
theorem law3_3 (l : Launch) (Z : State) (a0 : Array Value) (hw : ∀ d ∈ tables_1, d.before a0 Z = true) (ws : List Jvm.Cond) (pI1 : Int32) (pI2 : Int32) (pR3 : Addr) (pR5 : Addr) (pI8 : Int32) (pR9 : Addr) (pI10 : Int32) (h0 : Heap) (n0 : Nat) (Z0 : n0 ≤ h0.size) (S_DocumentView_PAYMENTS : Sta Z h0 "com/example/willenhall/willenhall/external/DocumentView" "PAYMENTS" "Lcom/example/willenhall/willenhall/external/DocumentView;" (.ref pR3)) (S_ExternalRole_BILLING : Sta Z h0 "com/example/willenhall/willenhall/external/ExternalRole" "BILLING" "Lcom/example/willenhall/willenhall/external/ExternalRole;" (.ref pR5)) (F_ordinal_pR5 : Fld Z h0 pR5 "java/lang/Enum" "ordinal" "I" (.int pI8)) (E_pR5 : Exa Z h0 pR5 "com/example/willenhall/willenhall/external/ExternalRole") (F_lowestRole_pR3 : Fld Z h0 pR3 "com/example/willenhall/willenhall/external/DocumentView" "lowestRole" "Lcom/example/willenhall/willenhall/external/ExternalRole;" (.ref pR9)) (F_ordinal_pR9 : Fld Z h0 pR9 "java/lang/Enum" "ordinal" "I" (.int pI10)) (E_pR9 : Exa Z h0 pR9 "com/example/willenhall/willenhall/external/ExternalRole") (E_pR3 : Exa Z h0 pR3 "com/example/willenhall/willenhall/external/DocumentView") (hc2 : (pI1 &&& (3 : Int32)) = (3 : Int32)) (hc10 : ((pI2 &&& (2147483647 : Int32)) % (6 : Int32)) = (3 : Int32)) (hc43 : ¬ (pI8 < pI10)) :
    MetFree l x (head1 (Jvm.Cond.code x code maxLocals ret :: ws) room_1) (fun a U => a = #[(.int pI1), (.int pI2)] ∧ Z.Warmed39 U.vm ∧ U.heap = h0) (fun _ _ _ _ _ => True) (fun _ U o U' => ∃ v L, o = .returned v ∧ Qlaw3_3 Z pI1 pI2 pR3 pR5 pI8 pR9 pI10 h0 n0 v U'.heap L ∧ FrameEnd U o U' L room_1.cells room_1.slots) := by
  refine MetFree.of_bodySF (plainFor_of_name pn_0) hisR ?_
  intro p e s m args below meth c s₁ Bd hml0 hP hK
  obtain ⟨rfl, hZ, hh⟩ := hP
  have hx := Bd.exec
  have hby := Bd.bytes
  have hml : c.maxLocals = 7 := hml0
  have hown : s.vm.findClass "com/example/willenhall/willenhall/external/DocumentViewIsReachedByPinLaw" = some m.cls := findClass_of_methodNamed Bd.named
  have hnm := (name_of_methodNamed Bd.named Bd.method).1
  have X0 : Stand p l e room_1 s m #[(.int pI1), (.int pI2)] below meth c s₁ [] 0 0 := Stand.of_body Bd
  have e0 : s₁.heap = h0 := by rw [← hh, Bd.state]; rfl
  have N0 := Fr.nil n0
  have pre0 : ∀ t, Steps p.tables e below (s₁.setTop (mkF m 0 #[.val (.int pI1), .val (.int pI2), .unset, .unset, .unset, .unset, .unset] [])) t → Steps p.tables e below (s₁.setTop (entryFrame m #[(.int pI1), (.int pI2)] maxLocals)) t := fun t k => castTop (ef_law3_3 m pI1 pI2) k
  obtain ⟨_, _, ⟨T4, L4, k4, n4⟩, -, X4, ⟨Lc4, hQ4, l4, y4, z4⟩, st4⟩ := Jvm.LawKit.callS X0 hx (y := yN0) hown (mvT hZ (ow hw 1 rfl)) (mvT hZ (ow hw 2 rfl)) (mvT hZ (ow hw 3 rfl)) (mvT hZ (ow hw 4 rfl)) (by decide) (backOf (W := 0) (view3 l Z a0 hw [] pR3 h0 n0 Z0 S_DocumentView_PAYMENTS) hZ (ow hw 4 rfl) (ow hw 3 rfl) (by decide) (by decide)) (g := (mkF m 13 #[.val (.int pI1), .val (.int pI2), .val (.int (3 : Int32)), .val (.int (3 : Int32)), .unset, .unset, .unset] [(.int (3 : Int32))])) rfl (by rw [hml]; rfl) (argsL := [(.int (3 : Int32))]) (rest := []) (lenOf pd_1 rfl) rfl (by show 2 * 0 + _ ≤ _; exact Nat.le_of_eq rfl) (hb hby at_13) (fun _ _ => ⟨rfl, e0, (by decide : 0 + 0 ≤ _), (by decide : 0 + 0 ≤ _)⟩)
  dsimp only [Pt.U, Pt.locs, Pt.cells, Pt.slots] at X4 l4 y4 z4 st4 hQ4
  subst l4 y4 z4
  obtain ⟨rfl, Nq4, e4⟩ := hQ4
  have N4 := Fr.app N0 Nq4
  obtain ⟨_, _, ⟨T6, L6, k6, n6⟩, -, X6, ⟨Lc6, hQ6, l6, y6, z6⟩, st6⟩ := Jvm.LawKit.callS X4 hx (y := yN1) hown (mvT hZ (ow hw 8 rfl)) (mvT hZ (ow hw 9 rfl)) (mvT hZ (ow hw 3 rfl)) (mvT hZ (ow hw 10 rfl)) (by decide) (backOf (W := 0) (role3 l Z a0 hw [] pR5 h0 n0 Z0 S_ExternalRole_BILLING) hZ (ow hw 10 rfl) (ow hw 3 rfl) (by decide) (by decide)) (g := (mkF m 19 #[.val (.int pI1), .val (.int pI2), .val (.int (3 : Int32)), .val (.int (3 : Int32)), .val (.ref pR3), .unset, .unset] [(.int (3 : Int32))])) rfl (by rw [hml]; rfl) (argsL := [(.int (3 : Int32))]) (rest := []) (lenOf pd_2 rfl) rfl (by show 2 * 0 + _ ≤ _; exact Nat.le_of_eq rfl) (hb hby at_19) (fun _ _ => ⟨rfl, e4, (by decide : 0 + 0 ≤ _), (by decide : 0 + 0 ≤ _)⟩)
  dsimp only [Pt.U, Pt.locs, Pt.cells, Pt.slots] at X6 l6 y6 z6 st6 hQ6
  subst l6 y6 z6
  obtain ⟨rfl, Nq6, e6⟩ := hQ6
  have N6 := Fr.app N4 Nq6
  obtain ⟨_, _, ⟨T7, L7, k7, n7⟩, -, X7, ⟨Lc7, hQ7, l7, y7, z7⟩, st7⟩ := Jvm.LawKit.callS X6 hx (y := yN2) hown (mvT hZ (ow hw 14 rfl)) (mvT hZ (ow hw 15 rfl)) (mvT hZ (ow hw 3 rfl)) (mvT hZ (ow hw 16 rfl)) (by decide) (backOf (W := 1) (lowest3 l Z a0 hw []  h0 n0 Z0 ) hZ (ow hw 16 rfl) (ow hw 3 rfl) (by decide) (by decide)) (g := (mkF m 26 #[.val (.int pI1), .val (.int pI2), .val (.int (3 : Int32)), .val (.int (3 : Int32)), .val (.ref pR3), .val (.ref pR5), .unset] [(.int (3 : Int32)), (.int (3 : Int32))])) rfl (by rw [hml]; rfl) (argsL := [(.int (3 : Int32))]) (rest := [(.int (3 : Int32))]) (lenOf pd_3 rfl) rfl (by show 2 * 0 + _ ≤ _; exact Nat.le_of_eq rfl) (hb hby at_26) (fun _ _ => ⟨rfl, e6, (by decide : 0 + 0 ≤ _), (by decide : 0 + 0 ≤ _)⟩)
  dsimp only [Pt.U, Pt.locs, Pt.cells, Pt.slots] at X7 l7 y7 z7 st7 hQ7
  subst l7 y7 z7
  obtain ⟨rfl, Nq7, e7⟩ := hQ7
  have N7 := Fr.app N6 Nq7
  obtain ⟨cq11, kq11, q11a, q11b, q11c⟩ := isOf hZ e7 E_pR3
  obtain ⟨_, _, ⟨T11, L11, k11, n11⟩, -, X11, ⟨Lc11, hQ11, l11, y11, z11⟩, st11⟩ := X7.virtualBack hx (y := yN6) (z := yN6) hown (mvT hZ (ow hw 17 rfl)) (mvT hZ (ow hw 18 rfl)) (notFace_of_selects (args := #[]) (mvT hZ (ow hw 20 rfl))) (mvT hZ (ow hw 20 rfl)) (mvT hZ (ow hw 19 rfl)) (by decide) (backOf (W := 0) (irbY l Z a0 hw [] pR3 pR5 pI8 pR9 pI10 h0 n0 Z0 F_ordinal_pR5 E_pR5 F_lowestRole_pR3 F_ordinal_pR9 E_pR9 hc43) hZ (ow hw 21 rfl) (ow hw 6 rfl) (by decide) (by decide)) q11a q11c (g := (mkF m 43 #[.val (.int pI1), .val (.int pI2), .val (.int (3 : Int32)), .val (.int (3 : Int32)), .val (.ref pR3), .val (.ref pR5), .val (.int (1 : Int32))] [(.ref pR5), (.ref pR3)])) rfl (by rw [hml]; rfl) (Steps.refl _) (argsL := [(.ref pR5)]) (rest := []) (lenOf pd_4 rfl) rfl (by show 2 * 0 + _ ≤ _; exact Nat.le_of_eq rfl) (hb hby at_43) (fun _ _ => ⟨rfl, e7, (by decide : 0 + 0 ≤ _), (by decide : 0 + 0 ≤ _)⟩)
  dsimp only [Pt.U, Pt.locs, Pt.cells, Pt.slots] at X11 l11 y11 z11 st11 hQ11
  subst l11 y11 z11
  obtain ⟨rfl, Nq11, e11⟩ := hQ11
  have N11 := Fr.app N7 Nq11
  obtain ⟨fs, hr, hrun, hended, hW, hsame⟩ := X11.leave (v := some (.int (1 : Int32))) (fun h => by rw [Bd.returns] at h; cases h)
  refine ⟨_, _, pre0 _ ?_, hrun, hended, _, _, rfl, ?_, ⟨_, rfl⟩, hW, hsame.mono (by decide) (by decide)⟩
  · show oS p e below s₁ m 0 #[.val (.int pI1), .val (.int pI2), .unset, .unset, .unset, .unset, .unset] [] _
    refine XS.iloadN X0.here hx rfl (hb hby at_0) rfl ?_
    show oS p e below s₁ m 1 #[.val (.int pI1), .val (.int pI2), .unset, .unset, .unset, .unset, .unset] [(.int pI1)] _
    refine XS.iconst X0.here hx rfl (hb hby at_1) ?_
    show oS p e below s₁ m 2 #[.val (.int pI1), .val (.int pI2), .unset, .unset, .unset, .unset, .unset] [(.int (3 : Int32)), (.int pI1)] _
    refine XS.iand X0.here hx rfl (hb hby at_2) rfl ?_
    show Steps p.tables e below (s₁.setTop (mkF m 3 #[.val (.int pI1), .val (.int pI2), .unset, .unset, .unset, .unset, .unset] [(.int (pI1 &&& (3 : Int32)))])) _
    rw [hc2]
    show oS p e below s₁ m 3 #[.val (.int pI1), .val (.int pI2), .unset, .unset, .unset, .unset, .unset] [(.int (3 : Int32))] _
    refine XS.istoreN X0.here hx rfl (hb hby at_3) rfl (l' := #[.val (.int pI1), .val (.int pI2), .val (.int (3 : Int32)), .unset, .unset, .unset, .unset]) rfl ?_
    show oS p e below s₁ m 4 #[.val (.int pI1), .val (.int pI2), .val (.int (3 : Int32)), .unset, .unset, .unset, .unset] [] _
    refine XS.iloadN X0.here hx rfl (hb hby at_4) rfl ?_
    show oS p e below s₁ m 5 #[.val (.int pI1), .val (.int pI2), .val (.int (3 : Int32)), .unset, .unset, .unset, .unset] [(.int pI2)] _
    refine X0.ldcInt hx hown (mvT hZ (ow hw 0 rfl)) (g := (mkF m 5 #[.val (.int pI1), .val (.int pI2), .val (.int (3 : Int32)), .unset, .unset, .unset, .unset] [(.int pI2)])) rfl (hb hby at_5) _ ?_
    show oS p e below s₁ m 7 #[.val (.int pI1), .val (.int pI2), .val (.int (3 : Int32)), .unset, .unset, .unset, .unset] [(.int (2147483647 : Int32)), (.int pI2)] _
    refine XS.iand X0.here hx rfl (hb hby at_7) rfl ?_
    show oS p e below s₁ m 8 #[.val (.int pI1), .val (.int pI2), .val (.int (3 : Int32)), .unset, .unset, .unset, .unset] [(.int (pI2 &&& (2147483647 : Int32)))] _
    refine XS.bipush X0.here hx rfl (hb hby at_8) ?_
    show oS p e below s₁ m 10 #[.val (.int pI1), .val (.int pI2), .val (.int (3 : Int32)), .unset, .unset, .unset, .unset] [(.int (6 : Int32)), (.int (pI2 &&& (2147483647 : Int32)))] _
    refine iremM (g := (mkF m 10 #[.val (.int pI1), .val (.int pI2), .val (.int (3 : Int32)), .unset, .unset, .unset, .unset] [(.int (6 : Int32)), (.int (pI2 &&& (2147483647 : Int32)))])) X0 hx rfl (hb hby at_10) rfl (by decide) ?_
    show Steps p.tables e below (s₁.setTop (mkF m 11 #[.val (.int pI1), .val (.int pI2), .val (.int (3 : Int32)), .unset, .unset, .unset, .unset] [(.int ((pI2 &&& (2147483647 : Int32)) % (6 : Int32)))])) _
    rw [hc10]
    show oS p e below s₁ m 11 #[.val (.int pI1), .val (.int pI2), .val (.int (3 : Int32)), .unset, .unset, .unset, .unset] [(.int (3 : Int32))] _
    refine XS.istoreN X0.here hx rfl (hb hby at_11) rfl (l' := #[.val (.int pI1), .val (.int pI2), .val (.int (3 : Int32)), .val (.int (3 : Int32)), .unset, .unset, .unset]) rfl ?_
    show oS p e below s₁ m 12 #[.val (.int pI1), .val (.int pI2), .val (.int (3 : Int32)), .val (.int (3 : Int32)), .unset, .unset, .unset] [] _
    refine XS.iloadN X0.here hx rfl (hb hby at_12) rfl ?_
    show oS p e below s₁ m 13 #[.val (.int pI1), .val (.int pI2), .val (.int (3 : Int32)), .val (.int (3 : Int32)), .unset, .unset, .unset] [(.int (3 : Int32))] _
    refine st4 _ ?_
    show oS p e below T4 m 16 #[.val (.int pI1), .val (.int pI2), .val (.int (3 : Int32)), .val (.int (3 : Int32)), .unset, .unset, .unset] [(.ref pR3)] _
    refine XS.astore X4.here hx rfl (hb hby at_16) rfl rfl (l' := #[.val (.int pI1), .val (.int pI2), .val (.int (3 : Int32)), .val (.int (3 : Int32)), .val (.ref pR3), .unset, .unset]) rfl ?_
    show oS p e below T4 m 18 #[.val (.int pI1), .val (.int pI2), .val (.int (3 : Int32)), .val (.int (3 : Int32)), .val (.ref pR3), .unset, .unset] [] _
    refine XS.iloadN X4.here hx rfl (hb hby at_18) rfl ?_
    show oS p e below T4 m 19 #[.val (.int pI1), .val (.int pI2), .val (.int (3 : Int32)), .val (.int (3 : Int32)), .val (.ref pR3), .unset, .unset] [(.int (3 : Int32))] _
    refine st6 _ ?_
    show oS p e below T6 m 22 #[.val (.int pI1), .val (.int pI2), .val (.int (3 : Int32)), .val (.int (3 : Int32)), .val (.ref pR3), .unset, .unset] [(.ref pR5)] _
    refine XS.astore X6.here hx rfl (hb hby at_22) rfl rfl (l' := #[.val (.int pI1), .val (.int pI2), .val (.int (3 : Int32)), .val (.int (3 : Int32)), .val (.ref pR3), .val (.ref pR5), .unset]) rfl ?_
    show oS p e below T6 m 24 #[.val (.int pI1), .val (.int pI2), .val (.int (3 : Int32)), .val (.int (3 : Int32)), .val (.ref pR3), .val (.ref pR5), .unset] [] _
    refine XS.iloadN X6.here hx rfl (hb hby at_24) rfl ?_
    show oS p e below T6 m 25 #[.val (.int pI1), .val (.int pI2), .val (.int (3 : Int32)), .val (.int (3 : Int32)), .val (.ref pR3), .val (.ref pR5), .unset] [(.int (3 : Int32))] _
    refine XS.iloadN X6.here hx rfl (hb hby at_25) rfl ?_
    show oS p e below T6 m 26 #[.val (.int pI1), .val (.int pI2), .val (.int (3 : Int32)), .val (.int (3 : Int32)), .val (.ref pR3), .val (.ref pR5), .unset] [(.int (3 : Int32)), (.int (3 : Int32))] _
    refine st7 _ ?_
    show oS p e below T7 m 29 #[.val (.int pI1), .val (.int pI2), .val (.int (3 : Int32)), .val (.int (3 : Int32)), .val (.ref pR3), .val (.ref pR5), .unset] [(.int (3 : Int32)), (.int (3 : Int32))] _
    refine XS.icmpNo X7.here hx rfl (hb hby at_29) rfl (flt (by decide : ¬ ((3 : Int32) < (3 : Int32)))).1 ?_
    show oS p e below T7 m 32 #[.val (.int pI1), .val (.int pI2), .val (.int (3 : Int32)), .val (.int (3 : Int32)), .val (.ref pR3), .val (.ref pR5), .unset] [] _
    refine XS.iconst X7.here hx rfl (hb hby at_32) ?_
    show oS p e below T7 m 33 #[.val (.int pI1), .val (.int pI2), .val (.int (3 : Int32)), .val (.int (3 : Int32)), .val (.ref pR3), .val (.ref pR5), .unset] [(.int (1 : Int32))] _
    refine XS.goto X7.here hx rfl (pc0 := 33) (pc' := 37) rfl (hb hby at_33) (by decide) (by decide) ?_
    show oS p e below T7 m 37 #[.val (.int pI1), .val (.int pI2), .val (.int (3 : Int32)), .val (.int (3 : Int32)), .val (.ref pR3), .val (.ref pR5), .unset] [(.int (1 : Int32))] _
    refine XS.istore X7.here hx rfl (hb hby at_37) rfl (l' := #[.val (.int pI1), .val (.int pI2), .val (.int (3 : Int32)), .val (.int (3 : Int32)), .val (.ref pR3), .val (.ref pR5), .val (.int (1 : Int32))]) rfl ?_
    show oS p e below T7 m 39 #[.val (.int pI1), .val (.int pI2), .val (.int (3 : Int32)), .val (.int (3 : Int32)), .val (.ref pR3), .val (.ref pR5), .val (.int (1 : Int32))] [] _
    refine XS.aload X7.here hx rfl (hb hby at_39) rfl rfl ?_
    show oS p e below T7 m 41 #[.val (.int pI1), .val (.int pI2), .val (.int (3 : Int32)), .val (.int (3 : Int32)), .val (.ref pR3), .val (.ref pR5), .val (.int (1 : Int32))] [(.ref pR3)] _
    refine XS.aload X7.here hx rfl (hb hby at_41) rfl rfl ?_
    show oS p e below T7 m 43 #[.val (.int pI1), .val (.int pI2), .val (.int (3 : Int32)), .val (.int (3 : Int32)), .val (.ref pR3), .val (.ref pR5), .val (.int (1 : Int32))] [(.ref pR5), (.ref pR3)] _
    refine st11.trans ?_
    show oS p e below T11 m 46 #[.val (.int pI1), .val (.int pI2), .val (.int (3 : Int32)), .val (.int (3 : Int32)), .val (.ref pR3), .val (.ref pR5), .val (.int (1 : Int32))] [(.int (1 : Int32))] _
    refine XS.iload X11.here hx rfl (hb hby at_46) rfl ?_
    show oS p e below T11 m 48 #[.val (.int pI1), .val (.int pI2), .val (.int (3 : Int32)), .val (.int (3 : Int32)), .val (.ref pR3), .val (.ref pR5), .val (.int (1 : Int32))] [(.int (1 : Int32)), (.int (1 : Int32))] _
    refine XS.icmpNo X11.here hx rfl (hb hby at_48) rfl (teq (by decide : (1 : Int32) = (1 : Int32))).2 ?_
    show oS p e below T11 m 51 #[.val (.int pI1), .val (.int pI2), .val (.int (3 : Int32)), .val (.int (3 : Int32)), .val (.ref pR3), .val (.ref pR5), .val (.int (1 : Int32))] [] _
    refine XS.iconst X11.here hx rfl (hb hby at_51) ?_
    show oS p e below T11 m 52 #[.val (.int pI1), .val (.int pI2), .val (.int (3 : Int32)), .val (.int (3 : Int32)), .val (.ref pR3), .val (.ref pR5), .val (.int (1 : Int32))] [(.int (1 : Int32))] _
    refine XS.goto X11.here hx rfl (pc0 := 52) (pc' := 56) rfl (hb hby at_52) (by decide) (by decide) ?_
    show oS p e below T11 m 56 #[.val (.int pI1), .val (.int pI2), .val (.int (3 : Int32)), .val (.int (3 : Int32)), .val (.ref pR3), .val (.ref pR5), .val (.int (1 : Int32))] [(.int (1 : Int32))] _
    exact retN X11 hx (t := .boolean) Bd.returns (by simp) (hb hby at_56) hr
  · show Qlaw3_3 Z pI1 pI2 pR3 pR5 pI8 pR9 pI10 h0 n0 _ T11.heap _
    rw [e11]
    exact ⟨rfl, N11⟩
theorem ef_law3_4 (m : MethodId) (pI1 : Int32) (pI2 : Int32) : entryFrame m #[(.int pI1), (.int pI2)] maxLocals = mkF m 0 #[.val (.int pI1), .val (.int pI2), .unset, .unset, .unset, .unset, .unset] [] := by first | (simp [entryFrame, mkF, argsToLocals, Value.category, maxLocals]; done) | rfl
def Qlaw3_4 (Z : State) (pI1 : Int32) (pI2 : Int32) (pR3 : Addr) (pR5 : Addr) (pI8 : Int32) (pR9 : Addr) (pI10 : Int32) (h0 : Heap) (n0 : Nat) (v : Option Value) (h : Heap) (L : List Loc) : Prop := v = some (.int (1 : Int32)) ∧ Fr n0 L
set_option maxRecDepth 65536 in
set_option maxHeartbeats 40000000 in
theorem law3_4 (l : Launch) (Z : State) (a0 : Array Value) (hw : ∀ d ∈ tables_1, d.before a0 Z = true) (ws : List Jvm.Cond) (pI1 : Int32) (pI2 : Int32) (pR3 : Addr) (pR5 : Addr) (pI8 : Int32) (pR9 : Addr) (pI10 : Int32) (h0 : Heap) (n0 : Nat) (Z0 : n0 ≤ h0.size) (S_DocumentView_PAYMENTS : Sta Z h0 "com/example/willenhall/willenhall/external/DocumentView" "PAYMENTS" "Lcom/example/willenhall/willenhall/external/DocumentView;" (.ref pR3)) (S_ExternalRole_ADMIN : Sta Z h0 "com/example/willenhall/willenhall/external/ExternalRole" "ADMIN" "Lcom/example/willenhall/willenhall/external/ExternalRole;" (.ref pR5)) (F_ordinal_pR5 : Fld Z h0 pR5 "java/lang/Enum" "ordinal" "I" (.int pI8)) (E_pR5 : Exa Z h0 pR5 "com/example/willenhall/willenhall/external/ExternalRole") (F_lowestRole_pR3 : Fld Z h0 pR3 "com/example/willenhall/willenhall/external/DocumentView" "lowestRole" "Lcom/example/willenhall/willenhall/external/ExternalRole;" (.ref pR9)) (F_ordinal_pR9 : Fld Z h0 pR9 "java/lang/Enum" "ordinal" "I" (.int pI10)) (E_pR9 : Exa Z h0 pR9 "com/example/willenhall/willenhall/external/ExternalRole") (E_pR3 : Exa Z h0 pR3 "com/example/willenhall/willenhall/external/DocumentView") (hc2 : (pI1 &&& (3 : Int32)) = (3 : Int32)) (hc10 : ((pI2 &&& (2147483647 : Int32)) % (6 : Int32)) = (4 : Int32)) (hc43 : ¬ (pI8 < pI10)) :
    MetFree l x (head1 (Jvm.Cond.code x code maxLocals ret :: ws) room_1) (fun a U => a = #[(.int pI1), (.int pI2)] ∧ Z.Warmed39 U.vm ∧ U.heap = h0) (fun _ _ _ _ _ => True) (fun _ U o U' => ∃ v L, o = .returned v ∧ Qlaw3_4 Z pI1 pI2 pR3 pR5 pI8 pR9 pI10 h0 n0 v U'.heap L ∧ FrameEnd U o U' L room_1.cells room_1.slots) := by
  refine MetFree.of_bodySF (plainFor_of_name pn_0) hisR ?_
  intro p e s m args below meth c s₁ Bd hml0 hP hK
  obtain ⟨rfl, hZ, hh⟩ := hP
  have hx := Bd.exec
  have hby := Bd.bytes
  have hml : c.maxLocals = 7 := hml0
  have hown : s.vm.findClass "com/example/willenhall/willenhall/external/DocumentViewIsReachedByPinLaw" = some m.cls := findClass_of_methodNamed Bd.named
  have hnm := (name_of_methodNamed Bd.named Bd.method).1
  have X0 : Stand p l e room_1 s m #[(.int pI1), (.int pI2)] below meth c s₁ [] 0 0 := Stand.of_body Bd
  have e0 : s₁.heap = h0 := by rw [← hh, Bd.state]; rfl
  have N0 := Fr.nil n0
  have pre0 : ∀ t, Steps p.tables e below (s₁.setTop (mkF m 0 #[.val (.int pI1), .val (.int pI2), .unset, .unset, .unset, .unset, .unset] [])) t → Steps p.tables e below (s₁.setTop (entryFrame m #[(.int pI1), (.int pI2)] maxLocals)) t := fun t k => castTop (ef_law3_4 m pI1 pI2) k
  obtain ⟨_, _, ⟨T4, L4, k4, n4⟩, -, X4, ⟨Lc4, hQ4, l4, y4, z4⟩, st4⟩ := Jvm.LawKit.callS X0 hx (y := yN0) hown (mvT hZ (ow hw 1 rfl)) (mvT hZ (ow hw 2 rfl)) (mvT hZ (ow hw 3 rfl)) (mvT hZ (ow hw 4 rfl)) (by decide) (backOf (W := 0) (view3 l Z a0 hw [] pR3 h0 n0 Z0 S_DocumentView_PAYMENTS) hZ (ow hw 4 rfl) (ow hw 3 rfl) (by decide) (by decide)) (g := (mkF m 13 #[.val (.int pI1), .val (.int pI2), .val (.int (3 : Int32)), .val (.int (4 : Int32)), .unset, .unset, .unset] [(.int (3 : Int32))])) rfl (by rw [hml]; rfl) (argsL := [(.int (3 : Int32))]) (rest := []) (lenOf pd_1 rfl) rfl (by show 2 * 0 + _ ≤ _; exact Nat.le_of_eq rfl) (hb hby at_13) (fun _ _ => ⟨rfl, e0, (by decide : 0 + 0 ≤ _), (by decide : 0 + 0 ≤ _)⟩)
  dsimp only [Pt.U, Pt.locs, Pt.cells, Pt.slots] at X4 l4 y4 z4 st4 hQ4
  subst l4 y4 z4
  obtain ⟨rfl, Nq4, e4⟩ := hQ4
  have N4 := Fr.app N0 Nq4
  obtain ⟨_, _, ⟨T6, L6, k6, n6⟩, -, X6, ⟨Lc6, hQ6, l6, y6, z6⟩, st6⟩ := Jvm.LawKit.callS X4 hx (y := yN1) hown (mvT hZ (ow hw 8 rfl)) (mvT hZ (ow hw 9 rfl)) (mvT hZ (ow hw 3 rfl)) (mvT hZ (ow hw 10 rfl)) (by decide) (backOf (W := 0) (role4 l Z a0 hw [] pR5 h0 n0 Z0 S_ExternalRole_ADMIN) hZ (ow hw 10 rfl) (ow hw 3 rfl) (by decide) (by decide)) (g := (mkF m 19 #[.val (.int pI1), .val (.int pI2), .val (.int (3 : Int32)), .val (.int (4 : Int32)), .val (.ref pR3), .unset, .unset] [(.int (4 : Int32))])) rfl (by rw [hml]; rfl) (argsL := [(.int (4 : Int32))]) (rest := []) (lenOf pd_2 rfl) rfl (by show 2 * 0 + _ ≤ _; exact Nat.le_of_eq rfl) (hb hby at_19) (fun _ _ => ⟨rfl, e4, (by decide : 0 + 0 ≤ _), (by decide : 0 + 0 ≤ _)⟩)
  dsimp only [Pt.U, Pt.locs, Pt.cells, Pt.slots] at X6 l6 y6 z6 st6 hQ6
  subst l6 y6 z6
  obtain ⟨rfl, Nq6, e6⟩ := hQ6
  have N6 := Fr.app N4 Nq6
  obtain ⟨_, _, ⟨T7, L7, k7, n7⟩, -, X7, ⟨Lc7, hQ7, l7, y7, z7⟩, st7⟩ := Jvm.LawKit.callS X6 hx (y := yN2) hown (mvT hZ (ow hw 14 rfl)) (mvT hZ (ow hw 15 rfl)) (mvT hZ (ow hw 3 rfl)) (mvT hZ (ow hw 16 rfl)) (by decide) (backOf (W := 1) (lowest3 l Z a0 hw []  h0 n0 Z0 ) hZ (ow hw 16 rfl) (ow hw 3 rfl) (by decide) (by decide)) (g := (mkF m 26 #[.val (.int pI1), .val (.int pI2), .val (.int (3 : Int32)), .val (.int (4 : Int32)), .val (.ref pR3), .val (.ref pR5), .unset] [(.int (3 : Int32)), (.int (4 : Int32))])) rfl (by rw [hml]; rfl) (argsL := [(.int (3 : Int32))]) (rest := [(.int (4 : Int32))]) (lenOf pd_3 rfl) rfl (by show 2 * 0 + _ ≤ _; exact Nat.le_of_eq rfl) (hb hby at_26) (fun _ _ => ⟨rfl, e6, (by decide : 0 + 0 ≤ _), (by decide : 0 + 0 ≤ _)⟩)
  dsimp only [Pt.U, Pt.locs, Pt.cells, Pt.slots] at X7 l7 y7 z7 st7 hQ7
  subst l7 y7 z7
  obtain ⟨rfl, Nq7, e7⟩ := hQ7
  have N7 := Fr.app N6 Nq7
  obtain ⟨cq11, kq11, q11a, q11b, q11c⟩ := isOf hZ e7 E_pR3
  obtain ⟨_, _, ⟨T11, L11, k11, n11⟩, -, X11, ⟨Lc11, hQ11, l11, y11, z11⟩, st11⟩ := X7.virtualBack hx (y := yN6) (z := yN6) hown (mvT hZ (ow hw 17 rfl)) (mvT hZ (ow hw 18 rfl)) (notFace_of_selects (args := #[]) (mvT hZ (ow hw 20 rfl))) (mvT hZ (ow hw 20 rfl)) (mvT hZ (ow hw 19 rfl)) (by decide) (backOf (W := 0) (irbY l Z a0 hw [] pR3 pR5 pI8 pR9 pI10 h0 n0 Z0 F_ordinal_pR5 E_pR5 F_lowestRole_pR3 F_ordinal_pR9 E_pR9 hc43) hZ (ow hw 21 rfl) (ow hw 6 rfl) (by decide) (by decide)) q11a q11c (g := (mkF m 43 #[.val (.int pI1), .val (.int pI2), .val (.int (3 : Int32)), .val (.int (4 : Int32)), .val (.ref pR3), .val (.ref pR5), .val (.int (1 : Int32))] [(.ref pR5), (.ref pR3)])) rfl (by rw [hml]; rfl) (Steps.refl _) (argsL := [(.ref pR5)]) (rest := []) (lenOf pd_4 rfl) rfl (by show 2 * 0 + _ ≤ _; exact Nat.le_of_eq rfl) (hb hby at_43) (fun _ _ => ⟨rfl, e7, (by decide : 0 + 0 ≤ _), (by decide : 0 + 0 ≤ _)⟩)
  dsimp only [Pt.U, Pt.locs, Pt.cells, Pt.slots] at X11 l11 y11 z11 st11 hQ11
  subst l11 y11 z11
  obtain ⟨rfl, Nq11, e11⟩ := hQ11
  have N11 := Fr.app N7 Nq11
  obtain ⟨fs, hr, hrun, hended, hW, hsame⟩ := X11.leave (v := some (.int (1 : Int32))) (fun h => by rw [Bd.returns] at h; cases h)
  refine ⟨_, _, pre0 _ ?_, hrun, hended, _, _, rfl, ?_, ⟨_, rfl⟩, hW, hsame.mono (by decide) (by decide)⟩
  · show oS p e below s₁ m 0 #[.val (.int pI1), .val (.int pI2), .unset, .unset, .unset, .unset, .unset] [] _
    refine XS.iloadN X0.here hx rfl (hb hby at_0) rfl ?_
    show oS p e below s₁ m 1 #[.val (.int pI1), .val (.int pI2), .unset, .unset, .unset, .unset, .unset] [(.int pI1)] _
    refine XS.iconst X0.here hx rfl (hb hby at_1) ?_
    show oS p e below s₁ m 2 #[.val (.int pI1), .val (.int pI2), .unset, .unset, .unset, .unset, .unset] [(.int (3 : Int32)), (.int pI1)] _
    refine XS.iand X0.here hx rfl (hb hby at_2) rfl ?_
    show Steps p.tables e below (s₁.setTop (mkF m 3 #[.val (.int pI1), .val (.int pI2), .unset, .unset, .unset, .unset, .unset] [(.int (pI1 &&& (3 : Int32)))])) _
    rw [hc2]
    show oS p e below s₁ m 3 #[.val (.int pI1), .val (.int pI2), .unset, .unset, .unset, .unset, .unset] [(.int (3 : Int32))] _
    refine XS.istoreN X0.here hx rfl (hb hby at_3) rfl (l' := #[.val (.int pI1), .val (.int pI2), .val (.int (3 : Int32)), .unset, .unset, .unset, .unset]) rfl ?_
    show oS p e below s₁ m 4 #[.val (.int pI1), .val (.int pI2), .val (.int (3 : Int32)), .unset, .unset, .unset, .unset] [] _
    refine XS.iloadN X0.here hx rfl (hb hby at_4) rfl ?_
    show oS p e below s₁ m 5 #[.val (.int pI1), .val (.int pI2), .val (.int (3 : Int32)), .unset, .unset, .unset, .unset] [(.int pI2)] _
    refine X0.ldcInt hx hown (mvT hZ (ow hw 0 rfl)) (g := (mkF m 5 #[.val (.int pI1), .val (.int pI2), .val (.int (3 : Int32)), .unset, .unset, .unset, .unset] [(.int pI2)])) rfl (hb hby at_5) _ ?_
    show oS p e below s₁ m 7 #[.val (.int pI1), .val (.int pI2), .val (.int (3 : Int32)), .unset, .unset, .unset, .unset] [(.int (2147483647 : Int32)), (.int pI2)] _
    refine XS.iand X0.here hx rfl (hb hby at_7) rfl ?_
    show oS p e below s₁ m 8 #[.val (.int pI1), .val (.int pI2), .val (.int (3 : Int32)), .unset, .unset, .unset, .unset] [(.int (pI2 &&& (2147483647 : Int32)))] _
    refine XS.bipush X0.here hx rfl (hb hby at_8) ?_
    show oS p e below s₁ m 10 #[.val (.int pI1), .val (.int pI2), .val (.int (3 : Int32)), .unset, .unset, .unset, .unset] [(.int (6 : Int32)), (.int (pI2 &&& (2147483647 : Int32)))] _
    refine iremM (g := (mkF m 10 #[.val (.int pI1), .val (.int pI2), .val (.int (3 : Int32)), .unset, .unset, .unset, .unset] [(.int (6 : Int32)), (.int (pI2 &&& (2147483647 : Int32)))])) X0 hx rfl (hb hby at_10) rfl (by decide) ?_
    show Steps p.tables e below (s₁.setTop (mkF m 11 #[.val (.int pI1), .val (.int pI2), .val (.int (3 : Int32)), .unset, .unset, .unset, .unset] [(.int ((pI2 &&& (2147483647 : Int32)) % (6 : Int32)))])) _
    rw [hc10]
    show oS p e below s₁ m 11 #[.val (.int pI1), .val (.int pI2), .val (.int (3 : Int32)), .unset, .unset, .unset, .unset] [(.int (4 : Int32))] _
    refine XS.istoreN X0.here hx rfl (hb hby at_11) rfl (l' := #[.val (.int pI1), .val (.int pI2), .val (.int (3 : Int32)), .val (.int (4 : Int32)), .unset, .unset, .unset]) rfl ?_
    show oS p e below s₁ m 12 #[.val (.int pI1), .val (.int pI2), .val (.int (3 : Int32)), .val (.int (4 : Int32)), .unset, .unset, .unset] [] _
    refine XS.iloadN X0.here hx rfl (hb hby at_12) rfl ?_
    show oS p e below s₁ m 13 #[.val (.int pI1), .val (.int pI2), .val (.int (3 : Int32)), .val (.int (4 : Int32)), .unset, .unset, .unset] [(.int (3 : Int32))] _
    refine st4 _ ?_
    show oS p e below T4 m 16 #[.val (.int pI1), .val (.int pI2), .val (.int (3 : Int32)), .val (.int (4 : Int32)), .unset, .unset, .unset] [(.ref pR3)] _
    refine XS.astore X4.here hx rfl (hb hby at_16) rfl rfl (l' := #[.val (.int pI1), .val (.int pI2), .val (.int (3 : Int32)), .val (.int (4 : Int32)), .val (.ref pR3), .unset, .unset]) rfl ?_
    show oS p e below T4 m 18 #[.val (.int pI1), .val (.int pI2), .val (.int (3 : Int32)), .val (.int (4 : Int32)), .val (.ref pR3), .unset, .unset] [] _
    refine XS.iloadN X4.here hx rfl (hb hby at_18) rfl ?_
    show oS p e below T4 m 19 #[.val (.int pI1), .val (.int pI2), .val (.int (3 : Int32)), .val (.int (4 : Int32)), .val (.ref pR3), .unset, .unset] [(.int (4 : Int32))] _
    refine st6 _ ?_
    show oS p e below T6 m 22 #[.val (.int pI1), .val (.int pI2), .val (.int (3 : Int32)), .val (.int (4 : Int32)), .val (.ref pR3), .unset, .unset] [(.ref pR5)] _
    refine XS.astore X6.here hx rfl (hb hby at_22) rfl rfl (l' := #[.val (.int pI1), .val (.int pI2), .val (.int (3 : Int32)), .val (.int (4 : Int32)), .val (.ref pR3), .val (.ref pR5), .unset]) rfl ?_
    show oS p e below T6 m 24 #[.val (.int pI1), .val (.int pI2), .val (.int (3 : Int32)), .val (.int (4 : Int32)), .val (.ref pR3), .val (.ref pR5), .unset] [] _
    refine XS.iloadN X6.here hx rfl (hb hby at_24) rfl ?_
    show oS p e below T6 m 25 #[.val (.int pI1), .val (.int pI2), .val (.int (3 : Int32)), .val (.int (4 : Int32)), .val (.ref pR3), .val (.ref pR5), .unset] [(.int (4 : Int32))] _
    refine XS.iloadN X6.here hx rfl (hb hby at_25) rfl ?_
    show oS p e below T6 m 26 #[.val (.int pI1), .val (.int pI2), .val (.int (3 : Int32)), .val (.int (4 : Int32)), .val (.ref pR3), .val (.ref pR5), .unset] [(.int (3 : Int32)), (.int (4 : Int32))] _
    refine st7 _ ?_
    show oS p e below T7 m 29 #[.val (.int pI1), .val (.int pI2), .val (.int (3 : Int32)), .val (.int (4 : Int32)), .val (.ref pR3), .val (.ref pR5), .unset] [(.int (3 : Int32)), (.int (4 : Int32))] _
    refine XS.icmpNo X7.here hx rfl (hb hby at_29) rfl (flt (by decide : ¬ ((4 : Int32) < (3 : Int32)))).1 ?_
    show oS p e below T7 m 32 #[.val (.int pI1), .val (.int pI2), .val (.int (3 : Int32)), .val (.int (4 : Int32)), .val (.ref pR3), .val (.ref pR5), .unset] [] _
    refine XS.iconst X7.here hx rfl (hb hby at_32) ?_
    show oS p e below T7 m 33 #[.val (.int pI1), .val (.int pI2), .val (.int (3 : Int32)), .val (.int (4 : Int32)), .val (.ref pR3), .val (.ref pR5), .unset] [(.int (1 : Int32))] _
    refine XS.goto X7.here hx rfl (pc0 := 33) (pc' := 37) rfl (hb hby at_33) (by decide) (by decide) ?_
    show oS p e below T7 m 37 #[.val (.int pI1), .val (.int pI2), .val (.int (3 : Int32)), .val (.int (4 : Int32)), .val (.ref pR3), .val (.ref pR5), .unset] [(.int (1 : Int32))] _
    refine XS.istore X7.here hx rfl (hb hby at_37) rfl (l' := #[.val (.int pI1), .val (.int pI2), .val (.int (3 : Int32)), .val (.int (4 : Int32)), .val (.ref pR3), .val (.ref pR5), .val (.int (1 : Int32))]) rfl ?_
    show oS p e below T7 m 39 #[.val (.int pI1), .val (.int pI2), .val (.int (3 : Int32)), .val (.int (4 : Int32)), .val (.ref pR3), .val (.ref pR5), .val (.int (1 : Int32))] [] _
    refine XS.aload X7.here hx rfl (hb hby at_39) rfl rfl ?_
    show oS p e below T7 m 41 #[.val (.int pI1), .val (.int pI2), .val (.int (3 : Int32)), .val (.int (4 : Int32)), .val (.ref pR3), .val (.ref pR5), .val (.int (1 : Int32))] [(.ref pR3)] _
    refine XS.aload X7.here hx rfl (hb hby at_41) rfl rfl ?_
    show oS p e below T7 m 43 #[.val (.int pI1), .val (.int pI2), .val (.int (3 : Int32)), .val (.int (4 : Int32)), .val (.ref pR3), .val (.ref pR5), .val (.int (1 : Int32))] [(.ref pR5), (.ref pR3)] _
    refine st11.trans ?_
    show oS p e below T11 m 46 #[.val (.int pI1), .val (.int pI2), .val (.int (3 : Int32)), .val (.int (4 : Int32)), .val (.ref pR3), .val (.ref pR5), .val (.int (1 : Int32))] [(.int (1 : Int32))] _
    refine XS.iload X11.here hx rfl (hb hby at_46) rfl ?_
    show oS p e below T11 m 48 #[.val (.int pI1), .val (.int pI2), .val (.int (3 : Int32)), .val (.int (4 : Int32)), .val (.ref pR3), .val (.ref pR5), .val (.int (1 : Int32))] [(.int (1 : Int32)), (.int (1 : Int32))] _
    refine XS.icmpNo X11.here hx rfl (hb hby at_48) rfl (teq (by decide : (1 : Int32) = (1 : Int32))).2 ?_
    show oS p e below T11 m 51 #[.val (.int pI1), .val (.int pI2), .val (.int (3 : Int32)), .val (.int (4 : Int32)), .val (.ref pR3), .val (.ref pR5), .val (.int (1 : Int32))] [] _
    refine XS.iconst X11.here hx rfl (hb hby at_51) ?_
    show oS p e below T11 m 52 #[.val (.int pI1), .val (.int pI2), .val (.int (3 : Int32)), .val (.int (4 : Int32)), .val (.ref pR3), .val (.ref pR5), .val (.int (1 : Int32))] [(.int (1 : Int32))] _
    refine XS.goto X11.here hx rfl (pc0 := 52) (pc' := 56) rfl (hb hby at_52) (by decide) (by decide) ?_
    show oS p e below T11 m 56 #[.val (.int pI1), .val (.int pI2), .val (.int (3 : Int32)), .val (.int (4 : Int32)), .val (.ref pR3), .val (.ref pR5), .val (.int (1 : Int32))] [(.int (1 : Int32))] _
    exact retN X11 hx (t := .boolean) Bd.returns (by simp) (hb hby at_56) hr
  · show Qlaw3_4 Z pI1 pI2 pR3 pR5 pI8 pR9 pI10 h0 n0 _ T11.heap _
    rw [e11]
    exact ⟨rfl, N11⟩
theorem ef_law3_5 (m : MethodId) (pI1 : Int32) (pI2 : Int32) : entryFrame m #[(.int pI1), (.int pI2)] maxLocals = mkF m 0 #[.val (.int pI1), .val (.int pI2), .unset, .unset, .unset, .unset, .unset] [] := by first | (simp [entryFrame, mkF, argsToLocals, Value.category, maxLocals]; done) | rfl
def Qlaw3_5 (Z : State) (pI1 : Int32) (pI2 : Int32) (pR3 : Addr) (pR5 : Addr) (pI8 : Int32) (pR9 : Addr) (pI10 : Int32) (h0 : Heap) (n0 : Nat) (v : Option Value) (h : Heap) (L : List Loc) : Prop := v = some (.int (1 : Int32)) ∧ Fr n0 L
set_option maxRecDepth 65536 in
set_option maxHeartbeats 40000000 in
theorem law3_5 (l : Launch) (Z : State) (a0 : Array Value) (hw : ∀ d ∈ tables_1, d.before a0 Z = true) (ws : List Jvm.Cond) (pI1 : Int32) (pI2 : Int32) (pR3 : Addr) (pR5 : Addr) (pI8 : Int32) (pR9 : Addr) (pI10 : Int32) (h0 : Heap) (n0 : Nat) (Z0 : n0 ≤ h0.size) (S_DocumentView_PAYMENTS : Sta Z h0 "com/example/willenhall/willenhall/external/DocumentView" "PAYMENTS" "Lcom/example/willenhall/willenhall/external/DocumentView;" (.ref pR3)) (S_ExternalRole_OWNER : Sta Z h0 "com/example/willenhall/willenhall/external/ExternalRole" "OWNER" "Lcom/example/willenhall/willenhall/external/ExternalRole;" (.ref pR5)) (F_ordinal_pR5 : Fld Z h0 pR5 "java/lang/Enum" "ordinal" "I" (.int pI8)) (E_pR5 : Exa Z h0 pR5 "com/example/willenhall/willenhall/external/ExternalRole") (F_lowestRole_pR3 : Fld Z h0 pR3 "com/example/willenhall/willenhall/external/DocumentView" "lowestRole" "Lcom/example/willenhall/willenhall/external/ExternalRole;" (.ref pR9)) (F_ordinal_pR9 : Fld Z h0 pR9 "java/lang/Enum" "ordinal" "I" (.int pI10)) (E_pR9 : Exa Z h0 pR9 "com/example/willenhall/willenhall/external/ExternalRole") (E_pR3 : Exa Z h0 pR3 "com/example/willenhall/willenhall/external/DocumentView") (hc2 : (pI1 &&& (3 : Int32)) = (3 : Int32)) (hc10 : ((pI2 &&& (2147483647 : Int32)) % (6 : Int32)) = (5 : Int32)) (hc43 : ¬ (pI8 < pI10)) :
    MetFree l x (head1 (Jvm.Cond.code x code maxLocals ret :: ws) room_1) (fun a U => a = #[(.int pI1), (.int pI2)] ∧ Z.Warmed39 U.vm ∧ U.heap = h0) (fun _ _ _ _ _ => True) (fun _ U o U' => ∃ v L, o = .returned v ∧ Qlaw3_5 Z pI1 pI2 pR3 pR5 pI8 pR9 pI10 h0 n0 v U'.heap L ∧ FrameEnd U o U' L room_1.cells room_1.slots) := by
  refine MetFree.of_bodySF (plainFor_of_name pn_0) hisR ?_
  intro p e s m args below meth c s₁ Bd hml0 hP hK
  obtain ⟨rfl, hZ, hh⟩ := hP
  have hx := Bd.exec
  have hby := Bd.bytes
  have hml : c.maxLocals = 7 := hml0
  have hown : s.vm.findClass "com/example/willenhall/willenhall/external/DocumentViewIsReachedByPinLaw" = some m.cls := findClass_of_methodNamed Bd.named
  have hnm := (name_of_methodNamed Bd.named Bd.method).1
  have X0 : Stand p l e room_1 s m #[(.int pI1), (.int pI2)] below meth c s₁ [] 0 0 := Stand.of_body Bd
  have e0 : s₁.heap = h0 := by rw [← hh, Bd.state]; rfl
  have N0 := Fr.nil n0
  have pre0 : ∀ t, Steps p.tables e below (s₁.setTop (mkF m 0 #[.val (.int pI1), .val (.int pI2), .unset, .unset, .unset, .unset, .unset] [])) t → Steps p.tables e below (s₁.setTop (entryFrame m #[(.int pI1), (.int pI2)] maxLocals)) t := fun t k => castTop (ef_law3_5 m pI1 pI2) k
  obtain ⟨_, _, ⟨T4, L4, k4, n4⟩, -, X4, ⟨Lc4, hQ4, l4, y4, z4⟩, st4⟩ := Jvm.LawKit.callS X0 hx (y := yN0) hown (mvT hZ (ow hw 1 rfl)) (mvT hZ (ow hw 2 rfl)) (mvT hZ (ow hw 3 rfl)) (mvT hZ (ow hw 4 rfl)) (by decide) (backOf (W := 0) (view3 l Z a0 hw [] pR3 h0 n0 Z0 S_DocumentView_PAYMENTS) hZ (ow hw 4 rfl) (ow hw 3 rfl) (by decide) (by decide)) (g := (mkF m 13 #[.val (.int pI1), .val (.int pI2), .val (.int (3 : Int32)), .val (.int (5 : Int32)), .unset, .unset, .unset] [(.int (3 : Int32))])) rfl (by rw [hml]; rfl) (argsL := [(.int (3 : Int32))]) (rest := []) (lenOf pd_1 rfl) rfl (by show 2 * 0 + _ ≤ _; exact Nat.le_of_eq rfl) (hb hby at_13) (fun _ _ => ⟨rfl, e0, (by decide : 0 + 0 ≤ _), (by decide : 0 + 0 ≤ _)⟩)
  dsimp only [Pt.U, Pt.locs, Pt.cells, Pt.slots] at X4 l4 y4 z4 st4 hQ4
  subst l4 y4 z4
  obtain ⟨rfl, Nq4, e4⟩ := hQ4
  have N4 := Fr.app N0 Nq4
  obtain ⟨_, _, ⟨T6, L6, k6, n6⟩, -, X6, ⟨Lc6, hQ6, l6, y6, z6⟩, st6⟩ := Jvm.LawKit.callS X4 hx (y := yN1) hown (mvT hZ (ow hw 8 rfl)) (mvT hZ (ow hw 9 rfl)) (mvT hZ (ow hw 3 rfl)) (mvT hZ (ow hw 10 rfl)) (by decide) (backOf (W := 0) (role5 l Z a0 hw [] pR5 h0 n0 Z0 S_ExternalRole_OWNER) hZ (ow hw 10 rfl) (ow hw 3 rfl) (by decide) (by decide)) (g := (mkF m 19 #[.val (.int pI1), .val (.int pI2), .val (.int (3 : Int32)), .val (.int (5 : Int32)), .val (.ref pR3), .unset, .unset] [(.int (5 : Int32))])) rfl (by rw [hml]; rfl) (argsL := [(.int (5 : Int32))]) (rest := []) (lenOf pd_2 rfl) rfl (by show 2 * 0 + _ ≤ _; exact Nat.le_of_eq rfl) (hb hby at_19) (fun _ _ => ⟨rfl, e4, (by decide : 0 + 0 ≤ _), (by decide : 0 + 0 ≤ _)⟩)
  dsimp only [Pt.U, Pt.locs, Pt.cells, Pt.slots] at X6 l6 y6 z6 st6 hQ6
  subst l6 y6 z6
  obtain ⟨rfl, Nq6, e6⟩ := hQ6
  have N6 := Fr.app N4 Nq6
  obtain ⟨_, _, ⟨T7, L7, k7, n7⟩, -, X7, ⟨Lc7, hQ7, l7, y7, z7⟩, st7⟩ := Jvm.LawKit.callS X6 hx (y := yN2) hown (mvT hZ (ow hw 14 rfl)) (mvT hZ (ow hw 15 rfl)) (mvT hZ (ow hw 3 rfl)) (mvT hZ (ow hw 16 rfl)) (by decide) (backOf (W := 1) (lowest3 l Z a0 hw []  h0 n0 Z0 ) hZ (ow hw 16 rfl) (ow hw 3 rfl) (by decide) (by decide)) (g := (mkF m 26 #[.val (.int pI1), .val (.int pI2), .val (.int (3 : Int32)), .val (.int (5 : Int32)), .val (.ref pR3), .val (.ref pR5), .unset] [(.int (3 : Int32)), (.int (5 : Int32))])) rfl (by rw [hml]; rfl) (argsL := [(.int (3 : Int32))]) (rest := [(.int (5 : Int32))]) (lenOf pd_3 rfl) rfl (by show 2 * 0 + _ ≤ _; exact Nat.le_of_eq rfl) (hb hby at_26) (fun _ _ => ⟨rfl, e6, (by decide : 0 + 0 ≤ _), (by decide : 0 + 0 ≤ _)⟩)
  dsimp only [Pt.U, Pt.locs, Pt.cells, Pt.slots] at X7 l7 y7 z7 st7 hQ7
  subst l7 y7 z7
  obtain ⟨rfl, Nq7, e7⟩ := hQ7
  have N7 := Fr.app N6 Nq7
  obtain ⟨cq11, kq11, q11a, q11b, q11c⟩ := isOf hZ e7 E_pR3
  obtain ⟨_, _, ⟨T11, L11, k11, n11⟩, -, X11, ⟨Lc11, hQ11, l11, y11, z11⟩, st11⟩ := X7.virtualBack hx (y := yN6) (z := yN6) hown (mvT hZ (ow hw 17 rfl)) (mvT hZ (ow hw 18 rfl)) (notFace_of_selects (args := #[]) (mvT hZ (ow hw 20 rfl))) (mvT hZ (ow hw 20 rfl)) (mvT hZ (ow hw 19 rfl)) (by decide) (backOf (W := 0) (irbY l Z a0 hw [] pR3 pR5 pI8 pR9 pI10 h0 n0 Z0 F_ordinal_pR5 E_pR5 F_lowestRole_pR3 F_ordinal_pR9 E_pR9 hc43) hZ (ow hw 21 rfl) (ow hw 6 rfl) (by decide) (by decide)) q11a q11c (g := (mkF m 43 #[.val (.int pI1), .val (.int pI2), .val (.int (3 : Int32)), .val (.int (5 : Int32)), .val (.ref pR3), .val (.ref pR5), .val (.int (1 : Int32))] [(.ref pR5), (.ref pR3)])) rfl (by rw [hml]; rfl) (Steps.refl _) (argsL := [(.ref pR5)]) (rest := []) (lenOf pd_4 rfl) rfl (by show 2 * 0 + _ ≤ _; exact Nat.le_of_eq rfl) (hb hby at_43) (fun _ _ => ⟨rfl, e7, (by decide : 0 + 0 ≤ _), (by decide : 0 + 0 ≤ _)⟩)
  dsimp only [Pt.U, Pt.locs, Pt.cells, Pt.slots] at X11 l11 y11 z11 st11 hQ11
  subst l11 y11 z11
  obtain ⟨rfl, Nq11, e11⟩ := hQ11
  have N11 := Fr.app N7 Nq11
  obtain ⟨fs, hr, hrun, hended, hW, hsame⟩ := X11.leave (v := some (.int (1 : Int32))) (fun h => by rw [Bd.returns] at h; cases h)
  refine ⟨_, _, pre0 _ ?_, hrun, hended, _, _, rfl, ?_, ⟨_, rfl⟩, hW, hsame.mono (by decide) (by decide)⟩
  · show oS p e below s₁ m 0 #[.val (.int pI1), .val (.int pI2), .unset, .unset, .unset, .unset, .unset] [] _
    refine XS.iloadN X0.here hx rfl (hb hby at_0) rfl ?_
    show oS p e below s₁ m 1 #[.val (.int pI1), .val (.int pI2), .unset, .unset, .unset, .unset, .unset] [(.int pI1)] _
    refine XS.iconst X0.here hx rfl (hb hby at_1) ?_
    show oS p e below s₁ m 2 #[.val (.int pI1), .val (.int pI2), .unset, .unset, .unset, .unset, .unset] [(.int (3 : Int32)), (.int pI1)] _
    refine XS.iand X0.here hx rfl (hb hby at_2) rfl ?_
    show Steps p.tables e below (s₁.setTop (mkF m 3 #[.val (.int pI1), .val (.int pI2), .unset, .unset, .unset, .unset, .unset] [(.int (pI1 &&& (3 : Int32)))])) _
    rw [hc2]
    show oS p e below s₁ m 3 #[.val (.int pI1), .val (.int pI2), .unset, .unset, .unset, .unset, .unset] [(.int (3 : Int32))] _
    refine XS.istoreN X0.here hx rfl (hb hby at_3) rfl (l' := #[.val (.int pI1), .val (.int pI2), .val (.int (3 : Int32)), .unset, .unset, .unset, .unset]) rfl ?_
    show oS p e below s₁ m 4 #[.val (.int pI1), .val (.int pI2), .val (.int (3 : Int32)), .unset, .unset, .unset, .unset] [] _
    refine XS.iloadN X0.here hx rfl (hb hby at_4) rfl ?_
    show oS p e below s₁ m 5 #[.val (.int pI1), .val (.int pI2), .val (.int (3 : Int32)), .unset, .unset, .unset, .unset] [(.int pI2)] _
    refine X0.ldcInt hx hown (mvT hZ (ow hw 0 rfl)) (g := (mkF m 5 #[.val (.int pI1), .val (.int pI2), .val (.int (3 : Int32)), .unset, .unset, .unset, .unset] [(.int pI2)])) rfl (hb hby at_5) _ ?_
    show oS p e below s₁ m 7 #[.val (.int pI1), .val (.int pI2), .val (.int (3 : Int32)), .unset, .unset, .unset, .unset] [(.int (2147483647 : Int32)), (.int pI2)] _
    refine XS.iand X0.here hx rfl (hb hby at_7) rfl ?_
    show oS p e below s₁ m 8 #[.val (.int pI1), .val (.int pI2), .val (.int (3 : Int32)), .unset, .unset, .unset, .unset] [(.int (pI2 &&& (2147483647 : Int32)))] _
    refine XS.bipush X0.here hx rfl (hb hby at_8) ?_
    show oS p e below s₁ m 10 #[.val (.int pI1), .val (.int pI2), .val (.int (3 : Int32)), .unset, .unset, .unset, .unset] [(.int (6 : Int32)), (.int (pI2 &&& (2147483647 : Int32)))] _
    refine iremM (g := (mkF m 10 #[.val (.int pI1), .val (.int pI2), .val (.int (3 : Int32)), .unset, .unset, .unset, .unset] [(.int (6 : Int32)), (.int (pI2 &&& (2147483647 : Int32)))])) X0 hx rfl (hb hby at_10) rfl (by decide) ?_
    show Steps p.tables e below (s₁.setTop (mkF m 11 #[.val (.int pI1), .val (.int pI2), .val (.int (3 : Int32)), .unset, .unset, .unset, .unset] [(.int ((pI2 &&& (2147483647 : Int32)) % (6 : Int32)))])) _
    rw [hc10]
    show oS p e below s₁ m 11 #[.val (.int pI1), .val (.int pI2), .val (.int (3 : Int32)), .unset, .unset, .unset, .unset] [(.int (5 : Int32))] _
    refine XS.istoreN X0.here hx rfl (hb hby at_11) rfl (l' := #[.val (.int pI1), .val (.int pI2), .val (.int (3 : Int32)), .val (.int (5 : Int32)), .unset, .unset, .unset]) rfl ?_
    show oS p e below s₁ m 12 #[.val (.int pI1), .val (.int pI2), .val (.int (3 : Int32)), .val (.int (5 : Int32)), .unset, .unset, .unset] [] _
    refine XS.iloadN X0.here hx rfl (hb hby at_12) rfl ?_
    show oS p e below s₁ m 13 #[.val (.int pI1), .val (.int pI2), .val (.int (3 : Int32)), .val (.int (5 : Int32)), .unset, .unset, .unset] [(.int (3 : Int32))] _
    refine st4 _ ?_
    show oS p e below T4 m 16 #[.val (.int pI1), .val (.int pI2), .val (.int (3 : Int32)), .val (.int (5 : Int32)), .unset, .unset, .unset] [(.ref pR3)] _
    refine XS.astore X4.here hx rfl (hb hby at_16) rfl rfl (l' := #[.val (.int pI1), .val (.int pI2), .val (.int (3 : Int32)), .val (.int (5 : Int32)), .val (.ref pR3), .unset, .unset]) rfl ?_
    show oS p e below T4 m 18 #[.val (.int pI1), .val (.int pI2), .val (.int (3 : Int32)), .val (.int (5 : Int32)), .val (.ref pR3), .unset, .unset] [] _
    refine XS.iloadN X4.here hx rfl (hb hby at_18) rfl ?_
    show oS p e below T4 m 19 #[.val (.int pI1), .val (.int pI2), .val (.int (3 : Int32)), .val (.int (5 : Int32)), .val (.ref pR3), .unset, .unset] [(.int (5 : Int32))] _
    refine st6 _ ?_
    show oS p e below T6 m 22 #[.val (.int pI1), .val (.int pI2), .val (.int (3 : Int32)), .val (.int (5 : Int32)), .val (.ref pR3), .unset, .unset] [(.ref pR5)] _
    refine XS.astore X6.here hx rfl (hb hby at_22) rfl rfl (l' := #[.val (.int pI1), .val (.int pI2), .val (.int (3 : Int32)), .val (.int (5 : Int32)), .val (.ref pR3), .val (.ref pR5), .unset]) rfl ?_
    show oS p e below T6 m 24 #[.val (.int pI1), .val (.int pI2), .val (.int (3 : Int32)), .val (.int (5 : Int32)), .val (.ref pR3), .val (.ref pR5), .unset] [] _
    refine XS.iloadN X6.here hx rfl (hb hby at_24) rfl ?_
    show oS p e below T6 m 25 #[.val (.int pI1), .val (.int pI2), .val (.int (3 : Int32)), .val (.int (5 : Int32)), .val (.ref pR3), .val (.ref pR5), .unset] [(.int (5 : Int32))] _
    refine XS.iloadN X6.here hx rfl (hb hby at_25) rfl ?_
    show oS p e below T6 m 26 #[.val (.int pI1), .val (.int pI2), .val (.int (3 : Int32)), .val (.int (5 : Int32)), .val (.ref pR3), .val (.ref pR5), .unset] [(.int (3 : Int32)), (.int (5 : Int32))] _
    refine st7 _ ?_
    show oS p e below T7 m 29 #[.val (.int pI1), .val (.int pI2), .val (.int (3 : Int32)), .val (.int (5 : Int32)), .val (.ref pR3), .val (.ref pR5), .unset] [(.int (3 : Int32)), (.int (5 : Int32))] _
    refine XS.icmpNo X7.here hx rfl (hb hby at_29) rfl (flt (by decide : ¬ ((5 : Int32) < (3 : Int32)))).1 ?_
    show oS p e below T7 m 32 #[.val (.int pI1), .val (.int pI2), .val (.int (3 : Int32)), .val (.int (5 : Int32)), .val (.ref pR3), .val (.ref pR5), .unset] [] _
    refine XS.iconst X7.here hx rfl (hb hby at_32) ?_
    show oS p e below T7 m 33 #[.val (.int pI1), .val (.int pI2), .val (.int (3 : Int32)), .val (.int (5 : Int32)), .val (.ref pR3), .val (.ref pR5), .unset] [(.int (1 : Int32))] _
    refine XS.goto X7.here hx rfl (pc0 := 33) (pc' := 37) rfl (hb hby at_33) (by decide) (by decide) ?_
    show oS p e below T7 m 37 #[.val (.int pI1), .val (.int pI2), .val (.int (3 : Int32)), .val (.int (5 : Int32)), .val (.ref pR3), .val (.ref pR5), .unset] [(.int (1 : Int32))] _
    refine XS.istore X7.here hx rfl (hb hby at_37) rfl (l' := #[.val (.int pI1), .val (.int pI2), .val (.int (3 : Int32)), .val (.int (5 : Int32)), .val (.ref pR3), .val (.ref pR5), .val (.int (1 : Int32))]) rfl ?_
    show oS p e below T7 m 39 #[.val (.int pI1), .val (.int pI2), .val (.int (3 : Int32)), .val (.int (5 : Int32)), .val (.ref pR3), .val (.ref pR5), .val (.int (1 : Int32))] [] _
    refine XS.aload X7.here hx rfl (hb hby at_39) rfl rfl ?_
    show oS p e below T7 m 41 #[.val (.int pI1), .val (.int pI2), .val (.int (3 : Int32)), .val (.int (5 : Int32)), .val (.ref pR3), .val (.ref pR5), .val (.int (1 : Int32))] [(.ref pR3)] _
    refine XS.aload X7.here hx rfl (hb hby at_41) rfl rfl ?_
    show oS p e below T7 m 43 #[.val (.int pI1), .val (.int pI2), .val (.int (3 : Int32)), .val (.int (5 : Int32)), .val (.ref pR3), .val (.ref pR5), .val (.int (1 : Int32))] [(.ref pR5), (.ref pR3)] _
    refine st11.trans ?_
    show oS p e below T11 m 46 #[.val (.int pI1), .val (.int pI2), .val (.int (3 : Int32)), .val (.int (5 : Int32)), .val (.ref pR3), .val (.ref pR5), .val (.int (1 : Int32))] [(.int (1 : Int32))] _
    refine XS.iload X11.here hx rfl (hb hby at_46) rfl ?_
    show oS p e below T11 m 48 #[.val (.int pI1), .val (.int pI2), .val (.int (3 : Int32)), .val (.int (5 : Int32)), .val (.ref pR3), .val (.ref pR5), .val (.int (1 : Int32))] [(.int (1 : Int32)), (.int (1 : Int32))] _
    refine XS.icmpNo X11.here hx rfl (hb hby at_48) rfl (teq (by decide : (1 : Int32) = (1 : Int32))).2 ?_
    show oS p e below T11 m 51 #[.val (.int pI1), .val (.int pI2), .val (.int (3 : Int32)), .val (.int (5 : Int32)), .val (.ref pR3), .val (.ref pR5), .val (.int (1 : Int32))] [] _
    refine XS.iconst X11.here hx rfl (hb hby at_51) ?_
    show oS p e below T11 m 52 #[.val (.int pI1), .val (.int pI2), .val (.int (3 : Int32)), .val (.int (5 : Int32)), .val (.ref pR3), .val (.ref pR5), .val (.int (1 : Int32))] [(.int (1 : Int32))] _
    refine XS.goto X11.here hx rfl (pc0 := 52) (pc' := 56) rfl (hb hby at_52) (by decide) (by decide) ?_
    show oS p e below T11 m 56 #[.val (.int pI1), .val (.int pI2), .val (.int (3 : Int32)), .val (.int (5 : Int32)), .val (.ref pR3), .val (.ref pR5), .val (.int (1 : Int32))] [(.int (1 : Int32))] _
    exact retN X11 hx (t := .boolean) Bd.returns (by simp) (hb hby at_56) hr
  · show Qlaw3_5 Z pI1 pI2 pR3 pR5 pI8 pR9 pI10 h0 n0 _ T11.heap _
    rw [e11]
    exact ⟨rfl, N11⟩
set_option maxRecDepth 65536 in
set_option maxHeartbeats 40000000 in
theorem comes_1 {Post : Tables → Env → Array Value → State → Outcome → State → Prop} (hpost : ∀ tb e args s v u, (limb_1_1.after args s (.returned v) u = true ∧ limb_1_2.after args s (.returned v) u = true ∧ True) → FrameEnd s (.returned v) u (Jvm.fieldLocs frame_1_writes args s ++ Jvm.arrayLocs frame_1_arrays args s ++ Jvm.staticLocs frame_1_statics s) 0 0 → Post tb e args s (.returned v) u) :
    ArmFor flags0 classFile x code maxLocals ret World_1 tables_1 room_1 Calls_1 rest_1 Pre_1 Post := by
  intro l hfl _ _ p e ha hc hk s m args below hf hA hF happ hP
  obtain ⟨hcalls, hrest, hpre⟩ := hP
  obtain ⟨-, -, -, hnamed, -, -, -, hat⟩ := (Spec.applies_iff hf).mp happ
  obtain ⟨hg, hn⟩ := and_e (Cond.before_iff.mp (show (Jvm.Cond.and given_1 narrow_1).before args s = true from hpre))
  obtain ⟨w1, w2⟩ := and_e hg
  obtain ⟨w3, w4⟩ := and_e w2
  obtain ⟨w5, w6⟩ := and_e hn
  obtain ⟨w7, w8⟩ := and_e w6
  obtain ⟨w9, w10⟩ := and_e w8
  obtain ⟨w11, w12⟩ := and_e w10
  obtain ⟨w13, w14⟩ := and_e w12
  obtain ⟨w15, w16⟩ := and_e w14
  obtain ⟨w17, w18⟩ := and_e w16
  obtain ⟨w19, w20⟩ := and_e w18
  obtain ⟨w21, w22⟩ := and_e w20
  obtain ⟨w23, w24⟩ := and_e w22
  obtain ⟨w25, w26⟩ := and_e w24
  obtain ⟨w27, w28⟩ := and_e w26
  obtain ⟨w29, w30⟩ := and_e w28
  obtain ⟨w31, w32⟩ := and_e w30
  obtain ⟨w33, w34⟩ := and_e w32
  obtain ⟨w35, w36⟩ := and_e w34
  obtain ⟨w37, w38⟩ := and_e w36
  obtain ⟨w39, w40⟩ := and_e w38
  obtain ⟨w41, w42⟩ := and_e w40
  obtain ⟨v0, v1, rfl⟩ : ∃ v0 v1 : Value, args = #[v0, v1] := by
    have hs : args.size = 2 := by simpa [Cond.value, given_1] using w1
    obtain ⟨L⟩ := args
    match L, hs with
    | [v0, v1], _ => exact ⟨v0, v1, rfl⟩
  have hw := fun d (hd : d ∈ tables_1) => atoms_spec (ws := Jvm.Cond.code x code maxLocals ret :: tables_1) hat d (List.mem_cons_of_mem _ hd)
  have hfit : Fit s := fun {y c} hc i hi => by
    obtain ⟨ha, rfl⟩ := Array.getElem?_eq_some_iff.mp hc
    have q := List.all_eq_true.mp ((Array.all_eq_true_iff_forall_mem.mp hF) _ (Array.getElem_mem ha)) i (List.mem_range.mpr hi)
    simpa [Array.getElem?_eq_getElem hi] using q
  obtain ⟨i0, ei0⟩ := is_v w3
  obtain rfl : v0 = (.int i0) := Option.some.inj ei0
  obtain ⟨i1, ei1⟩ := is_v w4
  obtain rfl : v1 = (.int i1) := Option.some.inj ei1
  obtain ⟨bR43, ev44⟩ := exa_v w5
  have S45 : Sta s s.heap "com/example/willenhall/willenhall/external/DocumentView" "ORDERS" "Lcom/example/willenhall/willenhall/external/DocumentView;" (.ref bR43) := Sta.start ev44 (Or.inr ⟨(ow hw 6 rfl), (ow hw 7 rfl)⟩)
  have E46 : Exa s s.heap bR43 "com/example/willenhall/willenhall/external/DocumentView" := Exa.start ev44 w5
  obtain ⟨bR47, ev48⟩ := exa_v w7
  have S49 : Sta s s.heap "com/example/willenhall/willenhall/external/ExternalRole" "BILLING" "Lcom/example/willenhall/willenhall/external/ExternalRole;" (.ref bR47) := Sta.start ev48 (Or.inr ⟨(ow hw 12 rfl), (ow hw 13 rfl)⟩)
  have E50 : Exa s s.heap bR47 "com/example/willenhall/willenhall/external/ExternalRole" := Exa.start ev48 w7
  obtain ⟨bR51, ev52⟩ := exa_v w11
  have S53 : Sta s s.heap "com/example/willenhall/willenhall/external/ExternalRole" "ORDERS" "Lcom/example/willenhall/willenhall/external/ExternalRole;" (.ref bR51) := Sta.start ev52 (Or.inr ⟨(ow hw 12 rfl), (ow hw 38 rfl)⟩)
  have E54 : Exa s s.heap bR51 "com/example/willenhall/willenhall/external/ExternalRole" := Exa.start ev52 w11
  obtain ⟨bR55, ev56⟩ := exa_v w17
  have S57 : Sta s s.heap "com/example/willenhall/willenhall/external/DocumentView" "INVOICES" "Lcom/example/willenhall/willenhall/external/DocumentView;" (.ref bR55) := Sta.start ev56 (Or.inr ⟨(ow hw 6 rfl), (ow hw 40 rfl)⟩)
  have E58 : Exa s s.heap bR55 "com/example/willenhall/willenhall/external/DocumentView" := Exa.start ev56 w17
  obtain ⟨bR59, ev60⟩ := exa_v w21
  have S61 : Sta s s.heap "com/example/willenhall/willenhall/external/ExternalRole" "OWNER" "Lcom/example/willenhall/willenhall/external/ExternalRole;" (.ref bR59) := Sta.start ev60 (Or.inr ⟨(ow hw 12 rfl), (ow hw 43 rfl)⟩)
  have E62 : Exa s s.heap bR59 "com/example/willenhall/willenhall/external/ExternalRole" := Exa.start ev60 w21
  obtain ⟨bR63, ev64⟩ := exa_v w25
  have S65 : Sta s s.heap "com/example/willenhall/willenhall/external/ExternalRole" "ORDERS_WITH_PRICES" "Lcom/example/willenhall/willenhall/external/ExternalRole;" (.ref bR63) := Sta.start ev64 (Or.inr ⟨(ow hw 12 rfl), (ow hw 45 rfl)⟩)
  have E66 : Exa s s.heap bR63 "com/example/willenhall/willenhall/external/ExternalRole" := Exa.start ev64 w25
  obtain ⟨bR67, ev68⟩ := exa_v w29
  have S69 : Sta s s.heap "com/example/willenhall/willenhall/external/ExternalRole" "BASIC" "Lcom/example/willenhall/willenhall/external/ExternalRole;" (.ref bR67) := Sta.start ev68 (Or.inr ⟨(ow hw 12 rfl), (ow hw 47 rfl)⟩)
  have E70 : Exa s s.heap bR67 "com/example/willenhall/willenhall/external/ExternalRole" := Exa.start ev68 w29
  obtain ⟨bR71, ev72⟩ := exa_v w33
  have S73 : Sta s s.heap "com/example/willenhall/willenhall/external/DocumentView" "ORDER_PRICES" "Lcom/example/willenhall/willenhall/external/DocumentView;" (.ref bR71) := Sta.start ev72 (Or.inr ⟨(ow hw 6 rfl), (ow hw 49 rfl)⟩)
  have E74 : Exa s s.heap bR71 "com/example/willenhall/willenhall/external/DocumentView" := Exa.start ev72 w33
  obtain ⟨bR75, ev76⟩ := exa_v w37
  have S77 : Sta s s.heap "com/example/willenhall/willenhall/external/ExternalRole" "ADMIN" "Lcom/example/willenhall/willenhall/external/ExternalRole;" (.ref bR75) := Sta.start ev76 (Or.inr ⟨(ow hw 12 rfl), (ow hw 51 rfl)⟩)
  have E78 : Exa s s.heap bR75 "com/example/willenhall/willenhall/external/ExternalRole" := Exa.start ev76 w37
  obtain ⟨bR79, ev80⟩ := exa_v w41
  have S81 : Sta s s.heap "com/example/willenhall/willenhall/external/DocumentView" "PAYMENTS" "Lcom/example/willenhall/willenhall/external/DocumentView;" (.ref bR79) := Sta.start ev80 (Or.inr ⟨(ow hw 6 rfl), (ow hw 53 rfl)⟩)
  have E82 : Exa s s.heap bR79 "com/example/willenhall/willenhall/external/DocumentView" := Exa.start ev80 w41
  have ev83 := Cond.eq_int (Cond.before_iff.mpr w9) rfl
  have F84 : Fld s s.heap bR47 "java/lang/Enum" "ordinal" "I" (.int (3 : Int32)) := Fld.start ((fld_at ev48).symm.trans ev83)
  have ev85 := own_eq_ref w13 ev52
  have F86 : Fld s s.heap bR43 "com/example/willenhall/willenhall/external/DocumentView" "lowestRole" "Lcom/example/willenhall/willenhall/external/ExternalRole;" (.ref bR51) := Fld.start ((fld_at ev44).symm.trans ev85)
  have ev87 := Cond.eq_int (Cond.before_iff.mpr w15) rfl
  have F88 : Fld s s.heap bR51 "java/lang/Enum" "ordinal" "I" (.int (1 : Int32)) := Fld.start ((fld_at ev52).symm.trans ev87)
  have ev89 := own_eq_ref w19 ev48
  have F90 : Fld s s.heap bR55 "com/example/willenhall/willenhall/external/DocumentView" "lowestRole" "Lcom/example/willenhall/willenhall/external/ExternalRole;" (.ref bR47) := Fld.start ((fld_at ev56).symm.trans ev89)
  have ev91 := Cond.eq_int (Cond.before_iff.mpr w23) rfl
  have F92 : Fld s s.heap bR59 "java/lang/Enum" "ordinal" "I" (.int (5 : Int32)) := Fld.start ((fld_at ev60).symm.trans ev91)
  have ev93 := Cond.eq_int (Cond.before_iff.mpr w27) rfl
  have F94 : Fld s s.heap bR63 "java/lang/Enum" "ordinal" "I" (.int (2 : Int32)) := Fld.start ((fld_at ev64).symm.trans ev93)
  have ev95 := Cond.eq_int (Cond.before_iff.mpr w31) rfl
  have F96 : Fld s s.heap bR67 "java/lang/Enum" "ordinal" "I" (.int (0 : Int32)) := Fld.start ((fld_at ev68).symm.trans ev95)
  have ev97 := own_eq_ref w35 ev64
  have F98 : Fld s s.heap bR71 "com/example/willenhall/willenhall/external/DocumentView" "lowestRole" "Lcom/example/willenhall/willenhall/external/ExternalRole;" (.ref bR63) := Fld.start ((fld_at ev72).symm.trans ev97)
  have ev99 := Cond.eq_int (Cond.before_iff.mpr w39) rfl
  have F100 : Fld s s.heap bR75 "java/lang/Enum" "ordinal" "I" (.int (4 : Int32)) := Fld.start ((fld_at ev76).symm.trans ev99)
  have ev101 := own_eq_ref w42 ev48
  have F102 : Fld s s.heap bR79 "com/example/willenhall/willenhall/external/DocumentView" "lowestRole" "Lcom/example/willenhall/willenhall/external/ExternalRole;" (.ref bR47) := Fld.start ((fld_at ev80).symm.trans ev101)
  obtain ⟨hm0, hm1⟩ := own_mask i0 (3 : Int32) 2 (by decide) (by decide)
  obtain ⟨hm2, hm3⟩ := own_mod i1 (6 : Int32) 6 (by decide) (by decide)
  rcases own_in4 hm0 hm1 with hcs | hcs | hcs | hcs
  · rcases own_in6 hm2 hm3 with hcr | hcr | hcr | hcr | hcr | hcr
    · obtain ⟨n, o, h1, h2, h3, _, L, rfl, ⟨rfl, N⟩, hq⟩ := law0_0 l s _ hw tables_1 i0 i1 bR43 bR67 (0 : Int32) bR51 (1 : Int32) s.heap s.heap.size (Nat.le_refl _) S45 S69 F96 E70 F86 F88 E54 E46 hcs hcr (by decide) p e ha hc hk s m _ below hf ((Spec.applies_iff_loose hf).mp happ).1 ⟨rfl, State.Warmed39.refl s, rfl⟩ trivial
      exact ⟨n, _, h1, h2, h3, hpost _ _ _ _ _ _ ⟨Cond.after_iff.mpr rfl, Cond.after_iff.mpr (eq_i res_at (Term.int_eval (1)) rfl), trivial⟩ ⟨hq.1, hq.2.1, (hq.2.2.sift fun y hy => Or.inr (N y hy)).mono (by decide) (by decide)⟩⟩
    · obtain ⟨n, o, h1, h2, h3, _, L, rfl, ⟨rfl, N⟩, hq⟩ := law0_1 l s _ hw tables_1 i0 i1 bR43 bR51 (1 : Int32) bR51 (1 : Int32) s.heap s.heap.size (Nat.le_refl _) S45 S53 F88 E54 F86 F88 E54 E46 hcs hcr (by decide) p e ha hc hk s m _ below hf ((Spec.applies_iff_loose hf).mp happ).1 ⟨rfl, State.Warmed39.refl s, rfl⟩ trivial
      exact ⟨n, _, h1, h2, h3, hpost _ _ _ _ _ _ ⟨Cond.after_iff.mpr rfl, Cond.after_iff.mpr (eq_i res_at (Term.int_eval (1)) rfl), trivial⟩ ⟨hq.1, hq.2.1, (hq.2.2.sift fun y hy => Or.inr (N y hy)).mono (by decide) (by decide)⟩⟩
    · obtain ⟨n, o, h1, h2, h3, _, L, rfl, ⟨rfl, N⟩, hq⟩ := law0_2 l s _ hw tables_1 i0 i1 bR43 bR63 (2 : Int32) bR51 (1 : Int32) s.heap s.heap.size (Nat.le_refl _) S45 S65 F94 E66 F86 F88 E54 E46 hcs hcr (by decide) p e ha hc hk s m _ below hf ((Spec.applies_iff_loose hf).mp happ).1 ⟨rfl, State.Warmed39.refl s, rfl⟩ trivial
      exact ⟨n, _, h1, h2, h3, hpost _ _ _ _ _ _ ⟨Cond.after_iff.mpr rfl, Cond.after_iff.mpr (eq_i res_at (Term.int_eval (1)) rfl), trivial⟩ ⟨hq.1, hq.2.1, (hq.2.2.sift fun y hy => Or.inr (N y hy)).mono (by decide) (by decide)⟩⟩
    · obtain ⟨n, o, h1, h2, h3, _, L, rfl, ⟨rfl, N⟩, hq⟩ := law0_3 l s _ hw tables_1 i0 i1 bR43 bR47 (3 : Int32) bR51 (1 : Int32) s.heap s.heap.size (Nat.le_refl _) S45 S49 F84 E50 F86 F88 E54 E46 hcs hcr (by decide) p e ha hc hk s m _ below hf ((Spec.applies_iff_loose hf).mp happ).1 ⟨rfl, State.Warmed39.refl s, rfl⟩ trivial
      exact ⟨n, _, h1, h2, h3, hpost _ _ _ _ _ _ ⟨Cond.after_iff.mpr rfl, Cond.after_iff.mpr (eq_i res_at (Term.int_eval (1)) rfl), trivial⟩ ⟨hq.1, hq.2.1, (hq.2.2.sift fun y hy => Or.inr (N y hy)).mono (by decide) (by decide)⟩⟩
    · obtain ⟨n, o, h1, h2, h3, _, L, rfl, ⟨rfl, N⟩, hq⟩ := law0_4 l s _ hw tables_1 i0 i1 bR43 bR75 (4 : Int32) bR51 (1 : Int32) s.heap s.heap.size (Nat.le_refl _) S45 S77 F100 E78 F86 F88 E54 E46 hcs hcr (by decide) p e ha hc hk s m _ below hf ((Spec.applies_iff_loose hf).mp happ).1 ⟨rfl, State.Warmed39.refl s, rfl⟩ trivial
      exact ⟨n, _, h1, h2, h3, hpost _ _ _ _ _ _ ⟨Cond.after_iff.mpr rfl, Cond.after_iff.mpr (eq_i res_at (Term.int_eval (1)) rfl), trivial⟩ ⟨hq.1, hq.2.1, (hq.2.2.sift fun y hy => Or.inr (N y hy)).mono (by decide) (by decide)⟩⟩
    · obtain ⟨n, o, h1, h2, h3, _, L, rfl, ⟨rfl, N⟩, hq⟩ := law0_5 l s _ hw tables_1 i0 i1 bR43 bR59 (5 : Int32) bR51 (1 : Int32) s.heap s.heap.size (Nat.le_refl _) S45 S61 F92 E62 F86 F88 E54 E46 hcs hcr (by decide) p e ha hc hk s m _ below hf ((Spec.applies_iff_loose hf).mp happ).1 ⟨rfl, State.Warmed39.refl s, rfl⟩ trivial
      exact ⟨n, _, h1, h2, h3, hpost _ _ _ _ _ _ ⟨Cond.after_iff.mpr rfl, Cond.after_iff.mpr (eq_i res_at (Term.int_eval (1)) rfl), trivial⟩ ⟨hq.1, hq.2.1, (hq.2.2.sift fun y hy => Or.inr (N y hy)).mono (by decide) (by decide)⟩⟩
  · rcases own_in6 hm2 hm3 with hcr | hcr | hcr | hcr | hcr | hcr
    · obtain ⟨n, o, h1, h2, h3, _, L, rfl, ⟨rfl, N⟩, hq⟩ := law1_0 l s _ hw tables_1 i0 i1 bR71 bR67 (0 : Int32) bR63 (2 : Int32) s.heap s.heap.size (Nat.le_refl _) S73 S69 F96 E70 F98 F94 E66 E74 hcs hcr (by decide) p e ha hc hk s m _ below hf ((Spec.applies_iff_loose hf).mp happ).1 ⟨rfl, State.Warmed39.refl s, rfl⟩ trivial
      exact ⟨n, _, h1, h2, h3, hpost _ _ _ _ _ _ ⟨Cond.after_iff.mpr rfl, Cond.after_iff.mpr (eq_i res_at (Term.int_eval (1)) rfl), trivial⟩ ⟨hq.1, hq.2.1, (hq.2.2.sift fun y hy => Or.inr (N y hy)).mono (by decide) (by decide)⟩⟩
    · obtain ⟨n, o, h1, h2, h3, _, L, rfl, ⟨rfl, N⟩, hq⟩ := law1_1 l s _ hw tables_1 i0 i1 bR71 bR51 (1 : Int32) bR63 (2 : Int32) s.heap s.heap.size (Nat.le_refl _) S73 S53 F88 E54 F98 F94 E66 E74 hcs hcr (by decide) p e ha hc hk s m _ below hf ((Spec.applies_iff_loose hf).mp happ).1 ⟨rfl, State.Warmed39.refl s, rfl⟩ trivial
      exact ⟨n, _, h1, h2, h3, hpost _ _ _ _ _ _ ⟨Cond.after_iff.mpr rfl, Cond.after_iff.mpr (eq_i res_at (Term.int_eval (1)) rfl), trivial⟩ ⟨hq.1, hq.2.1, (hq.2.2.sift fun y hy => Or.inr (N y hy)).mono (by decide) (by decide)⟩⟩
    · obtain ⟨n, o, h1, h2, h3, _, L, rfl, ⟨rfl, N⟩, hq⟩ := law1_2 l s _ hw tables_1 i0 i1 bR71 bR63 (2 : Int32) bR63 (2 : Int32) s.heap s.heap.size (Nat.le_refl _) S73 S65 F94 E66 F98 F94 E66 E74 hcs hcr (by decide) p e ha hc hk s m _ below hf ((Spec.applies_iff_loose hf).mp happ).1 ⟨rfl, State.Warmed39.refl s, rfl⟩ trivial
      exact ⟨n, _, h1, h2, h3, hpost _ _ _ _ _ _ ⟨Cond.after_iff.mpr rfl, Cond.after_iff.mpr (eq_i res_at (Term.int_eval (1)) rfl), trivial⟩ ⟨hq.1, hq.2.1, (hq.2.2.sift fun y hy => Or.inr (N y hy)).mono (by decide) (by decide)⟩⟩
    · obtain ⟨n, o, h1, h2, h3, _, L, rfl, ⟨rfl, N⟩, hq⟩ := law1_3 l s _ hw tables_1 i0 i1 bR71 bR47 (3 : Int32) bR63 (2 : Int32) s.heap s.heap.size (Nat.le_refl _) S73 S49 F84 E50 F98 F94 E66 E74 hcs hcr (by decide) p e ha hc hk s m _ below hf ((Spec.applies_iff_loose hf).mp happ).1 ⟨rfl, State.Warmed39.refl s, rfl⟩ trivial
      exact ⟨n, _, h1, h2, h3, hpost _ _ _ _ _ _ ⟨Cond.after_iff.mpr rfl, Cond.after_iff.mpr (eq_i res_at (Term.int_eval (1)) rfl), trivial⟩ ⟨hq.1, hq.2.1, (hq.2.2.sift fun y hy => Or.inr (N y hy)).mono (by decide) (by decide)⟩⟩
    · obtain ⟨n, o, h1, h2, h3, _, L, rfl, ⟨rfl, N⟩, hq⟩ := law1_4 l s _ hw tables_1 i0 i1 bR71 bR75 (4 : Int32) bR63 (2 : Int32) s.heap s.heap.size (Nat.le_refl _) S73 S77 F100 E78 F98 F94 E66 E74 hcs hcr (by decide) p e ha hc hk s m _ below hf ((Spec.applies_iff_loose hf).mp happ).1 ⟨rfl, State.Warmed39.refl s, rfl⟩ trivial
      exact ⟨n, _, h1, h2, h3, hpost _ _ _ _ _ _ ⟨Cond.after_iff.mpr rfl, Cond.after_iff.mpr (eq_i res_at (Term.int_eval (1)) rfl), trivial⟩ ⟨hq.1, hq.2.1, (hq.2.2.sift fun y hy => Or.inr (N y hy)).mono (by decide) (by decide)⟩⟩
    · obtain ⟨n, o, h1, h2, h3, _, L, rfl, ⟨rfl, N⟩, hq⟩ := law1_5 l s _ hw tables_1 i0 i1 bR71 bR59 (5 : Int32) bR63 (2 : Int32) s.heap s.heap.size (Nat.le_refl _) S73 S61 F92 E62 F98 F94 E66 E74 hcs hcr (by decide) p e ha hc hk s m _ below hf ((Spec.applies_iff_loose hf).mp happ).1 ⟨rfl, State.Warmed39.refl s, rfl⟩ trivial
      exact ⟨n, _, h1, h2, h3, hpost _ _ _ _ _ _ ⟨Cond.after_iff.mpr rfl, Cond.after_iff.mpr (eq_i res_at (Term.int_eval (1)) rfl), trivial⟩ ⟨hq.1, hq.2.1, (hq.2.2.sift fun y hy => Or.inr (N y hy)).mono (by decide) (by decide)⟩⟩
  · rcases own_in6 hm2 hm3 with hcr | hcr | hcr | hcr | hcr | hcr
    · obtain ⟨n, o, h1, h2, h3, _, L, rfl, ⟨rfl, N⟩, hq⟩ := law2_0 l s _ hw tables_1 i0 i1 bR55 bR67 (0 : Int32) bR47 (3 : Int32) s.heap s.heap.size (Nat.le_refl _) S57 S69 F96 E70 F90 F84 E50 E58 hcs hcr (by decide) p e ha hc hk s m _ below hf ((Spec.applies_iff_loose hf).mp happ).1 ⟨rfl, State.Warmed39.refl s, rfl⟩ trivial
      exact ⟨n, _, h1, h2, h3, hpost _ _ _ _ _ _ ⟨Cond.after_iff.mpr rfl, Cond.after_iff.mpr (eq_i res_at (Term.int_eval (1)) rfl), trivial⟩ ⟨hq.1, hq.2.1, (hq.2.2.sift fun y hy => Or.inr (N y hy)).mono (by decide) (by decide)⟩⟩
    · obtain ⟨n, o, h1, h2, h3, _, L, rfl, ⟨rfl, N⟩, hq⟩ := law2_1 l s _ hw tables_1 i0 i1 bR55 bR51 (1 : Int32) bR47 (3 : Int32) s.heap s.heap.size (Nat.le_refl _) S57 S53 F88 E54 F90 F84 E50 E58 hcs hcr (by decide) p e ha hc hk s m _ below hf ((Spec.applies_iff_loose hf).mp happ).1 ⟨rfl, State.Warmed39.refl s, rfl⟩ trivial
      exact ⟨n, _, h1, h2, h3, hpost _ _ _ _ _ _ ⟨Cond.after_iff.mpr rfl, Cond.after_iff.mpr (eq_i res_at (Term.int_eval (1)) rfl), trivial⟩ ⟨hq.1, hq.2.1, (hq.2.2.sift fun y hy => Or.inr (N y hy)).mono (by decide) (by decide)⟩⟩
    · obtain ⟨n, o, h1, h2, h3, _, L, rfl, ⟨rfl, N⟩, hq⟩ := law2_2 l s _ hw tables_1 i0 i1 bR55 bR63 (2 : Int32) bR47 (3 : Int32) s.heap s.heap.size (Nat.le_refl _) S57 S65 F94 E66 F90 F84 E50 E58 hcs hcr (by decide) p e ha hc hk s m _ below hf ((Spec.applies_iff_loose hf).mp happ).1 ⟨rfl, State.Warmed39.refl s, rfl⟩ trivial
      exact ⟨n, _, h1, h2, h3, hpost _ _ _ _ _ _ ⟨Cond.after_iff.mpr rfl, Cond.after_iff.mpr (eq_i res_at (Term.int_eval (1)) rfl), trivial⟩ ⟨hq.1, hq.2.1, (hq.2.2.sift fun y hy => Or.inr (N y hy)).mono (by decide) (by decide)⟩⟩
    · obtain ⟨n, o, h1, h2, h3, _, L, rfl, ⟨rfl, N⟩, hq⟩ := law2_3 l s _ hw tables_1 i0 i1 bR55 bR47 (3 : Int32) bR47 (3 : Int32) s.heap s.heap.size (Nat.le_refl _) S57 S49 F84 E50 F90 F84 E50 E58 hcs hcr (by decide) p e ha hc hk s m _ below hf ((Spec.applies_iff_loose hf).mp happ).1 ⟨rfl, State.Warmed39.refl s, rfl⟩ trivial
      exact ⟨n, _, h1, h2, h3, hpost _ _ _ _ _ _ ⟨Cond.after_iff.mpr rfl, Cond.after_iff.mpr (eq_i res_at (Term.int_eval (1)) rfl), trivial⟩ ⟨hq.1, hq.2.1, (hq.2.2.sift fun y hy => Or.inr (N y hy)).mono (by decide) (by decide)⟩⟩
    · obtain ⟨n, o, h1, h2, h3, _, L, rfl, ⟨rfl, N⟩, hq⟩ := law2_4 l s _ hw tables_1 i0 i1 bR55 bR75 (4 : Int32) bR47 (3 : Int32) s.heap s.heap.size (Nat.le_refl _) S57 S77 F100 E78 F90 F84 E50 E58 hcs hcr (by decide) p e ha hc hk s m _ below hf ((Spec.applies_iff_loose hf).mp happ).1 ⟨rfl, State.Warmed39.refl s, rfl⟩ trivial
      exact ⟨n, _, h1, h2, h3, hpost _ _ _ _ _ _ ⟨Cond.after_iff.mpr rfl, Cond.after_iff.mpr (eq_i res_at (Term.int_eval (1)) rfl), trivial⟩ ⟨hq.1, hq.2.1, (hq.2.2.sift fun y hy => Or.inr (N y hy)).mono (by decide) (by decide)⟩⟩
    · obtain ⟨n, o, h1, h2, h3, _, L, rfl, ⟨rfl, N⟩, hq⟩ := law2_5 l s _ hw tables_1 i0 i1 bR55 bR59 (5 : Int32) bR47 (3 : Int32) s.heap s.heap.size (Nat.le_refl _) S57 S61 F92 E62 F90 F84 E50 E58 hcs hcr (by decide) p e ha hc hk s m _ below hf ((Spec.applies_iff_loose hf).mp happ).1 ⟨rfl, State.Warmed39.refl s, rfl⟩ trivial
      exact ⟨n, _, h1, h2, h3, hpost _ _ _ _ _ _ ⟨Cond.after_iff.mpr rfl, Cond.after_iff.mpr (eq_i res_at (Term.int_eval (1)) rfl), trivial⟩ ⟨hq.1, hq.2.1, (hq.2.2.sift fun y hy => Or.inr (N y hy)).mono (by decide) (by decide)⟩⟩
  · rcases own_in6 hm2 hm3 with hcr | hcr | hcr | hcr | hcr | hcr
    · obtain ⟨n, o, h1, h2, h3, _, L, rfl, ⟨rfl, N⟩, hq⟩ := law3_0 l s _ hw tables_1 i0 i1 bR79 bR67 (0 : Int32) bR47 (3 : Int32) s.heap s.heap.size (Nat.le_refl _) S81 S69 F96 E70 F102 F84 E50 E82 hcs hcr (by decide) p e ha hc hk s m _ below hf ((Spec.applies_iff_loose hf).mp happ).1 ⟨rfl, State.Warmed39.refl s, rfl⟩ trivial
      exact ⟨n, _, h1, h2, h3, hpost _ _ _ _ _ _ ⟨Cond.after_iff.mpr rfl, Cond.after_iff.mpr (eq_i res_at (Term.int_eval (1)) rfl), trivial⟩ ⟨hq.1, hq.2.1, (hq.2.2.sift fun y hy => Or.inr (N y hy)).mono (by decide) (by decide)⟩⟩
    · obtain ⟨n, o, h1, h2, h3, _, L, rfl, ⟨rfl, N⟩, hq⟩ := law3_1 l s _ hw tables_1 i0 i1 bR79 bR51 (1 : Int32) bR47 (3 : Int32) s.heap s.heap.size (Nat.le_refl _) S81 S53 F88 E54 F102 F84 E50 E82 hcs hcr (by decide) p e ha hc hk s m _ below hf ((Spec.applies_iff_loose hf).mp happ).1 ⟨rfl, State.Warmed39.refl s, rfl⟩ trivial
      exact ⟨n, _, h1, h2, h3, hpost _ _ _ _ _ _ ⟨Cond.after_iff.mpr rfl, Cond.after_iff.mpr (eq_i res_at (Term.int_eval (1)) rfl), trivial⟩ ⟨hq.1, hq.2.1, (hq.2.2.sift fun y hy => Or.inr (N y hy)).mono (by decide) (by decide)⟩⟩
    · obtain ⟨n, o, h1, h2, h3, _, L, rfl, ⟨rfl, N⟩, hq⟩ := law3_2 l s _ hw tables_1 i0 i1 bR79 bR63 (2 : Int32) bR47 (3 : Int32) s.heap s.heap.size (Nat.le_refl _) S81 S65 F94 E66 F102 F84 E50 E82 hcs hcr (by decide) p e ha hc hk s m _ below hf ((Spec.applies_iff_loose hf).mp happ).1 ⟨rfl, State.Warmed39.refl s, rfl⟩ trivial
      exact ⟨n, _, h1, h2, h3, hpost _ _ _ _ _ _ ⟨Cond.after_iff.mpr rfl, Cond.after_iff.mpr (eq_i res_at (Term.int_eval (1)) rfl), trivial⟩ ⟨hq.1, hq.2.1, (hq.2.2.sift fun y hy => Or.inr (N y hy)).mono (by decide) (by decide)⟩⟩
    · obtain ⟨n, o, h1, h2, h3, _, L, rfl, ⟨rfl, N⟩, hq⟩ := law3_3 l s _ hw tables_1 i0 i1 bR79 bR47 (3 : Int32) bR47 (3 : Int32) s.heap s.heap.size (Nat.le_refl _) S81 S49 F84 E50 F102 F84 E50 E82 hcs hcr (by decide) p e ha hc hk s m _ below hf ((Spec.applies_iff_loose hf).mp happ).1 ⟨rfl, State.Warmed39.refl s, rfl⟩ trivial
      exact ⟨n, _, h1, h2, h3, hpost _ _ _ _ _ _ ⟨Cond.after_iff.mpr rfl, Cond.after_iff.mpr (eq_i res_at (Term.int_eval (1)) rfl), trivial⟩ ⟨hq.1, hq.2.1, (hq.2.2.sift fun y hy => Or.inr (N y hy)).mono (by decide) (by decide)⟩⟩
    · obtain ⟨n, o, h1, h2, h3, _, L, rfl, ⟨rfl, N⟩, hq⟩ := law3_4 l s _ hw tables_1 i0 i1 bR79 bR75 (4 : Int32) bR47 (3 : Int32) s.heap s.heap.size (Nat.le_refl _) S81 S77 F100 E78 F102 F84 E50 E82 hcs hcr (by decide) p e ha hc hk s m _ below hf ((Spec.applies_iff_loose hf).mp happ).1 ⟨rfl, State.Warmed39.refl s, rfl⟩ trivial
      exact ⟨n, _, h1, h2, h3, hpost _ _ _ _ _ _ ⟨Cond.after_iff.mpr rfl, Cond.after_iff.mpr (eq_i res_at (Term.int_eval (1)) rfl), trivial⟩ ⟨hq.1, hq.2.1, (hq.2.2.sift fun y hy => Or.inr (N y hy)).mono (by decide) (by decide)⟩⟩
    · obtain ⟨n, o, h1, h2, h3, _, L, rfl, ⟨rfl, N⟩, hq⟩ := law3_5 l s _ hw tables_1 i0 i1 bR79 bR59 (5 : Int32) bR47 (3 : Int32) s.heap s.heap.size (Nat.le_refl _) S81 S61 F92 E62 F102 F84 E50 E82 hcs hcr (by decide) p e ha hc hk s m _ below hf ((Spec.applies_iff_loose hf).mp happ).1 ⟨rfl, State.Warmed39.refl s, rfl⟩ trivial
      exact ⟨n, _, h1, h2, h3, hpost _ _ _ _ _ _ ⟨Cond.after_iff.mpr rfl, Cond.after_iff.mpr (eq_i res_at (Term.int_eval (1)) rfl), trivial⟩ ⟨hq.1, hq.2.1, (hq.2.2.sift fun y hy => Or.inr (N y hy)).mono (by decide) (by decide)⟩⟩
theorem main_1_1 : Claimed_1_1 := comes_1 fun _ _ _ _ _ _ h hF => ⟨h.1, hF⟩
theorem main_1_2 : Claimed_1_2 := comes_1 fun _ _ _ _ _ _ h hF => ⟨h.2.1, hF⟩
end Jvm.Pilot.@@N@@
namespace Jvm.Pilot.@@N@@
open Jvm Jvm.ClassFile Sem Op Lib Jvm.Free Jvm.Stand Jvm.Pilot.@@N@@.Jvm.D
/-! MADE BY PROGRAM (witnessworld.py) out of the Statement's table words and the real class files: 13 classes; the members and pool entries that the words name. The judged class is class 1, her method 1. -/
namespace start1
open Jvm.ClassFile
def u (s : String) : CpInfo := .utf8 (stringToUtf16 s)
/-- a pool by its gaps: so many unusable entries, then the entry; so many at the end -/
def gap : Nat → List CpInfo → List CpInfo
  | 0, r => r
  | n + 1, r => .unusable :: gap n r
def poolList (es : List (Nat × CpInfo)) (last : Nat) : List CpInfo := es.foldr (fun e r => gap e.1 (e.2 :: r)) (gap last [])
def pool (es : List (Nat × CpInfo)) (last : Nat) : Array CpInfo := ⟨poolList es last⟩
def fileOf (pool : Array CpInfo) (this : Nat) (attrs : Array Attribute := #[]) (ms : Array MethodInfo := #[]) (fl : Nat := 33) (sup : Nat := 0) (ifs : Array Nat := #[]) (fds : Array FieldInfo := #[]) : ClassFile where
  minorVersion := 0
  majorVersion := 65
  constantPool := pool
  accessFlags := fl
  thisClass := this
  superClass := sup
  interfaces := ifs
  fields := fds
  methods := ms
  attributes := attrs
def plain (name : String) (sup : Option ClassId) : Class where
  name := name
  kind := .ordinary
  loader := none
  accessFlags := 33
  super := sup
  interfaces := #[]
  cf := none
  fields := #[]
  methods := #[]
  instanceTypes := #[]
  staticTypes := #[]
  resolved := #[]
  callSites := []
  init := .initialized
  statics := none
  mirror := none

def pool0 : Array CpInfo := pool [(5, u "<init>"), (0, u "()V"), (1, .class_ 10), (1, u "java/lang/Object")] 113

def k0m0 : Method := { name := "<init>", desc := "()V", sig := { parameters := [], returnType := none }, accessFlags := 1, code := none }
/-- java/lang/Object -/
def k0 : Class := { plain "java/lang/Object" none with
  accessFlags := 33
  interfaces := #[]
  cf := some (fileOf pool0 8 #[] #[{ accessFlags := 1, nameIndex := 5, descriptorIndex := 6, attributes := #[] }] 33 0 #[] #[])
  fields := #[]
  methods := #[k0m0]
  instanceTypes := #[]
  staticTypes := #[]
  resolved := Array.replicate 124 none
  statics := none }

def pool1 : Array CpInfo := pool [(2, .class_ 4), (1, u "java/lang/Object"), (0, u "<init>"), (0, u "()V"), (0, .integer 2147483647), (0, .methodref 9 10), (0, .class_ 11), (0, .nameAndType 12 13), (0, u "com/example/willenhall/willenhall/external/DocumentViewIsReachedByPinLaw"), (0, u "view"), (0, u "(I)Lcom/example/willenhall/willenhall/external/DocumentView;"), (0, .methodref 9 15), (0, .nameAndType 16 17), (0, u "role"), (0, u "(I)Lcom/example/willenhall/willenhall/external/ExternalRole;"), (0, .methodref 9 19), (0, .nameAndType 20 21), (0, u "lowest"), (0, u "(I)I"), (0, .methodref 23 24), (0, .class_ 25), (0, .nameAndType 26 27), (0, u "com/example/willenhall/willenhall/external/DocumentView"), (0, u "isReachedBy"), (0, u "(Lcom/example/willenhall/willenhall/external/ExternalRole;)Z"), (0, .fieldref 23 29), (0, .nameAndType 30 31), (0, u "ORDERS"), (0, u "Lcom/example/willenhall/willenhall/external/DocumentView;"), (0, .fieldref 23 33), (0, .nameAndType 34 31), (0, u "ORDER_PRICES"), (0, .fieldref 23 36), (0, .nameAndType 37 31), (0, u "INVOICES"), (0, .fieldref 23 39), (0, .nameAndType 40 31), (0, u "PAYMENTS"), (0, .fieldref 42 43), (0, .class_ 44), (0, .nameAndType 45 46), (0, u "com/example/willenhall/willenhall/external/ExternalRole"), (0, u "BASIC"), (0, u "Lcom/example/willenhall/willenhall/external/ExternalRole;"), (0, .fieldref 42 48), (0, .nameAndType 30 46), (0, .fieldref 42 50), (0, .nameAndType 51 46), (0, u "ORDERS_WITH_PRICES"), (0, .fieldref 42 53), (0, .nameAndType 54 46), (0, u "BILLING"), (0, .fieldref 42 56), (0, .nameAndType 57 46), (0, u "ADMIN"), (0, .fieldref 42 59), (0, .nameAndType 60 46), (0, u "OWNER"), (2, u "law"), (0, u "(II)Z")] 3

def k1m0 : Method := { name := "<init>", desc := "()V", sig := { parameters := [], returnType := none }, accessFlags := 1, code := none }
def k1c1 : Code := { maxStack := 2, maxLocals := 7, code := code, exceptionTable := #[], attributes := #[] }
def k1m1 : Method := { name := "law", desc := "(II)Z", sig := { parameters := [.int, .int], returnType := some .boolean }, accessFlags := 9, code := some k1c1 }
def k1c2 : Code := { maxStack := 2, maxLocals := 1, code := method_3_code, exceptionTable := #[], attributes := #[] }
def k1m2 : Method := { name := "view", desc := "(I)Lcom/example/willenhall/willenhall/external/DocumentView;", sig := { parameters := [.int], returnType := some (.object "com/example/willenhall/willenhall/external/DocumentView") }, accessFlags := 10, code := some k1c2 }
def k1c3 : Code := { maxStack := 2, maxLocals := 1, code := method_4_code, exceptionTable := #[], attributes := #[] }
def k1m3 : Method := { name := "role", desc := "(I)Lcom/example/willenhall/willenhall/external/ExternalRole;", sig := { parameters := [.int], returnType := some (.object "com/example/willenhall/willenhall/external/ExternalRole") }, accessFlags := 10, code := some k1c3 }
def k1c4 : Code := { maxStack := 2, maxLocals := 1, code := method_5_code, exceptionTable := #[], attributes := #[] }
def k1m4 : Method := { name := "lowest", desc := "(I)I", sig := { parameters := [.int], returnType := some .int }, accessFlags := 10, code := some k1c4 }
/-- com/example/willenhall/willenhall/external/DocumentViewIsReachedByPinLaw -/
def k1 : Class := { plain "com/example/willenhall/willenhall/external/DocumentViewIsReachedByPinLaw" (some 0) with
  accessFlags := 49
  interfaces := #[]
  cf := some (fileOf pool1 9 #[] #[{ accessFlags := 1, nameIndex := 5, descriptorIndex := 6, attributes := #[] }, { accessFlags := 9, nameIndex := 63, descriptorIndex := 64, attributes := #[] }, { accessFlags := 10, nameIndex := 12, descriptorIndex := 13, attributes := #[] }, { accessFlags := 10, nameIndex := 16, descriptorIndex := 17, attributes := #[] }, { accessFlags := 10, nameIndex := 20, descriptorIndex := 21, attributes := #[] }] 49 2 #[] #[])
  fields := #[]
  methods := #[k1m0, k1m1, k1m2, k1m3, k1m4]
  instanceTypes := #[]
  staticTypes := #[]
  resolved := Array.replicate 68 none
  statics := none }

def pool2 : Array CpInfo := pool [(1, .class_ 2), (0, u "java/lang/constant/Constable"), (0, .class_ 4), (0, u "java/lang/Object")] 6

/-- java/lang/constant/Constable -/
def k2 : Class := { plain "java/lang/constant/Constable" (some 0) with
  accessFlags := 1537
  interfaces := #[]
  cf := some (fileOf pool2 1 #[] #[] 1537 3 #[] #[])
  fields := #[]
  methods := #[]
  instanceTypes := #[]
  staticTypes := #[]
  resolved := Array.replicate 11 none
  statics := none }

def pool3 : Array CpInfo := pool [(1, .class_ 2), (0, u "java/lang/Comparable"), (0, .class_ 4), (0, u "java/lang/Object")] 7

/-- java/lang/Comparable -/
def k3 : Class := { plain "java/lang/Comparable" (some 0) with
  accessFlags := 1537
  interfaces := #[]
  cf := some (fileOf pool3 1 #[] #[] 1537 3 #[] #[])
  fields := #[]
  methods := #[]
  instanceTypes := #[]
  staticTypes := #[]
  resolved := Array.replicate 12 none
  statics := none }

def pool4 : Array CpInfo := pool [(1, .class_ 2), (0, u "java/io/Serializable"), (0, .class_ 4), (0, u "java/lang/Object")] 2

/-- java/io/Serializable -/
def k4 : Class := { plain "java/io/Serializable" (some 0) with
  accessFlags := 1537
  interfaces := #[]
  cf := some (fileOf pool4 1 #[] #[] 1537 3 #[] #[])
  fields := #[]
  methods := #[]
  instanceTypes := #[]
  staticTypes := #[]
  resolved := Array.replicate 7 none
  statics := none }

def pool5 : Array CpInfo := pool [(2, .class_ 4), (1, u "java/lang/Enum"), (0, u "name"), (0, u "Ljava/lang/String;"), (0, .fieldref 2 8), (0, .nameAndType 9 10), (0, u "ordinal"), (0, u "I"), (1, .class_ 14), (1, u "java/lang/Object"), (4, u "hash"), (86, .class_ 108), (1, u "java/lang/Enum$EnumDesc"), (2, .class_ 112), (0, u "java/lang/constant/Constable"), (0, .class_ 114), (0, u "java/lang/Comparable"), (0, .class_ 116), (0, u "java/io/Serializable"), (9, u "()I")] 77

def k5c0 : Code := { maxStack := 1, maxLocals := 1, code := jdk_37_method_2_code, exceptionTable := #[], attributes := #[] }
def k5m0 : Method := { name := "ordinal", desc := "()I", sig := { parameters := [], returnType := some .int }, accessFlags := 17, code := some k5c0 }
/-- java/lang/Enum -/
def k5 : Class := { plain "java/lang/Enum" (some 0) with
  accessFlags := 1057
  interfaces := #[2, 3, 4]
  cf := some (fileOf pool5 2 #[.nestMembers #[106]] #[{ accessFlags := 17, nameIndex := 9, descriptorIndex := 126, attributes := #[] }] 1057 12 #[111, 113, 115] #[{ accessFlags := 18, nameIndex := 5, descriptorIndex := 6, attributes := #[] }, { accessFlags := 18, nameIndex := 9, descriptorIndex := 10, attributes := #[] }, { accessFlags := 2, nameIndex := 19, descriptorIndex := 10, attributes := #[] }])
  fields := #[{ name := "name", type := (.object "java/lang/String"), accessFlags := 18, slot := 0, constantValue := 0 }, { name := "ordinal", type := .int, accessFlags := 18, slot := 1, constantValue := 0 }, { name := "hash", type := .int, accessFlags := 2, slot := 2, constantValue := 0 }]
  methods := #[k5m0]
  instanceTypes := #[(.object "java/lang/String"), .int, .int]
  staticTypes := #[]
  resolved := Array.replicate 204 none
  statics := none }

def pool6 : Array CpInfo := pool [(1, .class_ 2), (0, u "com/example/willenhall/willenhall/external/DocumentView"), (2, u "ORDERS"), (0, u "Lcom/example/willenhall/willenhall/external/DocumentView;"), (2, u "ORDER_PRICES"), (2, u "INVOICES"), (2, u "PAYMENTS"), (2, u "$VALUES"), (0, u "[Lcom/example/willenhall/willenhall/external/DocumentView;"), (6, .class_ 28), (1, u "java/lang/Enum"), (8, u "apiName"), (0, u "Ljava/lang/String;"), (0, .fieldref 1 40), (0, .nameAndType 41 42), (0, u "lowestRole"), (0, u "Lcom/example/willenhall/willenhall/external/ExternalRole;"), (16, .methodref 60 61), (0, .class_ 62), (0, .nameAndType 63 64), (0, u "com/example/willenhall/willenhall/external/ExternalRole"), (0, u "rank"), (0, u "()I"), (34, u "isReachedBy"), (0, u "(Lcom/example/willenhall/willenhall/external/ExternalRole;)Z")] 27

def k6c0 : Code := { maxStack := 2, maxLocals := 2, code := prog_11_method_6_code, exceptionTable := #[], attributes := #[] }
def k6m0 : Method := { name := "isReachedBy", desc := "(Lcom/example/willenhall/willenhall/external/ExternalRole;)Z", sig := { parameters := [(.object "com/example/willenhall/willenhall/external/ExternalRole")], returnType := some .boolean }, accessFlags := 0, code := some k6c0 }
/-- com/example/willenhall/willenhall/external/DocumentView -/
def k6 : Class := { plain "com/example/willenhall/willenhall/external/DocumentView" (some 5) with
  accessFlags := 16432
  interfaces := #[]
  cf := some (fileOf pool6 1 #[] #[{ accessFlags := 0, nameIndex := 99, descriptorIndex := 100, attributes := #[] }] 16432 26 #[] #[{ accessFlags := 16409, nameIndex := 5, descriptorIndex := 6, attributes := #[] }, { accessFlags := 16409, nameIndex := 9, descriptorIndex := 6, attributes := #[] }, { accessFlags := 16409, nameIndex := 12, descriptorIndex := 6, attributes := #[] }, { accessFlags := 16409, nameIndex := 15, descriptorIndex := 6, attributes := #[] }, { accessFlags := 18, nameIndex := 37, descriptorIndex := 38, attributes := #[] }, { accessFlags := 18, nameIndex := 41, descriptorIndex := 42, attributes := #[] }, { accessFlags := 4122, nameIndex := 18, descriptorIndex := 19, attributes := #[] }])
  fields := #[{ name := "ORDERS", type := (.object "com/example/willenhall/willenhall/external/DocumentView"), accessFlags := 16409, slot := 0, constantValue := 0 }, { name := "ORDER_PRICES", type := (.object "com/example/willenhall/willenhall/external/DocumentView"), accessFlags := 16409, slot := 1, constantValue := 0 }, { name := "INVOICES", type := (.object "com/example/willenhall/willenhall/external/DocumentView"), accessFlags := 16409, slot := 2, constantValue := 0 }, { name := "PAYMENTS", type := (.object "com/example/willenhall/willenhall/external/DocumentView"), accessFlags := 16409, slot := 3, constantValue := 0 }, { name := "apiName", type := (.object "java/lang/String"), accessFlags := 18, slot := 3, constantValue := 0 }, { name := "lowestRole", type := (.object "com/example/willenhall/willenhall/external/ExternalRole"), accessFlags := 18, slot := 4, constantValue := 0 }, { name := "$VALUES", type := (.array (.object "com/example/willenhall/willenhall/external/DocumentView")), accessFlags := 4122, slot := 4, constantValue := 0 }]
  methods := #[k6m0]
  instanceTypes := #[(.object "java/lang/String"), .int, .int, (.object "java/lang/String"), (.object "com/example/willenhall/willenhall/external/ExternalRole")]
  staticTypes := #[(.object "com/example/willenhall/willenhall/external/DocumentView"), (.object "com/example/willenhall/willenhall/external/DocumentView"), (.object "com/example/willenhall/willenhall/external/DocumentView"), (.object "com/example/willenhall/willenhall/external/DocumentView"), (.array (.object "com/example/willenhall/willenhall/external/DocumentView"))]
  resolved := Array.replicate 128 none
  statics := some 0 }

def pool7 : Array CpInfo := pool [(1, .class_ 2), (0, u "com/example/willenhall/willenhall/external/ExternalRole"), (2, u "BASIC"), (0, u "Lcom/example/willenhall/willenhall/external/ExternalRole;"), (2, u "ORDERS"), (2, u "ORDERS_WITH_PRICES"), (2, u "BILLING"), (2, u "ADMIN"), (2, u "OWNER"), (2, u "$VALUES"), (0, u "[Lcom/example/willenhall/willenhall/external/ExternalRole;"), (6, .class_ 34), (1, u "java/lang/Enum"), (8, u "apiName"), (0, u "Ljava/lang/String;"), (2, u "code"), (46, .methodref 1 95), (0, .nameAndType 96 97), (0, u "ordinal"), (0, u "()I"), (60, u "rank")] 50

def k7c0 : Code := { maxStack := 1, maxLocals := 1, code := prog_13_method_8_code, exceptionTable := #[], attributes := #[] }
def k7m0 : Method := { name := "rank", desc := "()I", sig := { parameters := [], returnType := some .int }, accessFlags := 0, code := some k7c0 }
/-- com/example/willenhall/willenhall/external/ExternalRole -/
def k7 : Class := { plain "com/example/willenhall/willenhall/external/ExternalRole" (some 5) with
  accessFlags := 16432
  interfaces := #[]
  cf := some (fileOf pool7 1 #[] #[{ accessFlags := 0, nameIndex := 158, descriptorIndex := 97, attributes := #[] }] 16432 32 #[] #[{ accessFlags := 16409, nameIndex := 5, descriptorIndex := 6, attributes := #[] }, { accessFlags := 16409, nameIndex := 9, descriptorIndex := 6, attributes := #[] }, { accessFlags := 16409, nameIndex := 12, descriptorIndex := 6, attributes := #[] }, { accessFlags := 16409, nameIndex := 15, descriptorIndex := 6, attributes := #[] }, { accessFlags := 16409, nameIndex := 18, descriptorIndex := 6, attributes := #[] }, { accessFlags := 16409, nameIndex := 21, descriptorIndex := 6, attributes := #[] }, { accessFlags := 18, nameIndex := 43, descriptorIndex := 44, attributes := #[] }, { accessFlags := 18, nameIndex := 47, descriptorIndex := 44, attributes := #[] }, { accessFlags := 4122, nameIndex := 24, descriptorIndex := 25, attributes := #[] }])
  fields := #[{ name := "BASIC", type := (.object "com/example/willenhall/willenhall/external/ExternalRole"), accessFlags := 16409, slot := 0, constantValue := 0 }, { name := "ORDERS", type := (.object "com/example/willenhall/willenhall/external/ExternalRole"), accessFlags := 16409, slot := 1, constantValue := 0 }, { name := "ORDERS_WITH_PRICES", type := (.object "com/example/willenhall/willenhall/external/ExternalRole"), accessFlags := 16409, slot := 2, constantValue := 0 }, { name := "BILLING", type := (.object "com/example/willenhall/willenhall/external/ExternalRole"), accessFlags := 16409, slot := 3, constantValue := 0 }, { name := "ADMIN", type := (.object "com/example/willenhall/willenhall/external/ExternalRole"), accessFlags := 16409, slot := 4, constantValue := 0 }, { name := "OWNER", type := (.object "com/example/willenhall/willenhall/external/ExternalRole"), accessFlags := 16409, slot := 5, constantValue := 0 }, { name := "apiName", type := (.object "java/lang/String"), accessFlags := 18, slot := 3, constantValue := 0 }, { name := "code", type := (.object "java/lang/String"), accessFlags := 18, slot := 4, constantValue := 0 }, { name := "$VALUES", type := (.array (.object "com/example/willenhall/willenhall/external/ExternalRole")), accessFlags := 4122, slot := 6, constantValue := 0 }]
  methods := #[k7m0]
  instanceTypes := #[(.object "java/lang/String"), .int, .int, (.object "java/lang/String"), (.object "java/lang/String")]
  staticTypes := #[(.object "com/example/willenhall/willenhall/external/ExternalRole"), (.object "com/example/willenhall/willenhall/external/ExternalRole"), (.object "com/example/willenhall/willenhall/external/ExternalRole"), (.object "com/example/willenhall/willenhall/external/ExternalRole"), (.object "com/example/willenhall/willenhall/external/ExternalRole"), (.object "com/example/willenhall/willenhall/external/ExternalRole"), (.array (.object "com/example/willenhall/willenhall/external/ExternalRole"))]
  resolved := Array.replicate 209 none
  statics := some 1 }

def pool8 : Array CpInfo := pool [(1, u "java/lang/Cloneable"), (0, .class_ 1), (0, u "java/lang/Object"), (0, .class_ 3)] 3

/-- java/lang/Cloneable -/
def k8 : Class := { plain "java/lang/Cloneable" (some 0) with
  accessFlags := 1537
  interfaces := #[]
  cf := some (fileOf pool8 2 #[] #[] 1537 4 #[] #[])
  fields := #[]
  methods := #[]
  instanceTypes := #[]
  staticTypes := #[]
  resolved := Array.replicate 8 none
  statics := none }

/-- the primitive byte -/
def k9 : Class := { plain "byte" none with kind := .primitive 'B', accessFlags := 0x411 }
/-- [B -/
def k10 : Class := { plain "[B" (some 0) with kind := .array 9 .byte, interfaces := #[8, 4], accessFlags := 1041 }

/-- the primitive int -/
def k11 : Class := { plain "int" none with kind := .primitive 'I', accessFlags := 0x411 }
/-- [I -/
def k12 : Class := { plain "[I" (some 0) with kind := .array 11 .int, interfaces := #[8, 4], accessFlags := 1041 }

def heap : Heap := #[{ cls := 6, slots := #[.ref 8, .ref 9, .ref 10, .ref 11, .null], vm := .statics 6 },
  { cls := 7, slots := #[.ref 2, .ref 3, .ref 4, .ref 5, .ref 6, .ref 7, .null], vm := .statics 7 },
  { cls := 7, slots := #[.null, .int 0, .int 0, .null, .null], vm := .none },
  { cls := 7, slots := #[.null, .int 1, .int 0, .null, .null], vm := .none },
  { cls := 7, slots := #[.null, .int 2, .int 0, .null, .null], vm := .none },
  { cls := 7, slots := #[.null, .int 3, .int 0, .null, .null], vm := .none },
  { cls := 7, slots := #[.null, .int 4, .int 0, .null, .null], vm := .none },
  { cls := 7, slots := #[.null, .int 5, .int 0, .null, .null], vm := .none },
  { cls := 6, slots := #[.null, .int 0, .int 0, .null, .ref 3], vm := .none },
  { cls := 6, slots := #[.null, .int 1, .int 0, .null, .ref 4], vm := .none },
  { cls := 6, slots := #[.null, .int 2, .int 0, .null, .ref 5], vm := .none },
  { cls := 6, slots := #[.null, .int 3, .int 0, .null, .ref 5], vm := .none }]
def classes : Array Class := #[k0, k1, k2, k3, k4, k5, k6, k7, k8, k9, k10, k11, k12]
def interned : List (Array UInt16 × Addr) := []
def slotsUsed : Nat := 62
def theMethod : MethodId := ⟨1, 1⟩
def args0 : Array Value := #[.int 5, .int 7]
def aboutOver (below : List Frame) : State where
  vm := { classes := classes, interned := interned.toArray }
  heap := heap
  slotsUsed := slotsUsed
  threads := #[{ frames := .invoking theMethod args0 :: below }]
def below0 : List Frame := [.native { method := ⟨0, 0⟩, args := #[] }]
def about1 : State := aboutOver below0
def p0 : Program := .bare "" "" ""
def e0 : Env := launch0.env 0 0 0
theorem w_frames : about1.frames = Frame.invoking theMethod args0 :: below0 := rfl
set_option maxRecDepth 65536 in
theorem w_args : argsFit about1.vm theMethod args0 = true := by decide +kernel
set_option maxRecDepth 65536 in
theorem w_heap : heapFits about1 = true := by decide +kernel
set_option maxRecDepth 65536 in
theorem w_runnable : about1.curStatus? = some .runnable := by decide +kernel
set_option maxRecDepth 65536 in
theorem w_alone : about1.alone = true := by decide +kernel
set_option maxRecDepth 65536 in
theorem w_named : about1.methodNamed? x = some theMethod := by decide +kernel
set_option maxRecDepth 65536 in
theorem w_hears : about1.hears theMethod below0 = true := by decide +kernel
set_option maxRecDepth 65536 in
theorem w_ripe : about1.ripe theMethod args0 below0 = true := by decide +kernel
theorem w_running : about1.status = .running := rfl
set_option maxRecDepth 65536 in
theorem w_room : about1.hasRoom e0.platform room_1 = true :=
  launch0.hasRoom_least _ room_1 (by decide +kernel) (by decide +kernel) (by decide +kernel) (by decide +kernel) (by decide +kernel) (by decide +kernel)
theorem allAtoms_all (ts : List Jvm.Cond) (a : Array Jvm.Value) (st : Jvm.State) : (allAtoms ts).before a st = ts.all (fun c => c.before a st) := by
  induction ts with
  | nil => rfl
  | cons c t ih =>
    show (Jvm.Cond.and c (allAtoms t)).before a st = _
    rw [Jvm.Cond.before_and, ih, List.all_cons]
def words1 : List Jvm.Cond := Jvm.Cond.code x code maxLocals ret :: tables_1
/-- a 'code' word, met by the world's own term for the bytes: nothing is compared byte by byte -/
theorem code_word {y : MethodName} {bytes : ByteArray} {mx : Nat} {rt : Option FieldType} {a : Array Value} {s : State} {m : MethodId} {meth : Method} {c : Code} (h1 : s.methodNamed? y = some m) (h2 : s.vm.method? m = some meth) (h3 : meth.code = some c) (h4 : c.code = bytes)
    (h5 : (c.maxLocals == mx && c.exceptionTable.isEmpty && decide (c.maxStack ≤ mostOperands) && decide (meth.sig.returnType = rt) && !meth.locks && decide (parseMethodDescriptor y.desc = some meth.sig)) = true) : (Jvm.Cond.code y bytes mx rt).before a s = true := by
  simp only [Bool.and_eq_true, beq_iff_eq, Bool.not_eq_true', decide_eq_true_eq] at h5
  obtain ⟨⟨⟨⟨⟨g1, g2⟩, g3⟩, g4⟩, g5⟩, g6⟩ := h5
  simp [Cond.before, Cond.holds, Cond.value, h1, h2, h3, h4, g1, g2, g3, g4, g5, g6]
def isCode : Jvm.Cond → Bool
  | .code _ _ _ _ => true
  | _ => false
theorem all_split {L : List Jvm.Cond} {P : Jvm.Cond → Bool} (h1 : L.all (fun c => isCode c || P c) = true) (h2 : ∀ c ∈ L.filter isCode, P c = true) : L.all P = true := by
  refine List.all_eq_true.mpr fun c hc => ?_
  have h := List.all_eq_true.mp h1 c hc
  rcases Bool.eq_false_or_eq_true (isCode c) with hi | hi
  · exact h2 c (List.mem_filter.mpr ⟨hc, hi⟩)
  · simpa [hi] using h
set_option maxRecDepth 65536 in
theorem w_c0 : (Jvm.Cond.code x code maxLocals ret).before args0 about1 = true := code_word (m := ⟨1, 1⟩) (meth := k1m1) (c := k1c1) (by decide +kernel) rfl rfl rfl (by decide +kernel)
set_option maxRecDepth 65536 in
theorem w_c1 : (Jvm.Cond.code ({ cls := "com/example/willenhall/willenhall/external/DocumentViewIsReachedByPinLaw", name := "view", desc := "(I)Lcom/example/willenhall/willenhall/external/DocumentView;" } : Jvm.MethodName) method_3_code (1 : Nat) (Option.some (Jvm.ClassFile.FieldType.object "com/example/willenhall/willenhall/external/DocumentView"))).before args0 about1 = true := code_word (m := ⟨1, 2⟩) (meth := k1m2) (c := k1c2) (by decide +kernel) rfl rfl rfl (by decide +kernel)
set_option maxRecDepth 65536 in
theorem w_c2 : (Jvm.Cond.code ({ cls := "com/example/willenhall/willenhall/external/DocumentViewIsReachedByPinLaw", name := "role", desc := "(I)Lcom/example/willenhall/willenhall/external/ExternalRole;" } : Jvm.MethodName) method_4_code (1 : Nat) (Option.some (Jvm.ClassFile.FieldType.object "com/example/willenhall/willenhall/external/ExternalRole"))).before args0 about1 = true := code_word (m := ⟨1, 3⟩) (meth := k1m3) (c := k1c3) (by decide +kernel) rfl rfl rfl (by decide +kernel)
set_option maxRecDepth 65536 in
theorem w_c3 : (Jvm.Cond.code ({ cls := "com/example/willenhall/willenhall/external/DocumentViewIsReachedByPinLaw", name := "lowest", desc := "(I)I" } : Jvm.MethodName) method_5_code (1 : Nat) (Option.some Jvm.ClassFile.FieldType.int)).before args0 about1 = true := code_word (m := ⟨1, 4⟩) (meth := k1m4) (c := k1c4) (by decide +kernel) rfl rfl rfl (by decide +kernel)
set_option maxRecDepth 65536 in
theorem w_c4 : (Jvm.Cond.code ({ cls := "com/example/willenhall/willenhall/external/DocumentView", name := "isReachedBy", desc := "(Lcom/example/willenhall/willenhall/external/ExternalRole;)Z" } : Jvm.MethodName) prog_11_method_6_code (2 : Nat) (Option.some Jvm.ClassFile.FieldType.boolean)).before args0 about1 = true := code_word (m := ⟨6, 0⟩) (meth := k6m0) (c := k6c0) (by decide +kernel) rfl rfl rfl (by decide +kernel)
set_option maxRecDepth 65536 in
theorem w_c5 : (Jvm.Cond.code ({ cls := "com/example/willenhall/willenhall/external/ExternalRole", name := "rank", desc := "()I" } : Jvm.MethodName) prog_13_method_8_code (1 : Nat) (Option.some Jvm.ClassFile.FieldType.int)).before args0 about1 = true := code_word (m := ⟨7, 0⟩) (meth := k7m0) (c := k7c0) (by decide +kernel) rfl rfl rfl (by decide +kernel)
set_option maxRecDepth 65536 in
theorem w_c6 : (Jvm.Cond.code ({ cls := "java/lang/Enum", name := "ordinal", desc := "()I" } : Jvm.MethodName) jdk_37_method_2_code (1 : Nat) (Option.some Jvm.ClassFile.FieldType.int)).before args0 about1 = true := code_word (m := ⟨5, 0⟩) (meth := k5m0) (c := k5c0) (by decide +kernel) rfl rfl rfl (by decide +kernel)
def codes1 : List Jvm.Cond := [Jvm.Cond.code x code maxLocals ret, Jvm.Cond.code ({ cls := "com/example/willenhall/willenhall/external/DocumentViewIsReachedByPinLaw", name := "view", desc := "(I)Lcom/example/willenhall/willenhall/external/DocumentView;" } : Jvm.MethodName) method_3_code (1 : Nat) (Option.some (Jvm.ClassFile.FieldType.object "com/example/willenhall/willenhall/external/DocumentView")), Jvm.Cond.code ({ cls := "com/example/willenhall/willenhall/external/DocumentViewIsReachedByPinLaw", name := "role", desc := "(I)Lcom/example/willenhall/willenhall/external/ExternalRole;" } : Jvm.MethodName) method_4_code (1 : Nat) (Option.some (Jvm.ClassFile.FieldType.object "com/example/willenhall/willenhall/external/ExternalRole")), Jvm.Cond.code ({ cls := "com/example/willenhall/willenhall/external/DocumentViewIsReachedByPinLaw", name := "lowest", desc := "(I)I" } : Jvm.MethodName) method_5_code (1 : Nat) (Option.some Jvm.ClassFile.FieldType.int), Jvm.Cond.code ({ cls := "com/example/willenhall/willenhall/external/DocumentView", name := "isReachedBy", desc := "(Lcom/example/willenhall/willenhall/external/ExternalRole;)Z" } : Jvm.MethodName) prog_11_method_6_code (2 : Nat) (Option.some Jvm.ClassFile.FieldType.boolean), Jvm.Cond.code ({ cls := "com/example/willenhall/willenhall/external/ExternalRole", name := "rank", desc := "()I" } : Jvm.MethodName) prog_13_method_8_code (1 : Nat) (Option.some Jvm.ClassFile.FieldType.int), Jvm.Cond.code ({ cls := "java/lang/Enum", name := "ordinal", desc := "()I" } : Jvm.MethodName) jdk_37_method_2_code (1 : Nat) (Option.some Jvm.ClassFile.FieldType.int)]
set_option maxRecDepth 65536 in
theorem codes_eq : words1.filter isCode = codes1 := rfl
theorem w_codes : ∀ c ∈ words1.filter isCode, c.before args0 about1 = true := by
  rw [codes_eq]
  intro c hc
  simp only [codes1, List.mem_cons, List.not_mem_nil, or_false] at hc
  rcases hc with rfl | rfl | rfl | rfl | rfl | rfl | rfl
  · exact w_c0
  · exact w_c1
  · exact w_c2
  · exact w_c3
  · exact w_c4
  · exact w_c5
  · exact w_c6
set_option maxRecDepth 65536 in
theorem w_t1 : (words1.take 24).all (fun c => isCode c || c.before args0 about1) = true := by decide +kernel
set_option maxRecDepth 65536 in
theorem w_t2 : ((words1.drop 24).take 24).all (fun c => isCode c || c.before args0 about1) = true := by decide +kernel
set_option maxRecDepth 65536 in
theorem w_t3 : ((words1.drop 24).drop 24).all (fun c => isCode c || c.before args0 about1) = true := by decide +kernel
theorem w_tables : (allAtoms (Jvm.Cond.code x code maxLocals ret :: tables_1)).before args0 about1 = true := by
  rw [allAtoms_all]
  show words1.all (fun c => c.before args0 about1) = true
  refine all_split ?_ w_codes
  rw [← List.take_append_drop 24 words1, List.all_append, w_t1, ← List.take_append_drop 24 (words1.drop 24), List.all_append, w_t2, w_t3]
  rfl
set_option maxRecDepth 65536 in
theorem w_case : (Jvm.Cond.and given_1 narrow_1).before args0 about1 = true := by decide +kernel
theorem w_applies : (headSpec (Jvm.Cond.code x code maxLocals ret :: tables_1) room_1).applies x e0.platform about1 = true :=
  (Spec.applies_iff w_frames).mpr ⟨w_running, w_runnable, w_alone, w_named, w_hears, w_ripe, w_room, w_tables⟩
theorem atStart : AtStart classFile x code maxLocals ret World_1 tables_1 room_1 Calls_1 rest_1 Pre_1 launch0 p0 e0 about1 theMethod args0 below0 :=
  ⟨lists_1, trivial, launch0.admits_env _ _ _, launch0.least_env, fairChoices_fair.cas, fairChoices_fair.clock, w_frames, w_args, w_heap, w_applies, trivial, trivial, w_case⟩
end start1
theorem witness_1 : WitnessClaimed_1 := ⟨start1.p0, start1.e0, start1.about1, start1.theMethod, start1.args0, start1.below0, start1.atStart⟩
end Jvm.Pilot.@@N@@
