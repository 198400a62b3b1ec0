import JvmDerived
import JvmDerived.Pilot.@@N@@Statement
import JvmDerived.Pilot.@@N@@Code
set_option linter.unusedVariables false
set_option linter.unusedSimpArgs false
namespace Jvm.RoadKit
open Sem ClassFile Op Lib Jvm.Stand Jvm.Free Jvm.LawKit
section New
variable {p : Program} {l : Launch} {e : Env} {R : Room} {s : State} {m : MethodId} {args : Array Value} {below : List Frame} {meth : Method} {c : Code} {T : State} {locs : List Loc} {cells slots : Nat}
theorem retI (X : Stand p l e R s m args below meth c T locs cells slots) (hx : p.tables.exec = Jvm.exec) {pc : Nat} {Ls : Array Slot} {z : Int32} {rest : List Value} (hret : meth.sig.returnType = some .int) (hd : decode c.code pc = .ok (.ireturn, 1)) {fs : List Frame}
    (hl : ∀ (f : JFrame) (acts : List Action), f.method = m → f.locked = none → f.entered = [] → (doReturn e (T.setTop f) acts (some (.int z))).1 = T.setFrames fs) : Steps p.tables e below (T.setTop (mkF m pc Ls (.int z :: rest))) (T.setFrames fs) :=
  retOut X hx hret rfl (Or.inl ⟨rfl, Or.inl rfl, z, rfl⟩) hd hl
end New
end Jvm.RoadKit
namespace Jvm.Pilot.@@N@@
open Jvm Jvm.ClassFile Sem Op Lib Jvm.Free Jvm.Stand Jvm.LawKit Jvm.RoadKit Bundle Jvm.Pilot.@@N@@.Jvm.D
section Own
variable {Z : State} {h h' : Heap} {a : Addr} {C n d : String} {v : Value} {ws : List Addr}
theorem ow {a0 : Array Value} (hw : ∀ d ∈ tables_1, d.before a0 Z = true) {d : Jvm.Cond} (i : Nat) (h : tables_1[i]? = some d) : d.before a0 Z = true := hw _ (List.mem_of_getElem? h)
abbrev oS (p : Program) (e : Env) (below : List Frame) (T : State) (m : MethodId) (pc : Nat) (Ls : Array Slot) (st : List Value) (t : State) : Prop := Steps p.tables e below (T.setTop (mkF m pc Ls st)) t
def own_Plain (h : Heap) (a : Addr) : Prop := ∀ cell : Cell, h[a]? = some cell → cell.vm.isStatics = false
theorem own_plain_E (F : Exa Z h a C) : own_Plain h a := fun cell hc => by
  obtain ⟨c1, _, h1, -, -, h4, -⟩ := F
  cases hc.symm.trans h1; exact h4
theorem own_plain_F (F : Fld Z h a C n d v) : own_Plain h a := fun cell hc => by
  obtain ⟨c1, _, _, _, _, h1, -, -, -, h4, -⟩ := F
  cases hc.symm.trans h1; exact h4
theorem own_plain_V {k : ClassId} {ty : FieldType} {z : Int32} {vs : List Value} {dv : Value} (F : Arv Z h a k ty z vs dv) : own_Plain h a := fun cell hc => by
  obtain ⟨c1, A, -⟩ := F
  cases hc.symm.trans A.1; exact A.plain
theorem own_sta_keep (F : Sta Z h C n d v) (K : Keep h h' ws) (q : ∀ x ∈ ws, own_Plain h x) : Sta Z h' C n d v := by
  obtain ⟨cf, i, k, f, st, cell, h1, h2, h3, h4, h5, h6, h7⟩ := F
  exact ⟨cf, i, k, f, st, cell, h1, h2, h3, h4, K.2.1 _ _ h5 (fun hm => by rw [q _ hm _ h5] at h6; cases h6), h6, h7⟩
theorem own_ne_EV {a0 : Array Value} {j : Nat} {b : Addr} {k : ClassId} {ty : FieldType} {z : Int32} {vs : List Value} {dv : Value} (F : Exa Z h a C) (wi : (Jvm.Cond.instantiable C j).before a0 Z = true) (G : Arv Z h b k ty z vs dv) : a ≠ b := by
  obtain ⟨c, A, -⟩ := G
  exact ne_arr F wi A
theorem own_mvM {s : State} {a0 args : Array Value} {own host : String} {y : MethodName} {index : Nat} (hZ : Z.Warmed39 s.vm) (w : (Jvm.Cond.methodLinkNest own index y host).before a0 Z = true) : (Jvm.Cond.methodLinkNest own index y host).before args s = true := (Cond.methodLinkNest_wide hZ w :)
theorem own_arr_keep {c : Cell} {ty : FieldType} (F : Arr Z h a c ty) (K : Keep h h' ws) (q : a ∉ ws) : Arr Z h' a c ty := ⟨K.2.1 _ _ F.1 q, F.2⟩
theorem own_ins_keep {b : Bool} (F : Ins Z h a C b) (K : Keep h h' ws) : Ins Z h' a C b := by
  obtain ⟨cell, cT, h1, h2, h3⟩ := F
  obtain ⟨c', e1, e2, e3, -⟩ := K.2.2 _ _ h1
  exact ⟨c', cT, e1, h2, by rw [e2, e3]; exact h3⟩
end Own
abbrev yN0 : MethodName := ⟨"com/example/vaxwire/vaxwire/reply/OrderSegmentMayFollowPinLaw", "pick", "(I)Lcom/example/vaxwire/vaxwire/reply/OrderSegment;"⟩
abbrev yN1 : MethodName := ⟨"java/lang/Enum", "ordinal", "()I"⟩
abbrev yN2 : MethodName := ⟨"com/example/vaxwire/vaxwire/reply/OrderSegment", "ordinal", "()I"⟩
abbrev yN3 : MethodName := ⟨"com/example/vaxwire/vaxwire/reply/OrderSegment", "mayFollow", "(Lcom/example/vaxwire/vaxwire/reply/OrderSegment;)Z"⟩
theorem own_mod (x y : Int32) (k : Int) (hy : y.toInt = k) (hk : 0 < k) : 0 ≤ ((x &&& (2147483647 : Int32)) % y).toInt ∧ ((x &&& (2147483647 : Int32)) % y).toInt < k := by
  have h1 := c_mask x (2147483647 : Int32) 31 (by decide) (by decide)
  have h2 : 0 ≤ (x &&& (2147483647 : Int32)).toInt := by rw [h1]; omega
  have h3 := (c_irem (x &&& (2147483647 : Int32)) y k hy).1 h2
  rw [h3]
  exact ⟨Int.emod_nonneg _ (by omega), Int.emod_lt_of_pos _ hk⟩
theorem own_mask (x m : Int32) (k : Nat) (hk : k ≤ 31) (hm : m.toBitVec.toNat = 2 ^ k - 1) : 0 ≤ (x &&& m).toInt ∧ (x &&& m).toInt < (2 ^ k : Nat) := by
  rw [c_mask x m k hk hm]
  exact ⟨Int.emod_nonneg _ (by have := Nat.two_pow_pos k; omega), Int.emod_lt_of_pos _ (by have := Nat.two_pow_pos k; omega)⟩
theorem own_eq_ref {args : Array Value} {s : State} {a b : Term} {x : Addr} (h : (Jvm.Cond.eq a b).value args s none s [] = some true) (hb : b.eval args s none [] s = some (.ref x)) : a.eval args s none [] s = some (.ref x) := by
  obtain ⟨u, w, h1, h2, -, k2⟩ := cmp_v (Or.inl h)
  cases h2.symm.trans hb
  have hu : u.isRef = true := k2.2
  have q := gotT (eq_R h1 h2 hu rfl) h
  rw [h1, q]
theorem own_in5 {y : Int32} (h0 : 0 ≤ y.toInt) (h1 : y.toInt < 5) : y = (0 : Int32) ∨ y = (1 : Int32) ∨ y = (2 : Int32) ∨ y = (3 : Int32) ∨ y = (4 : Int32) := by
  have h : y.toInt = 0 ∨ y.toInt = 1 ∨ y.toInt = 2 ∨ y.toInt = 3 ∨ y.toInt = 4 := by omega
  rcases h with h | h | h | h | h
  · exact Or.inl (Int32.toInt_inj.mp (h.trans (by decide)))
  · exact Or.inr (Or.inl (Int32.toInt_inj.mp (h.trans (by decide))))
  · exact Or.inr (Or.inr (Or.inl (Int32.toInt_inj.mp (h.trans (by decide)))))
  · exact Or.inr (Or.inr (Or.inr (Or.inl (Int32.toInt_inj.mp (h.trans (by decide))))))
  · exact Or.inr (Or.inr (Or.inr (Or.inr (Int32.toInt_inj.mp (h.trans (by decide))))))
theorem d1_0 : decode method_2_code 0 = .ok (.iload_n 0, 1) := by decide +kernel
theorem d1_1 : decode method_2_code 1 = .ok (.ifCond .ne 7, 3) := by decide +kernel
theorem d1_4 : decode method_2_code 4 = .ok (.getstatic 7, 3) := by decide +kernel
theorem d1_7 : decode method_2_code 7 = .ok (.areturn, 1) := by decide +kernel
theorem pn_0 : plainName "com/example/vaxwire/vaxwire/reply/OrderSegmentMayFollowPinLaw" = true := by first | (simp [plainName, overriddenIn]; done) | decide +kernel
theorem ef_pick0 (m : MethodId)  : entryFrame m #[(.int (0 : Int32))] 1 = mkF m 0 #[.val (.int (0 : Int32))] [] := by first | (simp [entryFrame, mkF, argsToLocals, Value.category]; done) | rfl
def Qpick0 (Z : State) (pR1 : Addr) (h0 : Heap) (n0 : Nat) (v : Option Value) (h : Heap) (L : List Loc) : Prop := v = some (.ref pR1) ∧ Fr n0 L ∧ h = h0
set_option maxRecDepth 65536 in
set_option maxHeartbeats 40000000 in
theorem pick0 (l : Launch) (Z : State) (a0 : Array Value) (hw : ∀ d ∈ tables_1, d.before a0 Z = true) (ws : List Jvm.Cond) (pR1 : Addr) (h0 : Heap) (n0 : Nat) (Z0 : n0 ≤ h0.size) (S_OrderSegment_ORC : Sta Z h0 "com/example/vaxwire/vaxwire/reply/OrderSegment" "ORC" "Lcom/example/vaxwire/vaxwire/reply/OrderSegment;" (.ref pR1)) :
    MetFree l yN0 (head1 (Jvm.Cond.code yN0 method_2_code 1 (some (.object "com/example/vaxwire/vaxwire/reply/OrderSegment")) :: ws) ({ frames := 0, cells := 0, slots := 0, locals := 0 } : Room)) (fun a U => a = #[(.int (0 : Int32))] ∧ Z.Warmed39 U.vm ∧ U.heap = h0) (fun _ _ _ _ _ => True) (fun _ U o U' => ∃ v L, o = .returned v ∧ Qpick0 Z pR1 h0 n0 v U'.heap L ∧ FrameEnd U o U' L ({ frames := 0, cells := 0, slots := 0, locals := 0 } : Room).cells ({ frames := 0, cells := 0, slots := 0, locals := 0 } : Room).slots) := by
  refine MetFree.of_bodySF (plainFor_of_name pn_0) hisR ?_
  intro p e s m args below meth c s₁ Bd hml0 hP hK
  obtain ⟨rfl, hZ, hh⟩ := hP
  have hx := Bd.exec
  have hby := Bd.bytes
  have hml : c.maxLocals = 1 := hml0
  have hown : s.vm.findClass "com/example/vaxwire/vaxwire/reply/OrderSegmentMayFollowPinLaw" = some m.cls := findClass_of_methodNamed Bd.named
  have hnm := (name_of_methodNamed Bd.named Bd.method).1
  have X0 : Stand p l e ({ frames := 0, cells := 0, slots := 0, locals := 0 } : Room) s m #[(.int (0 : Int32))] below meth c s₁ [] 0 0 := Stand.of_body Bd
  have e0 : s₁.heap = h0 := by rw [← hh, Bd.state]; rfl
  have N0 := Fr.nil n0
  have pre0 : ∀ t, Steps p.tables e below (s₁.setTop (mkF m 0 #[.val (.int (0 : Int32))] [])) t → Steps p.tables e below (s₁.setTop (entryFrame m #[(.int (0 : Int32))] 1)) t := fun t k => castTop (ef_pick0 m ) k
  obtain ⟨T2, X2, e2, st2⟩ := getS2 X0 hx hZ hown (host := "") (Or.inl (ow hw 5 rfl)) Via.refl e0 S_OrderSegment_ORC (g := (mkF m 4 #[.val (.int (0 : Int32))] [])) rfl (hb hby d1_4)
  obtain ⟨fs, hr, hrun, hended, hW, hsame⟩ := X2.leave (v := some (.ref pR1)) (fun h => by rw [Bd.returns] at h; cases h)
  refine ⟨_, _, pre0 _ ?_, hrun, hended, _, _, rfl, ?_, ⟨_, rfl⟩, hW, hsame.mono (by decide) (by decide)⟩
  · show oS p e below s₁ m 0 #[.val (.int (0 : Int32))] [] _
    refine XS.iloadN X0.here hx rfl (hb hby d1_0) rfl ?_
    show oS p e below s₁ m 1 #[.val (.int (0 : Int32))] [(.int (0 : Int32))] _
    refine XS.ifNo X0.here hx rfl (hb hby d1_1) rfl ((if0 _ _).trans (teq (by decide : (0 : Int32) = (0 : Int32))).2) ?_
    show oS p e below s₁ m 4 #[.val (.int (0 : Int32))] [] _
    refine st2 _ ?_
    show oS p e below T2 m 7 #[.val (.int (0 : Int32))] [(.ref pR1)] _
    exact retOut X2 hx Bd.returns rfl (Or.inr (Or.inr (Or.inr (Or.inr ⟨rfl, rfl, rfl⟩)))) (hb hby d1_7) hr
  · show Qpick0 Z pR1 h0 n0 _ T2.heap _
    rw [e2]
    exact ⟨rfl, N0, rfl⟩
theorem d1_8 : decode method_2_code 8 = .ok (.iload_n 0, 1) := by decide +kernel
theorem d1_9 : decode method_2_code 9 = .ok (.iconst 1, 1) := by decide +kernel
theorem d1_10 : decode method_2_code 10 = .ok (.if_icmp .ne 7, 3) := by decide +kernel
theorem d1_13 : decode method_2_code 13 = .ok (.getstatic 13, 3) := by decide +kernel
theorem d1_16 : decode method_2_code 16 = .ok (.areturn, 1) := by decide +kernel
theorem ef_pick1 (m : MethodId)  : entryFrame m #[(.int (1 : Int32))] 1 = mkF m 0 #[.val (.int (1 : Int32))] [] := by first | (simp [entryFrame, mkF, argsToLocals, Value.category]; done) | rfl
def Qpick1 (Z : State) (pR1 : Addr) (h0 : Heap) (n0 : Nat) (v : Option Value) (h : Heap) (L : List Loc) : Prop := v = some (.ref pR1) ∧ Fr n0 L ∧ h = h0
set_option maxRecDepth 65536 in
set_option maxHeartbeats 40000000 in
theorem pick1 (l : Launch) (Z : State) (a0 : Array Value) (hw : ∀ d ∈ tables_1, d.before a0 Z = true) (ws : List Jvm.Cond) (pR1 : Addr) (h0 : Heap) (n0 : Nat) (Z0 : n0 ≤ h0.size) (S_OrderSegment_RXA : Sta Z h0 "com/example/vaxwire/vaxwire/reply/OrderSegment" "RXA" "Lcom/example/vaxwire/vaxwire/reply/OrderSegment;" (.ref pR1)) :
    MetFree l yN0 (head1 (Jvm.Cond.code yN0 method_2_code 1 (some (.object "com/example/vaxwire/vaxwire/reply/OrderSegment")) :: ws) ({ frames := 0, cells := 0, slots := 0, locals := 0 } : Room)) (fun a U => a = #[(.int (1 : Int32))] ∧ Z.Warmed39 U.vm ∧ U.heap = h0) (fun _ _ _ _ _ => True) (fun _ U o U' => ∃ v L, o = .returned v ∧ Qpick1 Z pR1 h0 n0 v U'.heap L ∧ FrameEnd U o U' L ({ frames := 0, cells := 0, slots := 0, locals := 0 } : Room).cells ({ frames := 0, cells := 0, slots := 0, locals := 0 } : Room).slots) := by
  refine MetFree.of_bodySF (plainFor_of_name pn_0) hisR ?_
  intro p e s m args below meth c s₁ Bd hml0 hP hK
  obtain ⟨rfl, hZ, hh⟩ := hP
  have hx := Bd.exec
  have hby := Bd.bytes
  have hml : c.maxLocals = 1 := hml0
  have hown : s.vm.findClass "com/example/vaxwire/vaxwire/reply/OrderSegmentMayFollowPinLaw" = some m.cls := findClass_of_methodNamed Bd.named
  have hnm := (name_of_methodNamed Bd.named Bd.method).1
  have X0 : Stand p l e ({ frames := 0, cells := 0, slots := 0, locals := 0 } : Room) s m #[(.int (1 : Int32))] below meth c s₁ [] 0 0 := Stand.of_body Bd
  have e0 : s₁.heap = h0 := by rw [← hh, Bd.state]; rfl
  have N0 := Fr.nil n0
  have pre0 : ∀ t, Steps p.tables e below (s₁.setTop (mkF m 0 #[.val (.int (1 : Int32))] [])) t → Steps p.tables e below (s₁.setTop (entryFrame m #[(.int (1 : Int32))] 1)) t := fun t k => castTop (ef_pick1 m ) k
  obtain ⟨T2, X2, e2, st2⟩ := getS2 X0 hx hZ hown (host := "") (Or.inl (ow hw 26 rfl)) Via.refl e0 S_OrderSegment_RXA (g := (mkF m 13 #[.val (.int (1 : Int32))] [])) rfl (hb hby d1_13)
  obtain ⟨fs, hr, hrun, hended, hW, hsame⟩ := X2.leave (v := some (.ref pR1)) (fun h => by rw [Bd.returns] at h; cases h)
  refine ⟨_, _, pre0 _ ?_, hrun, hended, _, _, rfl, ?_, ⟨_, rfl⟩, hW, hsame.mono (by decide) (by decide)⟩
  · show oS p e below s₁ m 0 #[.val (.int (1 : Int32))] [] _
    refine XS.iloadN X0.here hx rfl (hb hby d1_0) rfl ?_
    show oS p e below s₁ m 1 #[.val (.int (1 : Int32))] [(.int (1 : Int32))] _
    refine XS.ifYes X0.here hx rfl (pc0 := 1) (pc' := 8) rfl (hb hby d1_1) rfl ((if0 _ _).trans (feq (by decide : ¬ ((1 : Int32) = (0 : Int32)))).2) (by decide) (by decide) ?_
    show oS p e below s₁ m 8 #[.val (.int (1 : Int32))] [] _
    refine XS.iloadN X0.here hx rfl (hb hby d1_8) rfl ?_
    show oS p e below s₁ m 9 #[.val (.int (1 : Int32))] [(.int (1 : Int32))] _
    refine XS.iconst X0.here hx rfl (hb hby d1_9) ?_
    show oS p e below s₁ m 10 #[.val (.int (1 : Int32))] [(.int (1 : Int32)), (.int (1 : Int32))] _
    refine XS.icmpNo X0.here hx rfl (hb hby d1_10) rfl (teq (by decide : (1 : Int32) = (1 : Int32))).2 ?_
    show oS p e below s₁ m 13 #[.val (.int (1 : Int32))] [] _
    refine st2 _ ?_
    show oS p e below T2 m 16 #[.val (.int (1 : Int32))] [(.ref pR1)] _
    exact retOut X2 hx Bd.returns rfl (Or.inr (Or.inr (Or.inr (Or.inr ⟨rfl, rfl, rfl⟩)))) (hb hby d1_16) hr
  · show Qpick1 Z pR1 h0 n0 _ T2.heap _
    rw [e2]
    exact ⟨rfl, N0, rfl⟩
theorem d1_17 : decode method_2_code 17 = .ok (.iload_n 0, 1) := by decide +kernel
theorem d1_18 : decode method_2_code 18 = .ok (.iconst 2, 1) := by decide +kernel
theorem d1_19 : decode method_2_code 19 = .ok (.if_icmp .ne 7, 3) := by decide +kernel
theorem d1_22 : decode method_2_code 22 = .ok (.getstatic 16, 3) := by decide +kernel
theorem d1_25 : decode method_2_code 25 = .ok (.areturn, 1) := by decide +kernel
theorem ef_pick2 (m : MethodId)  : entryFrame m #[(.int (2 : Int32))] 1 = mkF m 0 #[.val (.int (2 : Int32))] [] := by first | (simp [entryFrame, mkF, argsToLocals, Value.category]; done) | rfl
def Qpick2 (Z : State) (pR1 : Addr) (h0 : Heap) (n0 : Nat) (v : Option Value) (h : Heap) (L : List Loc) : Prop := v = some (.ref pR1) ∧ Fr n0 L ∧ h = h0
set_option maxRecDepth 65536 in
set_option maxHeartbeats 40000000 in
theorem pick2 (l : Launch) (Z : State) (a0 : Array Value) (hw : ∀ d ∈ tables_1, d.before a0 Z = true) (ws : List Jvm.Cond) (pR1 : Addr) (h0 : Heap) (n0 : Nat) (Z0 : n0 ≤ h0.size) (S_OrderSegment_RXR : Sta Z h0 "com/example/vaxwire/vaxwire/reply/OrderSegment" "RXR" "Lcom/example/vaxwire/vaxwire/reply/OrderSegment;" (.ref pR1)) :
    MetFree l yN0 (head1 (Jvm.Cond.code yN0 method_2_code 1 (some (.object "com/example/vaxwire/vaxwire/reply/OrderSegment")) :: ws) ({ frames := 0, cells := 0, slots := 0, locals := 0 } : Room)) (fun a U => a = #[(.int (2 : Int32))] ∧ Z.Warmed39 U.vm ∧ U.heap = h0) (fun _ _ _ _ _ => True) (fun _ U o U' => ∃ v L, o = .returned v ∧ Qpick2 Z pR1 h0 n0 v U'.heap L ∧ FrameEnd U o U' L ({ frames := 0, cells := 0, slots := 0, locals := 0 } : Room).cells ({ frames := 0, cells := 0, slots := 0, locals := 0 } : Room).slots) := by
  refine MetFree.of_bodySF (plainFor_of_name pn_0) hisR ?_
  intro p e s m args below meth c s₁ Bd hml0 hP hK
  obtain ⟨rfl, hZ, hh⟩ := hP
  have hx := Bd.exec
  have hby := Bd.bytes
  have hml : c.maxLocals = 1 := hml0
  have hown : s.vm.findClass "com/example/vaxwire/vaxwire/reply/OrderSegmentMayFollowPinLaw" = some m.cls := findClass_of_methodNamed Bd.named
  have hnm := (name_of_methodNamed Bd.named Bd.method).1
  have X0 : Stand p l e ({ frames := 0, cells := 0, slots := 0, locals := 0 } : Room) s m #[(.int (2 : Int32))] below meth c s₁ [] 0 0 := Stand.of_body Bd
  have e0 : s₁.heap = h0 := by rw [← hh, Bd.state]; rfl
  have N0 := Fr.nil n0
  have pre0 : ∀ t, Steps p.tables e below (s₁.setTop (mkF m 0 #[.val (.int (2 : Int32))] [])) t → Steps p.tables e below (s₁.setTop (entryFrame m #[(.int (2 : Int32))] 1)) t := fun t k => castTop (ef_pick2 m ) k
  obtain ⟨T2, X2, e2, st2⟩ := getS2 X0 hx hZ hown (host := "") (Or.inl (ow hw 30 rfl)) Via.refl e0 S_OrderSegment_RXR (g := (mkF m 22 #[.val (.int (2 : Int32))] [])) rfl (hb hby d1_22)
  obtain ⟨fs, hr, hrun, hended, hW, hsame⟩ := X2.leave (v := some (.ref pR1)) (fun h => by rw [Bd.returns] at h; cases h)
  refine ⟨_, _, pre0 _ ?_, hrun, hended, _, _, rfl, ?_, ⟨_, rfl⟩, hW, hsame.mono (by decide) (by decide)⟩
  · show oS p e below s₁ m 0 #[.val (.int (2 : Int32))] [] _
    refine XS.iloadN X0.here hx rfl (hb hby d1_0) rfl ?_
    show oS p e below s₁ m 1 #[.val (.int (2 : Int32))] [(.int (2 : Int32))] _
    refine XS.ifYes X0.here hx rfl (pc0 := 1) (pc' := 8) rfl (hb hby d1_1) rfl ((if0 _ _).trans (feq (by decide : ¬ ((2 : Int32) = (0 : Int32)))).2) (by decide) (by decide) ?_
    show oS p e below s₁ m 8 #[.val (.int (2 : Int32))] [] _
    refine XS.iloadN X0.here hx rfl (hb hby d1_8) rfl ?_
    show oS p e below s₁ m 9 #[.val (.int (2 : Int32))] [(.int (2 : Int32))] _
    refine XS.iconst X0.here hx rfl (hb hby d1_9) ?_
    show oS p e below s₁ m 10 #[.val (.int (2 : Int32))] [(.int (1 : Int32)), (.int (2 : Int32))] _
    refine XS.icmpYes X0.here hx rfl (pc0 := 10) (pc' := 17) rfl (hb hby d1_10) rfl (feq (by decide : ¬ ((2 : Int32) = (1 : Int32)))).2 (by decide) (by decide) ?_
    show oS p e below s₁ m 17 #[.val (.int (2 : Int32))] [] _
    refine XS.iloadN X0.here hx rfl (hb hby d1_17) rfl ?_
    show oS p e below s₁ m 18 #[.val (.int (2 : Int32))] [(.int (2 : Int32))] _
    refine XS.iconst X0.here hx rfl (hb hby d1_18) ?_
    show oS p e below s₁ m 19 #[.val (.int (2 : Int32))] [(.int (2 : Int32)), (.int (2 : Int32))] _
    refine XS.icmpNo X0.here hx rfl (hb hby d1_19) rfl (teq (by decide : (2 : Int32) = (2 : Int32))).2 ?_
    show oS p e below s₁ m 22 #[.val (.int (2 : Int32))] [] _
    refine st2 _ ?_
    show oS p e below T2 m 25 #[.val (.int (2 : Int32))] [(.ref pR1)] _
    exact retOut X2 hx Bd.returns rfl (Or.inr (Or.inr (Or.inr (Or.inr ⟨rfl, rfl, rfl⟩)))) (hb hby d1_25) hr
  · show Qpick2 Z pR1 h0 n0 _ T2.heap _
    rw [e2]
    exact ⟨rfl, N0, rfl⟩
theorem d1_26 : decode method_2_code 26 = .ok (.iload_n 0, 1) := by decide +kernel
theorem d1_27 : decode method_2_code 27 = .ok (.iconst 3, 1) := by decide +kernel
theorem d1_28 : decode method_2_code 28 = .ok (.if_icmp .ne 7, 3) := by decide +kernel
theorem d1_31 : decode method_2_code 31 = .ok (.getstatic 19, 3) := by decide +kernel
theorem d1_34 : decode method_2_code 34 = .ok (.areturn, 1) := by decide +kernel
theorem ef_pick3 (m : MethodId)  : entryFrame m #[(.int (3 : Int32))] 1 = mkF m 0 #[.val (.int (3 : Int32))] [] := by first | (simp [entryFrame, mkF, argsToLocals, Value.category]; done) | rfl
def Qpick3 (Z : State) (pR1 : Addr) (h0 : Heap) (n0 : Nat) (v : Option Value) (h : Heap) (L : List Loc) : Prop := v = some (.ref pR1) ∧ Fr n0 L ∧ h = h0
set_option maxRecDepth 65536 in
set_option maxHeartbeats 40000000 in
theorem pick3 (l : Launch) (Z : State) (a0 : Array Value) (hw : ∀ d ∈ tables_1, d.before a0 Z = true) (ws : List Jvm.Cond) (pR1 : Addr) (h0 : Heap) (n0 : Nat) (Z0 : n0 ≤ h0.size) (S_OrderSegment_OBX : Sta Z h0 "com/example/vaxwire/vaxwire/reply/OrderSegment" "OBX" "Lcom/example/vaxwire/vaxwire/reply/OrderSegment;" (.ref pR1)) :
    MetFree l yN0 (head1 (Jvm.Cond.code yN0 method_2_code 1 (some (.object "com/example/vaxwire/vaxwire/reply/OrderSegment")) :: ws) ({ frames := 0, cells := 0, slots := 0, locals := 0 } : Room)) (fun a U => a = #[(.int (3 : Int32))] ∧ Z.Warmed39 U.vm ∧ U.heap = h0) (fun _ _ _ _ _ => True) (fun _ U o U' => ∃ v L, o = .returned v ∧ Qpick3 Z pR1 h0 n0 v U'.heap L ∧ FrameEnd U o U' L ({ frames := 0, cells := 0, slots := 0, locals := 0 } : Room).cells ({ frames := 0, cells := 0, slots := 0, locals := 0 } : Room).slots) := by
  refine MetFree.of_bodySF (plainFor_of_name pn_0) hisR ?_
  intro p e s m args below meth c s₁ Bd hml0 hP hK
  obtain ⟨rfl, hZ, hh⟩ := hP
  have hx := Bd.exec
  have hby := Bd.bytes
  have hml : c.maxLocals = 1 := hml0
  have hown : s.vm.findClass "com/example/vaxwire/vaxwire/reply/OrderSegmentMayFollowPinLaw" = some m.cls := findClass_of_methodNamed Bd.named
  have hnm := (name_of_methodNamed Bd.named Bd.method).1
  have X0 : Stand p l e ({ frames := 0, cells := 0, slots := 0, locals := 0 } : Room) s m #[(.int (3 : Int32))] below meth c s₁ [] 0 0 := Stand.of_body Bd
  have e0 : s₁.heap = h0 := by rw [← hh, Bd.state]; rfl
  have N0 := Fr.nil n0
  have pre0 : ∀ t, Steps p.tables e below (s₁.setTop (mkF m 0 #[.val (.int (3 : Int32))] [])) t → Steps p.tables e below (s₁.setTop (entryFrame m #[(.int (3 : Int32))] 1)) t := fun t k => castTop (ef_pick3 m ) k
  obtain ⟨T2, X2, e2, st2⟩ := getS2 X0 hx hZ hown (host := "") (Or.inl (ow hw 8 rfl)) Via.refl e0 S_OrderSegment_OBX (g := (mkF m 31 #[.val (.int (3 : Int32))] [])) rfl (hb hby d1_31)
  obtain ⟨fs, hr, hrun, hended, hW, hsame⟩ := X2.leave (v := some (.ref pR1)) (fun h => by rw [Bd.returns] at h; cases h)
  refine ⟨_, _, pre0 _ ?_, hrun, hended, _, _, rfl, ?_, ⟨_, rfl⟩, hW, hsame.mono (by decide) (by decide)⟩
  · show oS p e below s₁ m 0 #[.val (.int (3 : Int32))] [] _
    refine XS.iloadN X0.here hx rfl (hb hby d1_0) rfl ?_
    show oS p e below s₁ m 1 #[.val (.int (3 : Int32))] [(.int (3 : Int32))] _
    refine XS.ifYes X0.here hx rfl (pc0 := 1) (pc' := 8) rfl (hb hby d1_1) rfl ((if0 _ _).trans (feq (by decide : ¬ ((3 : Int32) = (0 : Int32)))).2) (by decide) (by decide) ?_
    show oS p e below s₁ m 8 #[.val (.int (3 : Int32))] [] _
    refine XS.iloadN X0.here hx rfl (hb hby d1_8) rfl ?_
    show oS p e below s₁ m 9 #[.val (.int (3 : Int32))] [(.int (3 : Int32))] _
    refine XS.iconst X0.here hx rfl (hb hby d1_9) ?_
    show oS p e below s₁ m 10 #[.val (.int (3 : Int32))] [(.int (1 : Int32)), (.int (3 : Int32))] _
    refine XS.icmpYes X0.here hx rfl (pc0 := 10) (pc' := 17) rfl (hb hby d1_10) rfl (feq (by decide : ¬ ((3 : Int32) = (1 : Int32)))).2 (by decide) (by decide) ?_
    show oS p e below s₁ m 17 #[.val (.int (3 : Int32))] [] _
    refine XS.iloadN X0.here hx rfl (hb hby d1_17) rfl ?_
    show oS p e below s₁ m 18 #[.val (.int (3 : Int32))] [(.int (3 : Int32))] _
    refine XS.iconst X0.here hx rfl (hb hby d1_18) ?_
    show oS p e below s₁ m 19 #[.val (.int (3 : Int32))] [(.int (2 : Int32)), (.int (3 : Int32))] _
    refine XS.icmpYes X0.here hx rfl (pc0 := 19) (pc' := 26) rfl (hb hby d1_19) rfl (feq (by decide : ¬ ((3 : Int32) = (2 : Int32)))).2 (by decide) (by decide) ?_
    show oS p e below s₁ m 26 #[.val (.int (3 : Int32))] [] _
    refine XS.iloadN X0.here hx rfl (hb hby d1_26) rfl ?_
    show oS p e below s₁ m 27 #[.val (.int (3 : Int32))] [(.int (3 : Int32))] _
    refine XS.iconst X0.here hx rfl (hb hby d1_27) ?_
    show oS p e below s₁ m 28 #[.val (.int (3 : Int32))] [(.int (3 : Int32)), (.int (3 : Int32))] _
    refine XS.icmpNo X0.here hx rfl (hb hby d1_28) rfl (teq (by decide : (3 : Int32) = (3 : Int32))).2 ?_
    show oS p e below s₁ m 31 #[.val (.int (3 : Int32))] [] _
    refine st2 _ ?_
    show oS p e below T2 m 34 #[.val (.int (3 : Int32))] [(.ref pR1)] _
    exact retOut X2 hx Bd.returns rfl (Or.inr (Or.inr (Or.inr (Or.inr ⟨rfl, rfl, rfl⟩)))) (hb hby d1_34) hr
  · show Qpick3 Z pR1 h0 n0 _ T2.heap _
    rw [e2]
    exact ⟨rfl, N0, rfl⟩
theorem d1_35 : decode method_2_code 35 = .ok (.getstatic 22, 3) := by decide +kernel
theorem d1_38 : decode method_2_code 38 = .ok (.areturn, 1) := by decide +kernel
theorem ef_pick4 (m : MethodId)  : entryFrame m #[(.int (4 : Int32))] 1 = mkF m 0 #[.val (.int (4 : Int32))] [] := by first | (simp [entryFrame, mkF, argsToLocals, Value.category]; done) | rfl
def Qpick4 (Z : State) (pR1 : Addr) (h0 : Heap) (n0 : Nat) (v : Option Value) (h : Heap) (L : List Loc) : Prop := v = some (.ref pR1) ∧ Fr n0 L ∧ h = h0
set_option maxRecDepth 65536 in
set_option maxHeartbeats 40000000 in
theorem pick4 (l : Launch) (Z : State) (a0 : Array Value) (hw : ∀ d ∈ tables_1, d.before a0 Z = true) (ws : List Jvm.Cond) (pR1 : Addr) (h0 : Heap) (n0 : Nat) (Z0 : n0 ≤ h0.size) (S_OrderSegment_NTE : Sta Z h0 "com/example/vaxwire/vaxwire/reply/OrderSegment" "NTE" "Lcom/example/vaxwire/vaxwire/reply/OrderSegment;" (.ref pR1)) :
    MetFree l yN0 (head1 (Jvm.Cond.code yN0 method_2_code 1 (some (.object "com/example/vaxwire/vaxwire/reply/OrderSegment")) :: ws) ({ frames := 0, cells := 0, slots := 0, locals := 0 } : Room)) (fun a U => a = #[(.int (4 : Int32))] ∧ Z.Warmed39 U.vm ∧ U.heap = h0) (fun _ _ _ _ _ => True) (fun _ U o U' => ∃ v L, o = .returned v ∧ Qpick4 Z pR1 h0 n0 v U'.heap L ∧ FrameEnd U o U' L ({ frames := 0, cells := 0, slots := 0, locals := 0 } : Room).cells ({ frames := 0, cells := 0, slots := 0, locals := 0 } : Room).slots) := by
  refine MetFree.of_bodySF (plainFor_of_name pn_0) hisR ?_
  intro p e s m args below meth c s₁ Bd hml0 hP hK
  obtain ⟨rfl, hZ, hh⟩ := hP
  have hx := Bd.exec
  have hby := Bd.bytes
  have hml : c.maxLocals = 1 := hml0
  have hown : s.vm.findClass "com/example/vaxwire/vaxwire/reply/OrderSegmentMayFollowPinLaw" = some m.cls := findClass_of_methodNamed Bd.named
  have hnm := (name_of_methodNamed Bd.named Bd.method).1
  have X0 : Stand p l e ({ frames := 0, cells := 0, slots := 0, locals := 0 } : Room) s m #[(.int (4 : Int32))] below meth c s₁ [] 0 0 := Stand.of_body Bd
  have e0 : s₁.heap = h0 := by rw [← hh, Bd.state]; rfl
  have N0 := Fr.nil n0
  have pre0 : ∀ t, Steps p.tables e below (s₁.setTop (mkF m 0 #[.val (.int (4 : Int32))] [])) t → Steps p.tables e below (s₁.setTop (entryFrame m #[(.int (4 : Int32))] 1)) t := fun t k => castTop (ef_pick4 m ) k
  obtain ⟨T2, X2, e2, st2⟩ := getS2 X0 hx hZ hown (host := "") (Or.inl (ow hw 24 rfl)) Via.refl e0 S_OrderSegment_NTE (g := (mkF m 35 #[.val (.int (4 : Int32))] [])) rfl (hb hby d1_35)
  obtain ⟨fs, hr, hrun, hended, hW, hsame⟩ := X2.leave (v := some (.ref pR1)) (fun h => by rw [Bd.returns] at h; cases h)
  refine ⟨_, _, pre0 _ ?_, hrun, hended, _, _, rfl, ?_, ⟨_, rfl⟩, hW, hsame.mono (by decide) (by decide)⟩
  · show oS p e below s₁ m 0 #[.val (.int (4 : Int32))] [] _
    refine XS.iloadN X0.here hx rfl (hb hby d1_0) rfl ?_
    show oS p e below s₁ m 1 #[.val (.int (4 : Int32))] [(.int (4 : Int32))] _
    refine XS.ifYes X0.here hx rfl (pc0 := 1) (pc' := 8) rfl (hb hby d1_1) rfl ((if0 _ _).trans (feq (by decide : ¬ ((4 : Int32) = (0 : Int32)))).2) (by decide) (by decide) ?_
    show oS p e below s₁ m 8 #[.val (.int (4 : Int32))] [] _
    refine XS.iloadN X0.here hx rfl (hb hby d1_8) rfl ?_
    show oS p e below s₁ m 9 #[.val (.int (4 : Int32))] [(.int (4 : Int32))] _
    refine XS.iconst X0.here hx rfl (hb hby d1_9) ?_
    show oS p e below s₁ m 10 #[.val (.int (4 : Int32))] [(.int (1 : Int32)), (.int (4 : Int32))] _
    refine XS.icmpYes X0.here hx rfl (pc0 := 10) (pc' := 17) rfl (hb hby d1_10) rfl (feq (by decide : ¬ ((4 : Int32) = (1 : Int32)))).2 (by decide) (by decide) ?_
    show oS p e below s₁ m 17 #[.val (.int (4 : Int32))] [] _
    refine XS.iloadN X0.here hx rfl (hb hby d1_17) rfl ?_
    show oS p e below s₁ m 18 #[.val (.int (4 : Int32))] [(.int (4 : Int32))] _
    refine XS.iconst X0.here hx rfl (hb hby d1_18) ?_
    show oS p e below s₁ m 19 #[.val (.int (4 : Int32))] [(.int (2 : Int32)), (.int (4 : Int32))] _
    refine XS.icmpYes X0.here hx rfl (pc0 := 19) (pc' := 26) rfl (hb hby d1_19) rfl (feq (by decide : ¬ ((4 : Int32) = (2 : Int32)))).2 (by decide) (by decide) ?_
    show oS p e below s₁ m 26 #[.val (.int (4 : Int32))] [] _
    refine XS.iloadN X0.here hx rfl (hb hby d1_26) rfl ?_
    show oS p e below s₁ m 27 #[.val (.int (4 : Int32))] [(.int (4 : Int32))] _
    refine XS.iconst X0.here hx rfl (hb hby d1_27) ?_
    show oS p e below s₁ m 28 #[.val (.int (4 : Int32))] [(.int (3 : Int32)), (.int (4 : Int32))] _
    refine XS.icmpYes X0.here hx rfl (pc0 := 28) (pc' := 35) rfl (hb hby d1_28) rfl (feq (by decide : ¬ ((4 : Int32) = (3 : Int32)))).2 (by decide) (by decide) ?_
    show oS p e below s₁ m 35 #[.val (.int (4 : Int32))] [] _
    refine st2 _ ?_
    show oS p e below T2 m 38 #[.val (.int (4 : Int32))] [(.ref pR1)] _
    exact retOut X2 hx Bd.returns rfl (Or.inr (Or.inr (Or.inr (Or.inr ⟨rfl, rfl, rfl⟩)))) (hb hby d1_38) hr
  · show Qpick4 Z pR1 h0 n0 _ T2.heap _
    rw [e2]
    exact ⟨rfl, N0, rfl⟩
theorem d3_0 : decode jdk_37_method_2_code 0 = .ok (.aload_n 0, 1) := by decide +kernel
theorem d3_1 : decode jdk_37_method_2_code 1 = .ok (.getfield 7, 3) := by decide +kernel
theorem d3_4 : decode jdk_37_method_2_code 4 = .ok (.ireturn, 1) := by decide +kernel
theorem pn_1 : plainName "java/lang/Enum" = true := by first | (simp [plainName, overriddenIn]; done) | decide +kernel
theorem ef_ordinal (m : MethodId) (pR1 : Addr) : entryFrame m #[(.ref pR1)] 1 = mkF m 0 #[.val (.ref pR1)] [] := by first | (simp [entryFrame, mkF, argsToLocals, Value.category]; done) | rfl
def Qordinal (Z : State) (pR1 : Addr) (pI2 : Int32) (h0 : Heap) (n0 : Nat) (v : Option Value) (h : Heap) (L : List Loc) : Prop := v = some (.int pI2) ∧ Fr n0 L ∧ h = h0
set_option maxRecDepth 65536 in
set_option maxHeartbeats 40000000 in
theorem ordinal (l : Launch) (Z : State) (a0 : Array Value) (hw : ∀ d ∈ tables_1, d.before a0 Z = true) (ws : List Jvm.Cond) (pR1 : Addr) (pI2 : Int32) (h0 : Heap) (n0 : Nat) (Z0 : n0 ≤ h0.size) (F_ordinal_pR1 : Fld Z h0 pR1 "java/lang/Enum" "ordinal" "I" (.int pI2)) :
    MetFree l yN1 (head1 (Jvm.Cond.code yN1 jdk_37_method_2_code 1 (some .int) :: ws) ({ frames := 0, cells := 0, slots := 0, locals := 0 } : Room)) (fun a U => a = #[(.ref pR1)] ∧ Z.Warmed39 U.vm ∧ U.heap = h0) (fun _ _ _ _ _ => True) (fun _ U o U' => ∃ v L, o = .returned v ∧ Qordinal Z pR1 pI2 h0 n0 v U'.heap L ∧ FrameEnd U o U' L ({ frames := 0, cells := 0, slots := 0, locals := 0 } : Room).cells ({ frames := 0, cells := 0, slots := 0, locals := 0 } : Room).slots) := by
  refine MetFree.of_bodySF (plainFor_of_name pn_1) hisR ?_
  intro p e s m args below meth c s₁ Bd hml0 hP hK
  obtain ⟨rfl, hZ, hh⟩ := hP
  have hx := Bd.exec
  have hby := Bd.bytes
  have hml : c.maxLocals = 1 := hml0
  have hown : s.vm.findClass "java/lang/Enum" = some m.cls := findClass_of_methodNamed Bd.named
  have hnm := (name_of_methodNamed Bd.named Bd.method).1
  have X0 : Stand p l e ({ frames := 0, cells := 0, slots := 0, locals := 0 } : Room) s m #[(.ref pR1)] below meth c s₁ [] 0 0 := Stand.of_body Bd
  have e0 : s₁.heap = h0 := by rw [← hh, Bd.state]; rfl
  have N0 := Fr.nil n0
  have pre0 : ∀ t, Steps p.tables e below (s₁.setTop (mkF m 0 #[.val (.ref pR1)] [])) t → Steps p.tables e below (s₁.setTop (entryFrame m #[(.ref pR1)] 1)) t := fun t k => castTop (ef_ordinal m pR1) k
  obtain ⟨T3, X3, e3, st3⟩ := getF X0 hx hZ hown (host := "") (Or.inl (ow hw 22 rfl)) Via.refl e0 F_ordinal_pR1 (g := (mkF m 1 #[.val (.ref pR1)] [(.ref pR1)])) rfl rfl (hb hby d3_1)
  obtain ⟨fs, hr, hrun, hended, hW, hsame⟩ := X3.leave (v := some (.int pI2)) (fun h => by rw [Bd.returns] at h; cases h)
  refine ⟨_, _, pre0 _ ?_, hrun, hended, _, _, rfl, ?_, ⟨_, rfl⟩, hW, hsame.mono (by decide) (by decide)⟩
  · show oS p e below s₁ m 0 #[.val (.ref pR1)] [] _
    refine XS.aloadN X0.here hx rfl (hb hby d3_0) rfl rfl ?_
    show oS p e below s₁ m 1 #[.val (.ref pR1)] [(.ref pR1)] _
    refine st3 _ ?_
    show oS p e below T3 m 4 #[.val (.ref pR1)] [(.int pI2)] _
    exact retI X3 hx Bd.returns (hb hby d3_4) hr
  · show Qordinal Z pR1 pI2 h0 n0 _ T3.heap _
    rw [e3]
    exact ⟨rfl, N0, rfl⟩
theorem d2_0 : decode prog_104_method_4_code 0 = .ok (.aload_n 0, 1) := by decide +kernel
theorem d2_1 : decode prog_104_method_4_code 1 = .ok (.invokevirtual 38, 3) := by decide +kernel
theorem pd_0 : parseMethodDescriptor "()I" = some ⟨[], some .int⟩ := by decide +kernel
theorem d2_4 : decode prog_104_method_4_code 4 = .ok (.tableswitch 36 0 4 #[46, 50, 65, 80, 95], 36) := by decide +kernel
theorem d2_50 : decode prog_104_method_4_code 50 = .ok (.iconst 0, 1) := by decide +kernel
theorem d2_51 : decode prog_104_method_4_code 51 = .ok (.goto 60, 3) := by decide +kernel
theorem d2_111 : decode prog_104_method_4_code 111 = .ok (.ireturn, 1) := by decide +kernel
theorem pn_2 : plainName "com/example/vaxwire/vaxwire/reply/OrderSegment" = true := by first | (simp [plainName, overriddenIn]; done) | decide +kernel
theorem ef_mf0 (m : MethodId) (pR1 : Addr) (pR2 : Addr) : entryFrame m #[(.ref pR1), (.ref pR2)] 2 = mkF m 0 #[.val (.ref pR1), .val (.ref pR2)] [] := by first | (simp [entryFrame, mkF, argsToLocals, Value.category]; done) | rfl
def Qmf0 (Z : State) (pR1 : Addr) (pR2 : Addr) (h0 : Heap) (n0 : Nat) (v : Option Value) (h : Heap) (L : List Loc) : Prop := v = some (.int (0 : Int32)) ∧ Fr n0 L ∧ h = h0
set_option maxRecDepth 65536 in
set_option maxHeartbeats 40000000 in
theorem mf0 (l : Launch) (Z : State) (a0 : Array Value) (hw : ∀ d ∈ tables_1, d.before a0 Z = true) (ws : List Jvm.Cond) (pR1 : Addr) (pR2 : Addr) (h0 : Heap) (n0 : Nat) (Z0 : n0 ≤ h0.size) (F_ordinal_pR1 : Fld Z h0 pR1 "java/lang/Enum" "ordinal" "I" (.int (0 : Int32))) (E_pR1 : Exa Z h0 pR1 "com/example/vaxwire/vaxwire/reply/OrderSegment") :
    MetFree l yN3 (head1 (Jvm.Cond.code yN3 prog_104_method_4_code 2 (some .boolean) :: ws) ({ frames := 1, cells := 0, slots := 0, locals := 12 } : Room)) (fun a U => a = #[(.ref pR1), (.ref pR2)] ∧ Z.Warmed39 U.vm ∧ U.heap = h0) (fun _ _ _ _ _ => True) (fun _ U o U' => ∃ v L, o = .returned v ∧ Qmf0 Z pR1 pR2 h0 n0 v U'.heap L ∧ FrameEnd U o U' L ({ frames := 1, cells := 0, slots := 0, locals := 12 } : Room).cells ({ frames := 1, cells := 0, slots := 0, locals := 12 } : Room).slots) := by
  refine MetFree.of_bodySF (plainFor_of_name pn_2) hisR ?_
  intro p e s m args below meth c s₁ Bd hml0 hP hK
  obtain ⟨rfl, hZ, hh⟩ := hP
  have hx := Bd.exec
  have hby := Bd.bytes
  have hml : c.maxLocals = 2 := hml0
  have hown : s.vm.findClass "com/example/vaxwire/vaxwire/reply/OrderSegment" = some m.cls := findClass_of_methodNamed Bd.named
  have hnm := (name_of_methodNamed Bd.named Bd.method).1
  have X0 : Stand p l e ({ frames := 1, cells := 0, slots := 0, locals := 12 } : Room) s m #[(.ref pR1), (.ref pR2)] below meth c s₁ [] 0 0 := Stand.of_body Bd
  have e0 : s₁.heap = h0 := by rw [← hh, Bd.state]; rfl
  have N0 := Fr.nil n0
  have pre0 : ∀ t, Steps p.tables e below (s₁.setTop (mkF m 0 #[.val (.ref pR1), .val (.ref pR2)] [])) t → Steps p.tables e below (s₁.setTop (entryFrame m #[(.ref pR1), (.ref pR2)] 2)) t := fun t k => castTop (ef_mf0 m pR1 pR2) k
  obtain ⟨cq3, kq3, q3a, q3b, q3c⟩ := isOf hZ e0 E_pR1
  obtain ⟨_, _, ⟨T3, L3, k3, n3⟩, -, X3, ⟨Lc3, hQ3, l3, y3, z3⟩, st3⟩ := X0.virtualBackUp hx (owner := "java/lang/Enum") (x := yN2) (y := yN1) hown (mvT hZ (ow hw 15 rfl)) (mvT hZ (ow hw 16 rfl)) (mvT hZ (ow hw 17 rfl)) (by decide) (mvT hZ (ow hw 19 rfl)) (mvT hZ (ow hw 18 rfl)) (backOf (W := 0) (ordinal l Z a0 hw [] pR1 (0 : Int32) h0 n0 Z0 F_ordinal_pR1) hZ (ow hw 21 rfl) (ow hw 20 rfl) (by decide) (by decide)) q3a q3c (g := (mkF m 1 #[.val (.ref pR1), .val (.ref pR2)] [(.ref pR1)])) rfl (by rw [hml]; rfl) (Steps.refl _) (argsL := []) (rest := []) (lenOf pd_0 rfl) rfl (by show 2 * 0 + _ ≤ _; exact Nat.le_of_eq rfl) (hb hby d2_1) (fun _ _ => ⟨rfl, e0, (by decide : 0 + 0 ≤ _), (by decide : 0 + 0 ≤ _)⟩)
  dsimp only [Pt.U, Pt.locs, Pt.cells, Pt.slots] at X3 l3 y3 z3 st3 hQ3
  subst l3 y3 z3
  obtain ⟨rfl, Nq3, e3⟩ := hQ3
  have N3 := Fr.app N0 Nq3
  obtain ⟨fs, hr, hrun, hended, hW, hsame⟩ := X3.leave (v := some (.int (0 : Int32))) (fun h => by rw [Bd.returns] at h; cases h)
  refine ⟨_, _, pre0 _ ?_, hrun, hended, _, _, rfl, ?_, ⟨_, rfl⟩, hW, hsame.mono (by decide) (by decide)⟩
  · show oS p e below s₁ m 0 #[.val (.ref pR1), .val (.ref pR2)] [] _
    refine XS.aloadN X0.here hx rfl (hb hby d2_0) rfl rfl ?_
    show oS p e below s₁ m 1 #[.val (.ref pR1), .val (.ref pR2)] [(.ref pR1)] _
    refine st3.trans ?_
    show oS p e below T3 m 4 #[.val (.ref pR1), .val (.ref pR2)] [(.int (0 : Int32))] _
    refine XS.tswIn X3.here hx rfl (pc0 := 4) (pc' := 50) (o := 46) rfl (hb hby d2_4) rfl (by decide) (by first | rfl | decide) (by decide) (by decide) ?_
    show oS p e below T3 m 50 #[.val (.ref pR1), .val (.ref pR2)] [] _
    refine XS.iconst X3.here hx rfl (hb hby d2_50) ?_
    show oS p e below T3 m 51 #[.val (.ref pR1), .val (.ref pR2)] [(.int (0 : Int32))] _
    refine XS.goto X3.here hx rfl (pc0 := 51) (pc' := 111) rfl (hb hby d2_51) (by decide) (by decide) ?_
    show oS p e below T3 m 111 #[.val (.ref pR1), .val (.ref pR2)] [(.int (0 : Int32))] _
    exact retN X3 hx (t := .boolean) Bd.returns (by simp) (hb hby d2_111) hr
  · show Qmf0 Z pR1 pR2 h0 n0 _ T3.heap _
    rw [e3]
    exact ⟨rfl, N3, rfl⟩
theorem d2_54 : decode prog_104_method_4_code 54 = .ok (.aload_n 1, 1) := by decide +kernel
theorem d2_55 : decode prog_104_method_4_code 55 = .ok (.getstatic 3, 3) := by decide +kernel
theorem d2_58 : decode prog_104_method_4_code 58 = .ok (.if_acmp .ne 7, 3) := by decide +kernel
theorem d2_61 : decode prog_104_method_4_code 61 = .ok (.iconst 1, 1) := by decide +kernel
theorem d2_62 : decode prog_104_method_4_code 62 = .ok (.goto 49, 3) := by decide +kernel
theorem ef_mf1s (m : MethodId) (pR1 : Addr) (pR2 : Addr) : entryFrame m #[(.ref pR1), (.ref pR2)] 2 = mkF m 0 #[.val (.ref pR1), .val (.ref pR2)] [] := by first | (simp [entryFrame, mkF, argsToLocals, Value.category]; done) | rfl
def Qmf1s (Z : State) (pR1 : Addr) (pR2 : Addr) (pR4 : Addr) (h0 : Heap) (n0 : Nat) (v : Option Value) (h : Heap) (L : List Loc) : Prop := v = some (.int (1 : Int32)) ∧ Fr n0 L ∧ h = h0
set_option maxRecDepth 65536 in
set_option maxHeartbeats 40000000 in
theorem mf1s (l : Launch) (Z : State) (a0 : Array Value) (hw : ∀ d ∈ tables_1, d.before a0 Z = true) (ws : List Jvm.Cond) (pR1 : Addr) (pR2 : Addr) (pR4 : Addr) (h0 : Heap) (n0 : Nat) (Z0 : n0 ≤ h0.size) (F_ordinal_pR1 : Fld Z h0 pR1 "java/lang/Enum" "ordinal" "I" (.int (1 : Int32))) (E_pR1 : Exa Z h0 pR1 "com/example/vaxwire/vaxwire/reply/OrderSegment") (S_OrderSegment_ORC : Sta Z h0 "com/example/vaxwire/vaxwire/reply/OrderSegment" "ORC" "Lcom/example/vaxwire/vaxwire/reply/OrderSegment;" (.ref pR4)) (hc58 : pR2 = pR4) :
    MetFree l yN3 (head1 (Jvm.Cond.code yN3 prog_104_method_4_code 2 (some .boolean) :: ws) ({ frames := 1, cells := 0, slots := 0, locals := 12 } : Room)) (fun a U => a = #[(.ref pR1), (.ref pR2)] ∧ Z.Warmed39 U.vm ∧ U.heap = h0) (fun _ _ _ _ _ => True) (fun _ U o U' => ∃ v L, o = .returned v ∧ Qmf1s Z pR1 pR2 pR4 h0 n0 v U'.heap L ∧ FrameEnd U o U' L ({ frames := 1, cells := 0, slots := 0, locals := 12 } : Room).cells ({ frames := 1, cells := 0, slots := 0, locals := 12 } : Room).slots) := by
  refine MetFree.of_bodySF (plainFor_of_name pn_2) hisR ?_
  intro p e s m args below meth c s₁ Bd hml0 hP hK
  obtain ⟨rfl, hZ, hh⟩ := hP
  have hx := Bd.exec
  have hby := Bd.bytes
  have hml : c.maxLocals = 2 := hml0
  have hown : s.vm.findClass "com/example/vaxwire/vaxwire/reply/OrderSegment" = some m.cls := findClass_of_methodNamed Bd.named
  have hnm := (name_of_methodNamed Bd.named Bd.method).1
  have X0 : Stand p l e ({ frames := 1, cells := 0, slots := 0, locals := 12 } : Room) s m #[(.ref pR1), (.ref pR2)] below meth c s₁ [] 0 0 := Stand.of_body Bd
  have e0 : s₁.heap = h0 := by rw [← hh, Bd.state]; rfl
  have N0 := Fr.nil n0
  have pre0 : ∀ t, Steps p.tables e below (s₁.setTop (mkF m 0 #[.val (.ref pR1), .val (.ref pR2)] [])) t → Steps p.tables e below (s₁.setTop (entryFrame m #[(.ref pR1), (.ref pR2)] 2)) t := fun t k => castTop (ef_mf1s m pR1 pR2) k
  obtain ⟨cq3, kq3, q3a, q3b, q3c⟩ := isOf hZ e0 E_pR1
  obtain ⟨_, _, ⟨T3, L3, k3, n3⟩, -, X3, ⟨Lc3, hQ3, l3, y3, z3⟩, st3⟩ := X0.virtualBackUp hx (owner := "java/lang/Enum") (x := yN2) (y := yN1) hown (mvT hZ (ow hw 15 rfl)) (mvT hZ (ow hw 16 rfl)) (mvT hZ (ow hw 17 rfl)) (by decide) (mvT hZ (ow hw 19 rfl)) (mvT hZ (ow hw 18 rfl)) (backOf (W := 0) (ordinal l Z a0 hw [] pR1 (1 : Int32) h0 n0 Z0 F_ordinal_pR1) hZ (ow hw 21 rfl) (ow hw 20 rfl) (by decide) (by decide)) q3a q3c (g := (mkF m 1 #[.val (.ref pR1), .val (.ref pR2)] [(.ref pR1)])) rfl (by rw [hml]; rfl) (Steps.refl _) (argsL := []) (rest := []) (lenOf pd_0 rfl) rfl (by show 2 * 0 + _ ≤ _; exact Nat.le_of_eq rfl) (hb hby d2_1) (fun _ _ => ⟨rfl, e0, (by decide : 0 + 0 ≤ _), (by decide : 0 + 0 ≤ _)⟩)
  dsimp only [Pt.U, Pt.locs, Pt.cells, Pt.slots] at X3 l3 y3 z3 st3 hQ3
  subst l3 y3 z3
  obtain ⟨rfl, Nq3, e3⟩ := hQ3
  have N3 := Fr.app N0 Nq3
  obtain ⟨T5, X5, e5, st5⟩ := getS2 X3 hx hZ hown (host := "") (Or.inl (ow hw 29 rfl)) Via.refl e3 S_OrderSegment_ORC (g := (mkF m 55 #[.val (.ref pR1), .val (.ref pR2)] [(.ref pR2)])) rfl (hb hby d2_55)
  obtain ⟨fs, hr, hrun, hended, hW, hsame⟩ := X5.leave (v := some (.int (1 : Int32))) (fun h => by rw [Bd.returns] at h; cases h)
  refine ⟨_, _, pre0 _ ?_, hrun, hended, _, _, rfl, ?_, ⟨_, rfl⟩, hW, hsame.mono (by decide) (by decide)⟩
  · show oS p e below s₁ m 0 #[.val (.ref pR1), .val (.ref pR2)] [] _
    refine XS.aloadN X0.here hx rfl (hb hby d2_0) rfl rfl ?_
    show oS p e below s₁ m 1 #[.val (.ref pR1), .val (.ref pR2)] [(.ref pR1)] _
    refine st3.trans ?_
    show oS p e below T3 m 4 #[.val (.ref pR1), .val (.ref pR2)] [(.int (1 : Int32))] _
    refine XS.tswIn X3.here hx rfl (pc0 := 4) (pc' := 54) (o := 50) rfl (hb hby d2_4) rfl (by decide) (by first | rfl | decide) (by decide) (by decide) ?_
    show oS p e below T3 m 54 #[.val (.ref pR1), .val (.ref pR2)] [] _
    refine XS.aloadN X3.here hx rfl (hb hby d2_54) rfl rfl ?_
    show oS p e below T3 m 55 #[.val (.ref pR1), .val (.ref pR2)] [(.ref pR2)] _
    refine st5 _ ?_
    show oS p e below T5 m 58 #[.val (.ref pR1), .val (.ref pR2)] [(.ref pR4), (.ref pR2)] _
    refine Jvm.RoadKit.acmp (g := (mkF m 58 #[.val (.ref pR1), .val (.ref pR2)] [(.ref pR4), (.ref pR2)])) X5 hx rfl rfl rfl (pc0 := 58) (pc' := 61) (same := true) rfl (hb hby d2_58) rfl (decide_eq_true (congrArg Value.ref hc58)) (by decide) (by decide) ?_
    show oS p e below T5 m 61 #[.val (.ref pR1), .val (.ref pR2)] [] _
    refine XS.iconst X5.here hx rfl (hb hby d2_61) ?_
    show oS p e below T5 m 62 #[.val (.ref pR1), .val (.ref pR2)] [(.int (1 : Int32))] _
    refine XS.goto X5.here hx rfl (pc0 := 62) (pc' := 111) rfl (hb hby d2_62) (by decide) (by decide) ?_
    show oS p e below T5 m 111 #[.val (.ref pR1), .val (.ref pR2)] [(.int (1 : Int32))] _
    exact retN X5 hx (t := .boolean) Bd.returns (by simp) (hb hby d2_111) hr
  · show Qmf1s Z pR1 pR2 pR4 h0 n0 _ T5.heap _
    rw [e5]
    exact ⟨rfl, N3, rfl⟩
theorem d2_65 : decode prog_104_method_4_code 65 = .ok (.iconst 0, 1) := by decide +kernel
theorem d2_66 : decode prog_104_method_4_code 66 = .ok (.goto 45, 3) := by decide +kernel
theorem ef_mf1d (m : MethodId) (pR1 : Addr) (pR2 : Addr) : entryFrame m #[(.ref pR1), (.ref pR2)] 2 = mkF m 0 #[.val (.ref pR1), .val (.ref pR2)] [] := by first | (simp [entryFrame, mkF, argsToLocals, Value.category]; done) | rfl
def Qmf1d (Z : State) (pR1 : Addr) (pR2 : Addr) (pR4 : Addr) (h0 : Heap) (n0 : Nat) (v : Option Value) (h : Heap) (L : List Loc) : Prop := v = some (.int (0 : Int32)) ∧ Fr n0 L ∧ h = h0
set_option maxRecDepth 65536 in
set_option maxHeartbeats 40000000 in
theorem mf1d (l : Launch) (Z : State) (a0 : Array Value) (hw : ∀ d ∈ tables_1, d.before a0 Z = true) (ws : List Jvm.Cond) (pR1 : Addr) (pR2 : Addr) (pR4 : Addr) (h0 : Heap) (n0 : Nat) (Z0 : n0 ≤ h0.size) (F_ordinal_pR1 : Fld Z h0 pR1 "java/lang/Enum" "ordinal" "I" (.int (1 : Int32))) (E_pR1 : Exa Z h0 pR1 "com/example/vaxwire/vaxwire/reply/OrderSegment") (S_OrderSegment_ORC : Sta Z h0 "com/example/vaxwire/vaxwire/reply/OrderSegment" "ORC" "Lcom/example/vaxwire/vaxwire/reply/OrderSegment;" (.ref pR4)) (hc58 : pR2 ≠ pR4) :
    MetFree l yN3 (head1 (Jvm.Cond.code yN3 prog_104_method_4_code 2 (some .boolean) :: ws) ({ frames := 1, cells := 0, slots := 0, locals := 12 } : Room)) (fun a U => a = #[(.ref pR1), (.ref pR2)] ∧ Z.Warmed39 U.vm ∧ U.heap = h0) (fun _ _ _ _ _ => True) (fun _ U o U' => ∃ v L, o = .returned v ∧ Qmf1d Z pR1 pR2 pR4 h0 n0 v U'.heap L ∧ FrameEnd U o U' L ({ frames := 1, cells := 0, slots := 0, locals := 12 } : Room).cells ({ frames := 1, cells := 0, slots := 0, locals := 12 } : Room).slots) := by
  refine MetFree.of_bodySF (plainFor_of_name pn_2) hisR ?_
  intro p e s m args below meth c s₁ Bd hml0 hP hK
  obtain ⟨rfl, hZ, hh⟩ := hP
  have hx := Bd.exec
  have hby := Bd.bytes
  have hml : c.maxLocals = 2 := hml0
  have hown : s.vm.findClass "com/example/vaxwire/vaxwire/reply/OrderSegment" = some m.cls := findClass_of_methodNamed Bd.named
  have hnm := (name_of_methodNamed Bd.named Bd.method).1
  have X0 : Stand p l e ({ frames := 1, cells := 0, slots := 0, locals := 12 } : Room) s m #[(.ref pR1), (.ref pR2)] below meth c s₁ [] 0 0 := Stand.of_body Bd
  have e0 : s₁.heap = h0 := by rw [← hh, Bd.state]; rfl
  have N0 := Fr.nil n0
  have pre0 : ∀ t, Steps p.tables e below (s₁.setTop (mkF m 0 #[.val (.ref pR1), .val (.ref pR2)] [])) t → Steps p.tables e below (s₁.setTop (entryFrame m #[(.ref pR1), (.ref pR2)] 2)) t := fun t k => castTop (ef_mf1d m pR1 pR2) k
  obtain ⟨cq3, kq3, q3a, q3b, q3c⟩ := isOf hZ e0 E_pR1
  obtain ⟨_, _, ⟨T3, L3, k3, n3⟩, -, X3, ⟨Lc3, hQ3, l3, y3, z3⟩, st3⟩ := X0.virtualBackUp hx (owner := "java/lang/Enum") (x := yN2) (y := yN1) hown (mvT hZ (ow hw 15 rfl)) (mvT hZ (ow hw 16 rfl)) (mvT hZ (ow hw 17 rfl)) (by decide) (mvT hZ (ow hw 19 rfl)) (mvT hZ (ow hw 18 rfl)) (backOf (W := 0) (ordinal l Z a0 hw [] pR1 (1 : Int32) h0 n0 Z0 F_ordinal_pR1) hZ (ow hw 21 rfl) (ow hw 20 rfl) (by decide) (by decide)) q3a q3c (g := (mkF m 1 #[.val (.ref pR1), .val (.ref pR2)] [(.ref pR1)])) rfl (by rw [hml]; rfl) (Steps.refl _) (argsL := []) (rest := []) (lenOf pd_0 rfl) rfl (by show 2 * 0 + _ ≤ _; exact Nat.le_of_eq rfl) (hb hby d2_1) (fun _ _ => ⟨rfl, e0, (by decide : 0 + 0 ≤ _), (by decide : 0 + 0 ≤ _)⟩)
  dsimp only [Pt.U, Pt.locs, Pt.cells, Pt.slots] at X3 l3 y3 z3 st3 hQ3
  subst l3 y3 z3
  obtain ⟨rfl, Nq3, e3⟩ := hQ3
  have N3 := Fr.app N0 Nq3
  obtain ⟨T5, X5, e5, st5⟩ := getS2 X3 hx hZ hown (host := "") (Or.inl (ow hw 29 rfl)) Via.refl e3 S_OrderSegment_ORC (g := (mkF m 55 #[.val (.ref pR1), .val (.ref pR2)] [(.ref pR2)])) rfl (hb hby d2_55)
  obtain ⟨fs, hr, hrun, hended, hW, hsame⟩ := X5.leave (v := some (.int (0 : Int32))) (fun h => by rw [Bd.returns] at h; cases h)
  refine ⟨_, _, pre0 _ ?_, hrun, hended, _, _, rfl, ?_, ⟨_, rfl⟩, hW, hsame.mono (by decide) (by decide)⟩
  · show oS p e below s₁ m 0 #[.val (.ref pR1), .val (.ref pR2)] [] _
    refine XS.aloadN X0.here hx rfl (hb hby d2_0) rfl rfl ?_
    show oS p e below s₁ m 1 #[.val (.ref pR1), .val (.ref pR2)] [(.ref pR1)] _
    refine st3.trans ?_
    show oS p e below T3 m 4 #[.val (.ref pR1), .val (.ref pR2)] [(.int (1 : Int32))] _
    refine XS.tswIn X3.here hx rfl (pc0 := 4) (pc' := 54) (o := 50) rfl (hb hby d2_4) rfl (by decide) (by first | rfl | decide) (by decide) (by decide) ?_
    show oS p e below T3 m 54 #[.val (.ref pR1), .val (.ref pR2)] [] _
    refine XS.aloadN X3.here hx rfl (hb hby d2_54) rfl rfl ?_
    show oS p e below T3 m 55 #[.val (.ref pR1), .val (.ref pR2)] [(.ref pR2)] _
    refine st5 _ ?_
    show oS p e below T5 m 58 #[.val (.ref pR1), .val (.ref pR2)] [(.ref pR4), (.ref pR2)] _
    refine Jvm.RoadKit.acmp (g := (mkF m 58 #[.val (.ref pR1), .val (.ref pR2)] [(.ref pR4), (.ref pR2)])) X5 hx rfl rfl rfl (pc0 := 58) (pc' := 65) (same := false) rfl (hb hby d2_58) rfl (decide_eq_false fun q => hc58 (Value.ref.inj q)) (by decide) (by decide) ?_
    show oS p e below T5 m 65 #[.val (.ref pR1), .val (.ref pR2)] [] _
    refine XS.iconst X5.here hx rfl (hb hby d2_65) ?_
    show oS p e below T5 m 66 #[.val (.ref pR1), .val (.ref pR2)] [(.int (0 : Int32))] _
    refine XS.goto X5.here hx rfl (pc0 := 66) (pc' := 111) rfl (hb hby d2_66) (by decide) (by decide) ?_
    show oS p e below T5 m 111 #[.val (.ref pR1), .val (.ref pR2)] [(.int (0 : Int32))] _
    exact retN X5 hx (t := .boolean) Bd.returns (by simp) (hb hby d2_111) hr
  · show Qmf1d Z pR1 pR2 pR4 h0 n0 _ T5.heap _
    rw [e5]
    exact ⟨rfl, N3, rfl⟩
theorem d2_69 : decode prog_104_method_4_code 69 = .ok (.aload_n 1, 1) := by decide +kernel
theorem d2_70 : decode prog_104_method_4_code 70 = .ok (.getstatic 7, 3) := by decide +kernel
theorem d2_73 : decode prog_104_method_4_code 73 = .ok (.if_acmp .ne 7, 3) := by decide +kernel
theorem d2_76 : decode prog_104_method_4_code 76 = .ok (.iconst 1, 1) := by decide +kernel
theorem d2_77 : decode prog_104_method_4_code 77 = .ok (.goto 34, 3) := by decide +kernel
theorem ef_mf2s (m : MethodId) (pR1 : Addr) (pR2 : Addr) : entryFrame m #[(.ref pR1), (.ref pR2)] 2 = mkF m 0 #[.val (.ref pR1), .val (.ref pR2)] [] := by first | (simp [entryFrame, mkF, argsToLocals, Value.category]; done) | rfl
def Qmf2s (Z : State) (pR1 : Addr) (pR2 : Addr) (pR4 : Addr) (h0 : Heap) (n0 : Nat) (v : Option Value) (h : Heap) (L : List Loc) : Prop := v = some (.int (1 : Int32)) ∧ Fr n0 L ∧ h = h0
set_option maxRecDepth 65536 in
set_option maxHeartbeats 40000000 in
theorem mf2s (l : Launch) (Z : State) (a0 : Array Value) (hw : ∀ d ∈ tables_1, d.before a0 Z = true) (ws : List Jvm.Cond) (pR1 : Addr) (pR2 : Addr) (pR4 : Addr) (h0 : Heap) (n0 : Nat) (Z0 : n0 ≤ h0.size) (F_ordinal_pR1 : Fld Z h0 pR1 "java/lang/Enum" "ordinal" "I" (.int (2 : Int32))) (E_pR1 : Exa Z h0 pR1 "com/example/vaxwire/vaxwire/reply/OrderSegment") (S_OrderSegment_RXA : Sta Z h0 "com/example/vaxwire/vaxwire/reply/OrderSegment" "RXA" "Lcom/example/vaxwire/vaxwire/reply/OrderSegment;" (.ref pR4)) (hc73 : pR2 = pR4) :
    MetFree l yN3 (head1 (Jvm.Cond.code yN3 prog_104_method_4_code 2 (some .boolean) :: ws) ({ frames := 1, cells := 0, slots := 0, locals := 12 } : Room)) (fun a U => a = #[(.ref pR1), (.ref pR2)] ∧ Z.Warmed39 U.vm ∧ U.heap = h0) (fun _ _ _ _ _ => True) (fun _ U o U' => ∃ v L, o = .returned v ∧ Qmf2s Z pR1 pR2 pR4 h0 n0 v U'.heap L ∧ FrameEnd U o U' L ({ frames := 1, cells := 0, slots := 0, locals := 12 } : Room).cells ({ frames := 1, cells := 0, slots := 0, locals := 12 } : Room).slots) := by
  refine MetFree.of_bodySF (plainFor_of_name pn_2) hisR ?_
  intro p e s m args below meth c s₁ Bd hml0 hP hK
  obtain ⟨rfl, hZ, hh⟩ := hP
  have hx := Bd.exec
  have hby := Bd.bytes
  have hml : c.maxLocals = 2 := hml0
  have hown : s.vm.findClass "com/example/vaxwire/vaxwire/reply/OrderSegment" = some m.cls := findClass_of_methodNamed Bd.named
  have hnm := (name_of_methodNamed Bd.named Bd.method).1
  have X0 : Stand p l e ({ frames := 1, cells := 0, slots := 0, locals := 12 } : Room) s m #[(.ref pR1), (.ref pR2)] below meth c s₁ [] 0 0 := Stand.of_body Bd
  have e0 : s₁.heap = h0 := by rw [← hh, Bd.state]; rfl
  have N0 := Fr.nil n0
  have pre0 : ∀ t, Steps p.tables e below (s₁.setTop (mkF m 0 #[.val (.ref pR1), .val (.ref pR2)] [])) t → Steps p.tables e below (s₁.setTop (entryFrame m #[(.ref pR1), (.ref pR2)] 2)) t := fun t k => castTop (ef_mf2s m pR1 pR2) k
  obtain ⟨cq3, kq3, q3a, q3b, q3c⟩ := isOf hZ e0 E_pR1
  obtain ⟨_, _, ⟨T3, L3, k3, n3⟩, -, X3, ⟨Lc3, hQ3, l3, y3, z3⟩, st3⟩ := X0.virtualBackUp hx (owner := "java/lang/Enum") (x := yN2) (y := yN1) hown (mvT hZ (ow hw 15 rfl)) (mvT hZ (ow hw 16 rfl)) (mvT hZ (ow hw 17 rfl)) (by decide) (mvT hZ (ow hw 19 rfl)) (mvT hZ (ow hw 18 rfl)) (backOf (W := 0) (ordinal l Z a0 hw [] pR1 (2 : Int32) h0 n0 Z0 F_ordinal_pR1) hZ (ow hw 21 rfl) (ow hw 20 rfl) (by decide) (by decide)) q3a q3c (g := (mkF m 1 #[.val (.ref pR1), .val (.ref pR2)] [(.ref pR1)])) rfl (by rw [hml]; rfl) (Steps.refl _) (argsL := []) (rest := []) (lenOf pd_0 rfl) rfl (by show 2 * 0 + _ ≤ _; exact Nat.le_of_eq rfl) (hb hby d2_1) (fun _ _ => ⟨rfl, e0, (by decide : 0 + 0 ≤ _), (by decide : 0 + 0 ≤ _)⟩)
  dsimp only [Pt.U, Pt.locs, Pt.cells, Pt.slots] at X3 l3 y3 z3 st3 hQ3
  subst l3 y3 z3
  obtain ⟨rfl, Nq3, e3⟩ := hQ3
  have N3 := Fr.app N0 Nq3
  obtain ⟨T5, X5, e5, st5⟩ := getS2 X3 hx hZ hown (host := "") (Or.inl (ow hw 32 rfl)) Via.refl e3 S_OrderSegment_RXA (g := (mkF m 70 #[.val (.ref pR1), .val (.ref pR2)] [(.ref pR2)])) rfl (hb hby d2_70)
  obtain ⟨fs, hr, hrun, hended, hW, hsame⟩ := X5.leave (v := some (.int (1 : Int32))) (fun h => by rw [Bd.returns] at h; cases h)
  refine ⟨_, _, pre0 _ ?_, hrun, hended, _, _, rfl, ?_, ⟨_, rfl⟩, hW, hsame.mono (by decide) (by decide)⟩
  · show oS p e below s₁ m 0 #[.val (.ref pR1), .val (.ref pR2)] [] _
    refine XS.aloadN X0.here hx rfl (hb hby d2_0) rfl rfl ?_
    show oS p e below s₁ m 1 #[.val (.ref pR1), .val (.ref pR2)] [(.ref pR1)] _
    refine st3.trans ?_
    show oS p e below T3 m 4 #[.val (.ref pR1), .val (.ref pR2)] [(.int (2 : Int32))] _
    refine XS.tswIn X3.here hx rfl (pc0 := 4) (pc' := 69) (o := 65) rfl (hb hby d2_4) rfl (by decide) (by first | rfl | decide) (by decide) (by decide) ?_
    show oS p e below T3 m 69 #[.val (.ref pR1), .val (.ref pR2)] [] _
    refine XS.aloadN X3.here hx rfl (hb hby d2_69) rfl rfl ?_
    show oS p e below T3 m 70 #[.val (.ref pR1), .val (.ref pR2)] [(.ref pR2)] _
    refine st5 _ ?_
    show oS p e below T5 m 73 #[.val (.ref pR1), .val (.ref pR2)] [(.ref pR4), (.ref pR2)] _
    refine Jvm.RoadKit.acmp (g := (mkF m 73 #[.val (.ref pR1), .val (.ref pR2)] [(.ref pR4), (.ref pR2)])) X5 hx rfl rfl rfl (pc0 := 73) (pc' := 76) (same := true) rfl (hb hby d2_73) rfl (decide_eq_true (congrArg Value.ref hc73)) (by decide) (by decide) ?_
    show oS p e below T5 m 76 #[.val (.ref pR1), .val (.ref pR2)] [] _
    refine XS.iconst X5.here hx rfl (hb hby d2_76) ?_
    show oS p e below T5 m 77 #[.val (.ref pR1), .val (.ref pR2)] [(.int (1 : Int32))] _
    refine XS.goto X5.here hx rfl (pc0 := 77) (pc' := 111) rfl (hb hby d2_77) (by decide) (by decide) ?_
    show oS p e below T5 m 111 #[.val (.ref pR1), .val (.ref pR2)] [(.int (1 : Int32))] _
    exact retN X5 hx (t := .boolean) Bd.returns (by simp) (hb hby d2_111) hr
  · show Qmf2s Z pR1 pR2 pR4 h0 n0 _ T5.heap _
    rw [e5]
    exact ⟨rfl, N3, rfl⟩
theorem d2_80 : decode prog_104_method_4_code 80 = .ok (.iconst 0, 1) := by decide +kernel
theorem d2_81 : decode prog_104_method_4_code 81 = .ok (.goto 30, 3) := by decide +kernel
theorem ef_mf2d (m : MethodId) (pR1 : Addr) (pR2 : Addr) : entryFrame m #[(.ref pR1), (.ref pR2)] 2 = mkF m 0 #[.val (.ref pR1), .val (.ref pR2)] [] := by first | (simp [entryFrame, mkF, argsToLocals, Value.category]; done) | rfl
def Qmf2d (Z : State) (pR1 : Addr) (pR2 : Addr) (pR4 : Addr) (h0 : Heap) (n0 : Nat) (v : Option Value) (h : Heap) (L : List Loc) : Prop := v = some (.int (0 : Int32)) ∧ Fr n0 L ∧ h = h0
set_option maxRecDepth 65536 in
set_option maxHeartbeats 40000000 in
theorem mf2d (l : Launch) (Z : State) (a0 : Array Value) (hw : ∀ d ∈ tables_1, d.before a0 Z = true) (ws : List Jvm.Cond) (pR1 : Addr) (pR2 : Addr) (pR4 : Addr) (h0 : Heap) (n0 : Nat) (Z0 : n0 ≤ h0.size) (F_ordinal_pR1 : Fld Z h0 pR1 "java/lang/Enum" "ordinal" "I" (.int (2 : Int32))) (E_pR1 : Exa Z h0 pR1 "com/example/vaxwire/vaxwire/reply/OrderSegment") (S_OrderSegment_RXA : Sta Z h0 "com/example/vaxwire/vaxwire/reply/OrderSegment" "RXA" "Lcom/example/vaxwire/vaxwire/reply/OrderSegment;" (.ref pR4)) (hc73 : pR2 ≠ pR4) :
    MetFree l yN3 (head1 (Jvm.Cond.code yN3 prog_104_method_4_code 2 (some .boolean) :: ws) ({ frames := 1, cells := 0, slots := 0, locals := 12 } : Room)) (fun a U => a = #[(.ref pR1), (.ref pR2)] ∧ Z.Warmed39 U.vm ∧ U.heap = h0) (fun _ _ _ _ _ => True) (fun _ U o U' => ∃ v L, o = .returned v ∧ Qmf2d Z pR1 pR2 pR4 h0 n0 v U'.heap L ∧ FrameEnd U o U' L ({ frames := 1, cells := 0, slots := 0, locals := 12 } : Room).cells ({ frames := 1, cells := 0, slots := 0, locals := 12 } : Room).slots) := by
  refine MetFree.of_bodySF (plainFor_of_name pn_2) hisR ?_
  intro p e s m args below meth c s₁ Bd hml0 hP hK
  obtain ⟨rfl, hZ, hh⟩ := hP
  have hx := Bd.exec
  have hby := Bd.bytes
  have hml : c.maxLocals = 2 := hml0
  have hown : s.vm.findClass "com/example/vaxwire/vaxwire/reply/OrderSegment" = some m.cls := findClass_of_methodNamed Bd.named
  have hnm := (name_of_methodNamed Bd.named Bd.method).1
  have X0 : Stand p l e ({ frames := 1, cells := 0, slots := 0, locals := 12 } : Room) s m #[(.ref pR1), (.ref pR2)] below meth c s₁ [] 0 0 := Stand.of_body Bd
  have e0 : s₁.heap = h0 := by rw [← hh, Bd.state]; rfl
  have N0 := Fr.nil n0
  have pre0 : ∀ t, Steps p.tables e below (s₁.setTop (mkF m 0 #[.val (.ref pR1), .val (.ref pR2)] [])) t → Steps p.tables e below (s₁.setTop (entryFrame m #[(.ref pR1), (.ref pR2)] 2)) t := fun t k => castTop (ef_mf2d m pR1 pR2) k
  obtain ⟨cq3, kq3, q3a, q3b, q3c⟩ := isOf hZ e0 E_pR1
  obtain ⟨_, _, ⟨T3, L3, k3, n3⟩, -, X3, ⟨Lc3, hQ3, l3, y3, z3⟩, st3⟩ := X0.virtualBackUp hx (owner := "java/lang/Enum") (x := yN2) (y := yN1) hown (mvT hZ (ow hw 15 rfl)) (mvT hZ (ow hw 16 rfl)) (mvT hZ (ow hw 17 rfl)) (by decide) (mvT hZ (ow hw 19 rfl)) (mvT hZ (ow hw 18 rfl)) (backOf (W := 0) (ordinal l Z a0 hw [] pR1 (2 : Int32) h0 n0 Z0 F_ordinal_pR1) hZ (ow hw 21 rfl) (ow hw 20 rfl) (by decide) (by decide)) q3a q3c (g := (mkF m 1 #[.val (.ref pR1), .val (.ref pR2)] [(.ref pR1)])) rfl (by rw [hml]; rfl) (Steps.refl _) (argsL := []) (rest := []) (lenOf pd_0 rfl) rfl (by show 2 * 0 + _ ≤ _; exact Nat.le_of_eq rfl) (hb hby d2_1) (fun _ _ => ⟨rfl, e0, (by decide : 0 + 0 ≤ _), (by decide : 0 + 0 ≤ _)⟩)
  dsimp only [Pt.U, Pt.locs, Pt.cells, Pt.slots] at X3 l3 y3 z3 st3 hQ3
  subst l3 y3 z3
  obtain ⟨rfl, Nq3, e3⟩ := hQ3
  have N3 := Fr.app N0 Nq3
  obtain ⟨T5, X5, e5, st5⟩ := getS2 X3 hx hZ hown (host := "") (Or.inl (ow hw 32 rfl)) Via.refl e3 S_OrderSegment_RXA (g := (mkF m 70 #[.val (.ref pR1), .val (.ref pR2)] [(.ref pR2)])) rfl (hb hby d2_70)
  obtain ⟨fs, hr, hrun, hended, hW, hsame⟩ := X5.leave (v := some (.int (0 : Int32))) (fun h => by rw [Bd.returns] at h; cases h)
  refine ⟨_, _, pre0 _ ?_, hrun, hended, _, _, rfl, ?_, ⟨_, rfl⟩, hW, hsame.mono (by decide) (by decide)⟩
  · show oS p e below s₁ m 0 #[.val (.ref pR1), .val (.ref pR2)] [] _
    refine XS.aloadN X0.here hx rfl (hb hby d2_0) rfl rfl ?_
    show oS p e below s₁ m 1 #[.val (.ref pR1), .val (.ref pR2)] [(.ref pR1)] _
    refine st3.trans ?_
    show oS p e below T3 m 4 #[.val (.ref pR1), .val (.ref pR2)] [(.int (2 : Int32))] _
    refine XS.tswIn X3.here hx rfl (pc0 := 4) (pc' := 69) (o := 65) rfl (hb hby d2_4) rfl (by decide) (by first | rfl | decide) (by decide) (by decide) ?_
    show oS p e below T3 m 69 #[.val (.ref pR1), .val (.ref pR2)] [] _
    refine XS.aloadN X3.here hx rfl (hb hby d2_69) rfl rfl ?_
    show oS p e below T3 m 70 #[.val (.ref pR1), .val (.ref pR2)] [(.ref pR2)] _
    refine st5 _ ?_
    show oS p e below T5 m 73 #[.val (.ref pR1), .val (.ref pR2)] [(.ref pR4), (.ref pR2)] _
    refine Jvm.RoadKit.acmp (g := (mkF m 73 #[.val (.ref pR1), .val (.ref pR2)] [(.ref pR4), (.ref pR2)])) X5 hx rfl rfl rfl (pc0 := 73) (pc' := 80) (same := false) rfl (hb hby d2_73) rfl (decide_eq_false fun q => hc73 (Value.ref.inj q)) (by decide) (by decide) ?_
    show oS p e below T5 m 80 #[.val (.ref pR1), .val (.ref pR2)] [] _
    refine XS.iconst X5.here hx rfl (hb hby d2_80) ?_
    show oS p e below T5 m 81 #[.val (.ref pR1), .val (.ref pR2)] [(.int (0 : Int32))] _
    refine XS.goto X5.here hx rfl (pc0 := 81) (pc' := 111) rfl (hb hby d2_81) (by decide) (by decide) ?_
    show oS p e below T5 m 111 #[.val (.ref pR1), .val (.ref pR2)] [(.int (0 : Int32))] _
    exact retN X5 hx (t := .boolean) Bd.returns (by simp) (hb hby d2_111) hr
  · show Qmf2d Z pR1 pR2 pR4 h0 n0 _ T5.heap _
    rw [e5]
    exact ⟨rfl, N3, rfl⟩
theorem d2_84 : decode prog_104_method_4_code 84 = .ok (.aload_n 1, 1) := by decide +kernel
theorem d2_85 : decode prog_104_method_4_code 85 = .ok (.getstatic 3, 3) := by decide +kernel
theorem d2_88 : decode prog_104_method_4_code 88 = .ok (.if_acmp .eq 7, 3) := by decide +kernel
theorem d2_95 : decode prog_104_method_4_code 95 = .ok (.iconst 0, 1) := by decide +kernel
theorem d2_96 : decode prog_104_method_4_code 96 = .ok (.goto 15, 3) := by decide +kernel
theorem ef_mf3s (m : MethodId) (pR1 : Addr) (pR2 : Addr) : entryFrame m #[(.ref pR1), (.ref pR2)] 2 = mkF m 0 #[.val (.ref pR1), .val (.ref pR2)] [] := by first | (simp [entryFrame, mkF, argsToLocals, Value.category]; done) | rfl
def Qmf3s (Z : State) (pR1 : Addr) (pR2 : Addr) (pR4 : Addr) (h0 : Heap) (n0 : Nat) (v : Option Value) (h : Heap) (L : List Loc) : Prop := v = some (.int (0 : Int32)) ∧ Fr n0 L ∧ h = h0
set_option maxRecDepth 65536 in
set_option maxHeartbeats 40000000 in
theorem mf3s (l : Launch) (Z : State) (a0 : Array Value) (hw : ∀ d ∈ tables_1, d.before a0 Z = true) (ws : List Jvm.Cond) (pR1 : Addr) (pR2 : Addr) (pR4 : Addr) (h0 : Heap) (n0 : Nat) (Z0 : n0 ≤ h0.size) (F_ordinal_pR1 : Fld Z h0 pR1 "java/lang/Enum" "ordinal" "I" (.int (3 : Int32))) (E_pR1 : Exa Z h0 pR1 "com/example/vaxwire/vaxwire/reply/OrderSegment") (S_OrderSegment_ORC : Sta Z h0 "com/example/vaxwire/vaxwire/reply/OrderSegment" "ORC" "Lcom/example/vaxwire/vaxwire/reply/OrderSegment;" (.ref pR4)) (hc88 : pR2 = pR4) :
    MetFree l yN3 (head1 (Jvm.Cond.code yN3 prog_104_method_4_code 2 (some .boolean) :: ws) ({ frames := 1, cells := 0, slots := 0, locals := 12 } : Room)) (fun a U => a = #[(.ref pR1), (.ref pR2)] ∧ Z.Warmed39 U.vm ∧ U.heap = h0) (fun _ _ _ _ _ => True) (fun _ U o U' => ∃ v L, o = .returned v ∧ Qmf3s Z pR1 pR2 pR4 h0 n0 v U'.heap L ∧ FrameEnd U o U' L ({ frames := 1, cells := 0, slots := 0, locals := 12 } : Room).cells ({ frames := 1, cells := 0, slots := 0, locals := 12 } : Room).slots) := by
  refine MetFree.of_bodySF (plainFor_of_name pn_2) hisR ?_
  intro p e s m args below meth c s₁ Bd hml0 hP hK
  obtain ⟨rfl, hZ, hh⟩ := hP
  have hx := Bd.exec
  have hby := Bd.bytes
  have hml : c.maxLocals = 2 := hml0
  have hown : s.vm.findClass "com/example/vaxwire/vaxwire/reply/OrderSegment" = some m.cls := findClass_of_methodNamed Bd.named
  have hnm := (name_of_methodNamed Bd.named Bd.method).1
  have X0 : Stand p l e ({ frames := 1, cells := 0, slots := 0, locals := 12 } : Room) s m #[(.ref pR1), (.ref pR2)] below meth c s₁ [] 0 0 := Stand.of_body Bd
  have e0 : s₁.heap = h0 := by rw [← hh, Bd.state]; rfl
  have N0 := Fr.nil n0
  have pre0 : ∀ t, Steps p.tables e below (s₁.setTop (mkF m 0 #[.val (.ref pR1), .val (.ref pR2)] [])) t → Steps p.tables e below (s₁.setTop (entryFrame m #[(.ref pR1), (.ref pR2)] 2)) t := fun t k => castTop (ef_mf3s m pR1 pR2) k
  obtain ⟨cq3, kq3, q3a, q3b, q3c⟩ := isOf hZ e0 E_pR1
  obtain ⟨_, _, ⟨T3, L3, k3, n3⟩, -, X3, ⟨Lc3, hQ3, l3, y3, z3⟩, st3⟩ := X0.virtualBackUp hx (owner := "java/lang/Enum") (x := yN2) (y := yN1) hown (mvT hZ (ow hw 15 rfl)) (mvT hZ (ow hw 16 rfl)) (mvT hZ (ow hw 17 rfl)) (by decide) (mvT hZ (ow hw 19 rfl)) (mvT hZ (ow hw 18 rfl)) (backOf (W := 0) (ordinal l Z a0 hw [] pR1 (3 : Int32) h0 n0 Z0 F_ordinal_pR1) hZ (ow hw 21 rfl) (ow hw 20 rfl) (by decide) (by decide)) q3a q3c (g := (mkF m 1 #[.val (.ref pR1), .val (.ref pR2)] [(.ref pR1)])) rfl (by rw [hml]; rfl) (Steps.refl _) (argsL := []) (rest := []) (lenOf pd_0 rfl) rfl (by show 2 * 0 + _ ≤ _; exact Nat.le_of_eq rfl) (hb hby d2_1) (fun _ _ => ⟨rfl, e0, (by decide : 0 + 0 ≤ _), (by decide : 0 + 0 ≤ _)⟩)
  dsimp only [Pt.U, Pt.locs, Pt.cells, Pt.slots] at X3 l3 y3 z3 st3 hQ3
  subst l3 y3 z3
  obtain ⟨rfl, Nq3, e3⟩ := hQ3
  have N3 := Fr.app N0 Nq3
  obtain ⟨T5, X5, e5, st5⟩ := getS2 X3 hx hZ hown (host := "") (Or.inl (ow hw 29 rfl)) Via.refl e3 S_OrderSegment_ORC (g := (mkF m 85 #[.val (.ref pR1), .val (.ref pR2)] [(.ref pR2)])) rfl (hb hby d2_85)
  obtain ⟨fs, hr, hrun, hended, hW, hsame⟩ := X5.leave (v := some (.int (0 : Int32))) (fun h => by rw [Bd.returns] at h; cases h)
  refine ⟨_, _, pre0 _ ?_, hrun, hended, _, _, rfl, ?_, ⟨_, rfl⟩, hW, hsame.mono (by decide) (by decide)⟩
  · show oS p e below s₁ m 0 #[.val (.ref pR1), .val (.ref pR2)] [] _
    refine XS.aloadN X0.here hx rfl (hb hby d2_0) rfl rfl ?_
    show oS p e below s₁ m 1 #[.val (.ref pR1), .val (.ref pR2)] [(.ref pR1)] _
    refine st3.trans ?_
    show oS p e below T3 m 4 #[.val (.ref pR1), .val (.ref pR2)] [(.int (3 : Int32))] _
    refine XS.tswIn X3.here hx rfl (pc0 := 4) (pc' := 84) (o := 80) rfl (hb hby d2_4) rfl (by decide) (by first | rfl | decide) (by decide) (by decide) ?_
    show oS p e below T3 m 84 #[.val (.ref pR1), .val (.ref pR2)] [] _
    refine XS.aloadN X3.here hx rfl (hb hby d2_84) rfl rfl ?_
    show oS p e below T3 m 85 #[.val (.ref pR1), .val (.ref pR2)] [(.ref pR2)] _
    refine st5 _ ?_
    show oS p e below T5 m 88 #[.val (.ref pR1), .val (.ref pR2)] [(.ref pR4), (.ref pR2)] _
    refine Jvm.RoadKit.acmp (g := (mkF m 88 #[.val (.ref pR1), .val (.ref pR2)] [(.ref pR4), (.ref pR2)])) X5 hx rfl rfl rfl (pc0 := 88) (pc' := 95) (same := true) rfl (hb hby d2_88) rfl (decide_eq_true (congrArg Value.ref hc88)) (by decide) (by decide) ?_
    show oS p e below T5 m 95 #[.val (.ref pR1), .val (.ref pR2)] [] _
    refine XS.iconst X5.here hx rfl (hb hby d2_95) ?_
    show oS p e below T5 m 96 #[.val (.ref pR1), .val (.ref pR2)] [(.int (0 : Int32))] _
    refine XS.goto X5.here hx rfl (pc0 := 96) (pc' := 111) rfl (hb hby d2_96) (by decide) (by decide) ?_
    show oS p e below T5 m 111 #[.val (.ref pR1), .val (.ref pR2)] [(.int (0 : Int32))] _
    exact retN X5 hx (t := .boolean) Bd.returns (by simp) (hb hby d2_111) hr
  · show Qmf3s Z pR1 pR2 pR4 h0 n0 _ T5.heap _
    rw [e5]
    exact ⟨rfl, N3, rfl⟩
theorem d2_91 : decode prog_104_method_4_code 91 = .ok (.iconst 1, 1) := by decide +kernel
theorem d2_92 : decode prog_104_method_4_code 92 = .ok (.goto 19, 3) := by decide +kernel
theorem ef_mf3d (m : MethodId) (pR1 : Addr) (pR2 : Addr) : entryFrame m #[(.ref pR1), (.ref pR2)] 2 = mkF m 0 #[.val (.ref pR1), .val (.ref pR2)] [] := by first | (simp [entryFrame, mkF, argsToLocals, Value.category]; done) | rfl
def Qmf3d (Z : State) (pR1 : Addr) (pR2 : Addr) (pR4 : Addr) (h0 : Heap) (n0 : Nat) (v : Option Value) (h : Heap) (L : List Loc) : Prop := v = some (.int (1 : Int32)) ∧ Fr n0 L ∧ h = h0
set_option maxRecDepth 65536 in
set_option maxHeartbeats 40000000 in
theorem mf3d (l : Launch) (Z : State) (a0 : Array Value) (hw : ∀ d ∈ tables_1, d.before a0 Z = true) (ws : List Jvm.Cond) (pR1 : Addr) (pR2 : Addr) (pR4 : Addr) (h0 : Heap) (n0 : Nat) (Z0 : n0 ≤ h0.size) (F_ordinal_pR1 : Fld Z h0 pR1 "java/lang/Enum" "ordinal" "I" (.int (3 : Int32))) (E_pR1 : Exa Z h0 pR1 "com/example/vaxwire/vaxwire/reply/OrderSegment") (S_OrderSegment_ORC : Sta Z h0 "com/example/vaxwire/vaxwire/reply/OrderSegment" "ORC" "Lcom/example/vaxwire/vaxwire/reply/OrderSegment;" (.ref pR4)) (hc88 : pR2 ≠ pR4) :
    MetFree l yN3 (head1 (Jvm.Cond.code yN3 prog_104_method_4_code 2 (some .boolean) :: ws) ({ frames := 1, cells := 0, slots := 0, locals := 12 } : Room)) (fun a U => a = #[(.ref pR1), (.ref pR2)] ∧ Z.Warmed39 U.vm ∧ U.heap = h0) (fun _ _ _ _ _ => True) (fun _ U o U' => ∃ v L, o = .returned v ∧ Qmf3d Z pR1 pR2 pR4 h0 n0 v U'.heap L ∧ FrameEnd U o U' L ({ frames := 1, cells := 0, slots := 0, locals := 12 } : Room).cells ({ frames := 1, cells := 0, slots := 0, locals := 12 } : Room).slots) := by
  refine MetFree.of_bodySF (plainFor_of_name pn_2) hisR ?_
  intro p e s m args below meth c s₁ Bd hml0 hP hK
  obtain ⟨rfl, hZ, hh⟩ := hP
  have hx := Bd.exec
  have hby := Bd.bytes
  have hml : c.maxLocals = 2 := hml0
  have hown : s.vm.findClass "com/example/vaxwire/vaxwire/reply/OrderSegment" = some m.cls := findClass_of_methodNamed Bd.named
  have hnm := (name_of_methodNamed Bd.named Bd.method).1
  have X0 : Stand p l e ({ frames := 1, cells := 0, slots := 0, locals := 12 } : Room) s m #[(.ref pR1), (.ref pR2)] below meth c s₁ [] 0 0 := Stand.of_body Bd
  have e0 : s₁.heap = h0 := by rw [← hh, Bd.state]; rfl
  have N0 := Fr.nil n0
  have pre0 : ∀ t, Steps p.tables e below (s₁.setTop (mkF m 0 #[.val (.ref pR1), .val (.ref pR2)] [])) t → Steps p.tables e below (s₁.setTop (entryFrame m #[(.ref pR1), (.ref pR2)] 2)) t := fun t k => castTop (ef_mf3d m pR1 pR2) k
  obtain ⟨cq3, kq3, q3a, q3b, q3c⟩ := isOf hZ e0 E_pR1
  obtain ⟨_, _, ⟨T3, L3, k3, n3⟩, -, X3, ⟨Lc3, hQ3, l3, y3, z3⟩, st3⟩ := X0.virtualBackUp hx (owner := "java/lang/Enum") (x := yN2) (y := yN1) hown (mvT hZ (ow hw 15 rfl)) (mvT hZ (ow hw 16 rfl)) (mvT hZ (ow hw 17 rfl)) (by decide) (mvT hZ (ow hw 19 rfl)) (mvT hZ (ow hw 18 rfl)) (backOf (W := 0) (ordinal l Z a0 hw [] pR1 (3 : Int32) h0 n0 Z0 F_ordinal_pR1) hZ (ow hw 21 rfl) (ow hw 20 rfl) (by decide) (by decide)) q3a q3c (g := (mkF m 1 #[.val (.ref pR1), .val (.ref pR2)] [(.ref pR1)])) rfl (by rw [hml]; rfl) (Steps.refl _) (argsL := []) (rest := []) (lenOf pd_0 rfl) rfl (by show 2 * 0 + _ ≤ _; exact Nat.le_of_eq rfl) (hb hby d2_1) (fun _ _ => ⟨rfl, e0, (by decide : 0 + 0 ≤ _), (by decide : 0 + 0 ≤ _)⟩)
  dsimp only [Pt.U, Pt.locs, Pt.cells, Pt.slots] at X3 l3 y3 z3 st3 hQ3
  subst l3 y3 z3
  obtain ⟨rfl, Nq3, e3⟩ := hQ3
  have N3 := Fr.app N0 Nq3
  obtain ⟨T5, X5, e5, st5⟩ := getS2 X3 hx hZ hown (host := "") (Or.inl (ow hw 29 rfl)) Via.refl e3 S_OrderSegment_ORC (g := (mkF m 85 #[.val (.ref pR1), .val (.ref pR2)] [(.ref pR2)])) rfl (hb hby d2_85)
  obtain ⟨fs, hr, hrun, hended, hW, hsame⟩ := X5.leave (v := some (.int (1 : Int32))) (fun h => by rw [Bd.returns] at h; cases h)
  refine ⟨_, _, pre0 _ ?_, hrun, hended, _, _, rfl, ?_, ⟨_, rfl⟩, hW, hsame.mono (by decide) (by decide)⟩
  · show oS p e below s₁ m 0 #[.val (.ref pR1), .val (.ref pR2)] [] _
    refine XS.aloadN X0.here hx rfl (hb hby d2_0) rfl rfl ?_
    show oS p e below s₁ m 1 #[.val (.ref pR1), .val (.ref pR2)] [(.ref pR1)] _
    refine st3.trans ?_
    show oS p e below T3 m 4 #[.val (.ref pR1), .val (.ref pR2)] [(.int (3 : Int32))] _
    refine XS.tswIn X3.here hx rfl (pc0 := 4) (pc' := 84) (o := 80) rfl (hb hby d2_4) rfl (by decide) (by first | rfl | decide) (by decide) (by decide) ?_
    show oS p e below T3 m 84 #[.val (.ref pR1), .val (.ref pR2)] [] _
    refine XS.aloadN X3.here hx rfl (hb hby d2_84) rfl rfl ?_
    show oS p e below T3 m 85 #[.val (.ref pR1), .val (.ref pR2)] [(.ref pR2)] _
    refine st5 _ ?_
    show oS p e below T5 m 88 #[.val (.ref pR1), .val (.ref pR2)] [(.ref pR4), (.ref pR2)] _
    refine Jvm.RoadKit.acmp (g := (mkF m 88 #[.val (.ref pR1), .val (.ref pR2)] [(.ref pR4), (.ref pR2)])) X5 hx rfl rfl rfl (pc0 := 88) (pc' := 91) (same := false) rfl (hb hby d2_88) rfl (decide_eq_false fun q => hc88 (Value.ref.inj q)) (by decide) (by decide) ?_
    show oS p e below T5 m 91 #[.val (.ref pR1), .val (.ref pR2)] [] _
    refine XS.iconst X5.here hx rfl (hb hby d2_91) ?_
    show oS p e below T5 m 92 #[.val (.ref pR1), .val (.ref pR2)] [(.int (1 : Int32))] _
    refine XS.goto X5.here hx rfl (pc0 := 92) (pc' := 111) rfl (hb hby d2_92) (by decide) (by decide) ?_
    show oS p e below T5 m 111 #[.val (.ref pR1), .val (.ref pR2)] [(.int (1 : Int32))] _
    exact retN X5 hx (t := .boolean) Bd.returns (by simp) (hb hby d2_111) hr
  · show Qmf3d Z pR1 pR2 pR4 h0 n0 _ T5.heap _
    rw [e5]
    exact ⟨rfl, N3, rfl⟩
theorem d2_99 : decode prog_104_method_4_code 99 = .ok (.aload_n 1, 1) := by decide +kernel
theorem d2_100 : decode prog_104_method_4_code 100 = .ok (.getstatic 13, 3) := by decide +kernel
theorem d2_103 : decode prog_104_method_4_code 103 = .ok (.if_acmp .ne 7, 3) := by decide +kernel
theorem d2_106 : decode prog_104_method_4_code 106 = .ok (.iconst 1, 1) := by decide +kernel
theorem d2_107 : decode prog_104_method_4_code 107 = .ok (.goto 4, 3) := by decide +kernel
theorem ef_mf4s (m : MethodId) (pR1 : Addr) (pR2 : Addr) : entryFrame m #[(.ref pR1), (.ref pR2)] 2 = mkF m 0 #[.val (.ref pR1), .val (.ref pR2)] [] := by first | (simp [entryFrame, mkF, argsToLocals, Value.category]; done) | rfl
def Qmf4s (Z : State) (pR1 : Addr) (pR2 : Addr) (pR4 : Addr) (h0 : Heap) (n0 : Nat) (v : Option Value) (h : Heap) (L : List Loc) : Prop := v = some (.int (1 : Int32)) ∧ Fr n0 L ∧ h = h0
set_option maxRecDepth 65536 in
set_option maxHeartbeats 40000000 in
theorem mf4s (l : Launch) (Z : State) (a0 : Array Value) (hw : ∀ d ∈ tables_1, d.before a0 Z = true) (ws : List Jvm.Cond) (pR1 : Addr) (pR2 : Addr) (pR4 : Addr) (h0 : Heap) (n0 : Nat) (Z0 : n0 ≤ h0.size) (F_ordinal_pR1 : Fld Z h0 pR1 "java/lang/Enum" "ordinal" "I" (.int (4 : Int32))) (E_pR1 : Exa Z h0 pR1 "com/example/vaxwire/vaxwire/reply/OrderSegment") (S_OrderSegment_OBX : Sta Z h0 "com/example/vaxwire/vaxwire/reply/OrderSegment" "OBX" "Lcom/example/vaxwire/vaxwire/reply/OrderSegment;" (.ref pR4)) (hc103 : pR2 = pR4) :
    MetFree l yN3 (head1 (Jvm.Cond.code yN3 prog_104_method_4_code 2 (some .boolean) :: ws) ({ frames := 1, cells := 0, slots := 0, locals := 12 } : Room)) (fun a U => a = #[(.ref pR1), (.ref pR2)] ∧ Z.Warmed39 U.vm ∧ U.heap = h0) (fun _ _ _ _ _ => True) (fun _ U o U' => ∃ v L, o = .returned v ∧ Qmf4s Z pR1 pR2 pR4 h0 n0 v U'.heap L ∧ FrameEnd U o U' L ({ frames := 1, cells := 0, slots := 0, locals := 12 } : Room).cells ({ frames := 1, cells := 0, slots := 0, locals := 12 } : Room).slots) := by
  refine MetFree.of_bodySF (plainFor_of_name pn_2) hisR ?_
  intro p e s m args below meth c s₁ Bd hml0 hP hK
  obtain ⟨rfl, hZ, hh⟩ := hP
  have hx := Bd.exec
  have hby := Bd.bytes
  have hml : c.maxLocals = 2 := hml0
  have hown : s.vm.findClass "com/example/vaxwire/vaxwire/reply/OrderSegment" = some m.cls := findClass_of_methodNamed Bd.named
  have hnm := (name_of_methodNamed Bd.named Bd.method).1
  have X0 : Stand p l e ({ frames := 1, cells := 0, slots := 0, locals := 12 } : Room) s m #[(.ref pR1), (.ref pR2)] below meth c s₁ [] 0 0 := Stand.of_body Bd
  have e0 : s₁.heap = h0 := by rw [← hh, Bd.state]; rfl
  have N0 := Fr.nil n0
  have pre0 : ∀ t, Steps p.tables e below (s₁.setTop (mkF m 0 #[.val (.ref pR1), .val (.ref pR2)] [])) t → Steps p.tables e below (s₁.setTop (entryFrame m #[(.ref pR1), (.ref pR2)] 2)) t := fun t k => castTop (ef_mf4s m pR1 pR2) k
  obtain ⟨cq3, kq3, q3a, q3b, q3c⟩ := isOf hZ e0 E_pR1
  obtain ⟨_, _, ⟨T3, L3, k3, n3⟩, -, X3, ⟨Lc3, hQ3, l3, y3, z3⟩, st3⟩ := X0.virtualBackUp hx (owner := "java/lang/Enum") (x := yN2) (y := yN1) hown (mvT hZ (ow hw 15 rfl)) (mvT hZ (ow hw 16 rfl)) (mvT hZ (ow hw 17 rfl)) (by decide) (mvT hZ (ow hw 19 rfl)) (mvT hZ (ow hw 18 rfl)) (backOf (W := 0) (ordinal l Z a0 hw [] pR1 (4 : Int32) h0 n0 Z0 F_ordinal_pR1) hZ (ow hw 21 rfl) (ow hw 20 rfl) (by decide) (by decide)) q3a q3c (g := (mkF m 1 #[.val (.ref pR1), .val (.ref pR2)] [(.ref pR1)])) rfl (by rw [hml]; rfl) (Steps.refl _) (argsL := []) (rest := []) (lenOf pd_0 rfl) rfl (by show 2 * 0 + _ ≤ _; exact Nat.le_of_eq rfl) (hb hby d2_1) (fun _ _ => ⟨rfl, e0, (by decide : 0 + 0 ≤ _), (by decide : 0 + 0 ≤ _)⟩)
  dsimp only [Pt.U, Pt.locs, Pt.cells, Pt.slots] at X3 l3 y3 z3 st3 hQ3
  subst l3 y3 z3
  obtain ⟨rfl, Nq3, e3⟩ := hQ3
  have N3 := Fr.app N0 Nq3
  obtain ⟨T5, X5, e5, st5⟩ := getS2 X3 hx hZ hown (host := "") (Or.inl (ow hw 28 rfl)) Via.refl e3 S_OrderSegment_OBX (g := (mkF m 100 #[.val (.ref pR1), .val (.ref pR2)] [(.ref pR2)])) rfl (hb hby d2_100)
  obtain ⟨fs, hr, hrun, hended, hW, hsame⟩ := X5.leave (v := some (.int (1 : Int32))) (fun h => by rw [Bd.returns] at h; cases h)
  refine ⟨_, _, pre0 _ ?_, hrun, hended, _, _, rfl, ?_, ⟨_, rfl⟩, hW, hsame.mono (by decide) (by decide)⟩
  · show oS p e below s₁ m 0 #[.val (.ref pR1), .val (.ref pR2)] [] _
    refine XS.aloadN X0.here hx rfl (hb hby d2_0) rfl rfl ?_
    show oS p e below s₁ m 1 #[.val (.ref pR1), .val (.ref pR2)] [(.ref pR1)] _
    refine st3.trans ?_
    show oS p e below T3 m 4 #[.val (.ref pR1), .val (.ref pR2)] [(.int (4 : Int32))] _
    refine XS.tswIn X3.here hx rfl (pc0 := 4) (pc' := 99) (o := 95) rfl (hb hby d2_4) rfl (by decide) (by first | rfl | decide) (by decide) (by decide) ?_
    show oS p e below T3 m 99 #[.val (.ref pR1), .val (.ref pR2)] [] _
    refine XS.aloadN X3.here hx rfl (hb hby d2_99) rfl rfl ?_
    show oS p e below T3 m 100 #[.val (.ref pR1), .val (.ref pR2)] [(.ref pR2)] _
    refine st5 _ ?_
    show oS p e below T5 m 103 #[.val (.ref pR1), .val (.ref pR2)] [(.ref pR4), (.ref pR2)] _
    refine Jvm.RoadKit.acmp (g := (mkF m 103 #[.val (.ref pR1), .val (.ref pR2)] [(.ref pR4), (.ref pR2)])) X5 hx rfl rfl rfl (pc0 := 103) (pc' := 106) (same := true) rfl (hb hby d2_103) rfl (decide_eq_true (congrArg Value.ref hc103)) (by decide) (by decide) ?_
    show oS p e below T5 m 106 #[.val (.ref pR1), .val (.ref pR2)] [] _
    refine XS.iconst X5.here hx rfl (hb hby d2_106) ?_
    show oS p e below T5 m 107 #[.val (.ref pR1), .val (.ref pR2)] [(.int (1 : Int32))] _
    refine XS.goto X5.here hx rfl (pc0 := 107) (pc' := 111) rfl (hb hby d2_107) (by decide) (by decide) ?_
    show oS p e below T5 m 111 #[.val (.ref pR1), .val (.ref pR2)] [(.int (1 : Int32))] _
    exact retN X5 hx (t := .boolean) Bd.returns (by simp) (hb hby d2_111) hr
  · show Qmf4s Z pR1 pR2 pR4 h0 n0 _ T5.heap _
    rw [e5]
    exact ⟨rfl, N3, rfl⟩
theorem d2_110 : decode prog_104_method_4_code 110 = .ok (.iconst 0, 1) := by decide +kernel
theorem ef_mf4d (m : MethodId) (pR1 : Addr) (pR2 : Addr) : entryFrame m #[(.ref pR1), (.ref pR2)] 2 = mkF m 0 #[.val (.ref pR1), .val (.ref pR2)] [] := by first | (simp [entryFrame, mkF, argsToLocals, Value.category]; done) | rfl
def Qmf4d (Z : State) (pR1 : Addr) (pR2 : Addr) (pR4 : Addr) (h0 : Heap) (n0 : Nat) (v : Option Value) (h : Heap) (L : List Loc) : Prop := v = some (.int (0 : Int32)) ∧ Fr n0 L ∧ h = h0
set_option maxRecDepth 65536 in
set_option maxHeartbeats 40000000 in
theorem mf4d (l : Launch) (Z : State) (a0 : Array Value) (hw : ∀ d ∈ tables_1, d.before a0 Z = true) (ws : List Jvm.Cond) (pR1 : Addr) (pR2 : Addr) (pR4 : Addr) (h0 : Heap) (n0 : Nat) (Z0 : n0 ≤ h0.size) (F_ordinal_pR1 : Fld Z h0 pR1 "java/lang/Enum" "ordinal" "I" (.int (4 : Int32))) (E_pR1 : Exa Z h0 pR1 "com/example/vaxwire/vaxwire/reply/OrderSegment") (S_OrderSegment_OBX : Sta Z h0 "com/example/vaxwire/vaxwire/reply/OrderSegment" "OBX" "Lcom/example/vaxwire/vaxwire/reply/OrderSegment;" (.ref pR4)) (hc103 : pR2 ≠ pR4) :
    MetFree l yN3 (head1 (Jvm.Cond.code yN3 prog_104_method_4_code 2 (some .boolean) :: ws) ({ frames := 1, cells := 0, slots := 0, locals := 12 } : Room)) (fun a U => a = #[(.ref pR1), (.ref pR2)] ∧ Z.Warmed39 U.vm ∧ U.heap = h0) (fun _ _ _ _ _ => True) (fun _ U o U' => ∃ v L, o = .returned v ∧ Qmf4d Z pR1 pR2 pR4 h0 n0 v U'.heap L ∧ FrameEnd U o U' L ({ frames := 1, cells := 0, slots := 0, locals := 12 } : Room).cells ({ frames := 1, cells := 0, slots := 0, locals := 12 } : Room).slots) := by
  refine MetFree.of_bodySF (plainFor_of_name pn_2) hisR ?_
  intro p e s m args below meth c s₁ Bd hml0 hP hK
  obtain ⟨rfl, hZ, hh⟩ := hP
  have hx := Bd.exec
  have hby := Bd.bytes
  have hml : c.maxLocals = 2 := hml0
  have hown : s.vm.findClass "com/example/vaxwire/vaxwire/reply/OrderSegment" = some m.cls := findClass_of_methodNamed Bd.named
  have hnm := (name_of_methodNamed Bd.named Bd.method).1
  have X0 : Stand p l e ({ frames := 1, cells := 0, slots := 0, locals := 12 } : Room) s m #[(.ref pR1), (.ref pR2)] below meth c s₁ [] 0 0 := Stand.of_body Bd
  have e0 : s₁.heap = h0 := by rw [← hh, Bd.state]; rfl
  have N0 := Fr.nil n0
  have pre0 : ∀ t, Steps p.tables e below (s₁.setTop (mkF m 0 #[.val (.ref pR1), .val (.ref pR2)] [])) t → Steps p.tables e below (s₁.setTop (entryFrame m #[(.ref pR1), (.ref pR2)] 2)) t := fun t k => castTop (ef_mf4d m pR1 pR2) k
  obtain ⟨cq3, kq3, q3a, q3b, q3c⟩ := isOf hZ e0 E_pR1
  obtain ⟨_, _, ⟨T3, L3, k3, n3⟩, -, X3, ⟨Lc3, hQ3, l3, y3, z3⟩, st3⟩ := X0.virtualBackUp hx (owner := "java/lang/Enum") (x := yN2) (y := yN1) hown (mvT hZ (ow hw 15 rfl)) (mvT hZ (ow hw 16 rfl)) (mvT hZ (ow hw 17 rfl)) (by decide) (mvT hZ (ow hw 19 rfl)) (mvT hZ (ow hw 18 rfl)) (backOf (W := 0) (ordinal l Z a0 hw [] pR1 (4 : Int32) h0 n0 Z0 F_ordinal_pR1) hZ (ow hw 21 rfl) (ow hw 20 rfl) (by decide) (by decide)) q3a q3c (g := (mkF m 1 #[.val (.ref pR1), .val (.ref pR2)] [(.ref pR1)])) rfl (by rw [hml]; rfl) (Steps.refl _) (argsL := []) (rest := []) (lenOf pd_0 rfl) rfl (by show 2 * 0 + _ ≤ _; exact Nat.le_of_eq rfl) (hb hby d2_1) (fun _ _ => ⟨rfl, e0, (by decide : 0 + 0 ≤ _), (by decide : 0 + 0 ≤ _)⟩)
  dsimp only [Pt.U, Pt.locs, Pt.cells, Pt.slots] at X3 l3 y3 z3 st3 hQ3
  subst l3 y3 z3
  obtain ⟨rfl, Nq3, e3⟩ := hQ3
  have N3 := Fr.app N0 Nq3
  obtain ⟨T5, X5, e5, st5⟩ := getS2 X3 hx hZ hown (host := "") (Or.inl (ow hw 28 rfl)) Via.refl e3 S_OrderSegment_OBX (g := (mkF m 100 #[.val (.ref pR1), .val (.ref pR2)] [(.ref pR2)])) rfl (hb hby d2_100)
  obtain ⟨fs, hr, hrun, hended, hW, hsame⟩ := X5.leave (v := some (.int (0 : Int32))) (fun h => by rw [Bd.returns] at h; cases h)
  refine ⟨_, _, pre0 _ ?_, hrun, hended, _, _, rfl, ?_, ⟨_, rfl⟩, hW, hsame.mono (by decide) (by decide)⟩
  · show oS p e below s₁ m 0 #[.val (.ref pR1), .val (.ref pR2)] [] _
    refine XS.aloadN X0.here hx rfl (hb hby d2_0) rfl rfl ?_
    show oS p e below s₁ m 1 #[.val (.ref pR1), .val (.ref pR2)] [(.ref pR1)] _
    refine st3.trans ?_
    show oS p e below T3 m 4 #[.val (.ref pR1), .val (.ref pR2)] [(.int (4 : Int32))] _
    refine XS.tswIn X3.here hx rfl (pc0 := 4) (pc' := 99) (o := 95) rfl (hb hby d2_4) rfl (by decide) (by first | rfl | decide) (by decide) (by decide) ?_
    show oS p e below T3 m 99 #[.val (.ref pR1), .val (.ref pR2)] [] _
    refine XS.aloadN X3.here hx rfl (hb hby d2_99) rfl rfl ?_
    show oS p e below T3 m 100 #[.val (.ref pR1), .val (.ref pR2)] [(.ref pR2)] _
    refine st5 _ ?_
    show oS p e below T5 m 103 #[.val (.ref pR1), .val (.ref pR2)] [(.ref pR4), (.ref pR2)] _
    refine Jvm.RoadKit.acmp (g := (mkF m 103 #[.val (.ref pR1), .val (.ref pR2)] [(.ref pR4), (.ref pR2)])) X5 hx rfl rfl rfl (pc0 := 103) (pc' := 110) (same := false) rfl (hb hby d2_103) rfl (decide_eq_false fun q => hc103 (Value.ref.inj q)) (by decide) (by decide) ?_
    show oS p e below T5 m 110 #[.val (.ref pR1), .val (.ref pR2)] [] _
    refine XS.iconst X5.here hx rfl (hb hby d2_110) ?_
    show oS p e below T5 m 111 #[.val (.ref pR1), .val (.ref pR2)] [(.int (0 : Int32))] _
    exact retN X5 hx (t := .boolean) Bd.returns (by simp) (hb hby d2_111) hr
  · show Qmf4d Z pR1 pR2 pR4 h0 n0 _ T5.heap _
    rw [e5]
    exact ⟨rfl, N3, rfl⟩
theorem pd_1 : parseMethodDescriptor "(I)Lcom/example/vaxwire/vaxwire/reply/OrderSegment;" = some ⟨[.int], some (.object "com/example/vaxwire/vaxwire/reply/OrderSegment")⟩ := by decide +kernel
theorem pd_2 : parseMethodDescriptor "(Lcom/example/vaxwire/vaxwire/reply/OrderSegment;)Z" = some ⟨[(.object "com/example/vaxwire/vaxwire/reply/OrderSegment")], some .boolean⟩ := by decide +kernel
theorem ef_law0_0 (m : MethodId) (pI1 : Int32) (pI2 : Int32) : entryFrame m #[(.int pI1), (.int pI2)] maxLocals = mkF m 0 #[.val (.int pI1), .val (.int pI2), .unset, .unset, .unset, .unset, .unset] [] := by first | (simp [entryFrame, mkF, argsToLocals, Value.category, maxLocals]; done) | rfl
def Qlaw0_0 (Z : State) (pI1 : Int32) (pI2 : Int32) (pR3 : Addr) (h0 : Heap) (n0 : Nat) (v : Option Value) (h : Heap) (L : List Loc) : Prop := v = some (.int (1 : Int32)) ∧ Fr n0 L
set_option maxRecDepth 65536 in
set_option maxHeartbeats 40000000 in
theorem law0_0 (l : Launch) (Z : State) (a0 : Array Value) (hw : ∀ d ∈ tables_1, d.before a0 Z = true) (ws : List Jvm.Cond) (pI1 : Int32) (pI2 : Int32) (pR3 : Addr) (h0 : Heap) (n0 : Nat) (Z0 : n0 ≤ h0.size) (S_OrderSegment_ORC : Sta Z h0 "com/example/vaxwire/vaxwire/reply/OrderSegment" "ORC" "Lcom/example/vaxwire/vaxwire/reply/OrderSegment;" (.ref pR3)) (F_ordinal_pR3 : Fld Z h0 pR3 "java/lang/Enum" "ordinal" "I" (.int (0 : Int32))) (E_pR3 : Exa Z h0 pR3 "com/example/vaxwire/vaxwire/reply/OrderSegment") (hc5 : ((pI1 &&& (2147483647 : Int32)) % (5 : Int32)) = (0 : Int32)) (hc12 : ((pI2 &&& (2147483647 : Int32)) % (5 : Int32)) = (0 : Int32)) :
    MetFree l x (head1 (Jvm.Cond.code x code maxLocals ret :: ws) room_1) (fun a U => a = #[(.int pI1), (.int pI2)] ∧ Z.Warmed39 U.vm ∧ U.heap = h0) (fun _ _ _ _ _ => True) (fun _ U o U' => ∃ v L, o = .returned v ∧ Qlaw0_0 Z pI1 pI2 pR3 h0 n0 v U'.heap L ∧ FrameEnd U o U' L room_1.cells room_1.slots) := by
  refine MetFree.of_bodySF (plainFor_of_name pn_0) hisR ?_
  intro p e s m args below meth c s₁ Bd hml0 hP hK
  obtain ⟨rfl, hZ, hh⟩ := hP
  have hx := Bd.exec
  have hby := Bd.bytes
  have hml : c.maxLocals = 7 := hml0
  have hown : s.vm.findClass "com/example/vaxwire/vaxwire/reply/OrderSegmentMayFollowPinLaw" = some m.cls := findClass_of_methodNamed Bd.named
  have hnm := (name_of_methodNamed Bd.named Bd.method).1
  have X0 : Stand p l e room_1 s m #[(.int pI1), (.int pI2)] below meth c s₁ [] 0 0 := Stand.of_body Bd
  have e0 : s₁.heap = h0 := by rw [← hh, Bd.state]; rfl
  have N0 := Fr.nil n0
  have pre0 : ∀ t, Steps p.tables e below (s₁.setTop (mkF m 0 #[.val (.int pI1), .val (.int pI2), .unset, .unset, .unset, .unset, .unset] [])) t → Steps p.tables e below (s₁.setTop (entryFrame m #[(.int pI1), (.int pI2)] maxLocals)) t := fun t k => castTop (ef_law0_0 m pI1 pI2) k
  obtain ⟨_, _, ⟨T4, L4, k4, n4⟩, -, X4, ⟨Lc4, hQ4, l4, y4, z4⟩, st4⟩ := Jvm.LawKit.callS X0 hx (y := yN0) hown (mvT hZ (ow hw 1 rfl)) (mvT hZ (ow hw 2 rfl)) (mvT hZ (ow hw 3 rfl)) (mvT hZ (ow hw 4 rfl)) (by decide) (backOf (W := 0) (pick0 l Z a0 hw [] pR3 h0 n0 Z0 S_OrderSegment_ORC) hZ (ow hw 4 rfl) (ow hw 3 rfl) (by decide) (by decide)) (g := (mkF m 15 #[.val (.int pI1), .val (.int pI2), .val (.int (0 : Int32)), .val (.int (0 : Int32)), .unset, .unset, .unset] [(.int (0 : Int32))])) rfl (by rw [hml]; rfl) (argsL := [(.int (0 : Int32))]) (rest := []) (lenOf pd_1 rfl) rfl (by show 2 * 0 + _ ≤ _; exact Nat.le_of_eq rfl) (hb hby at_15) (fun _ _ => ⟨rfl, e0, (by decide : 0 + 0 ≤ _), (by decide : 0 + 0 ≤ _)⟩)
  dsimp only [Pt.U, Pt.locs, Pt.cells, Pt.slots] at X4 l4 y4 z4 st4 hQ4
  subst l4 y4 z4
  obtain ⟨rfl, Nq4, e4⟩ := hQ4
  have N4 := Fr.app N0 Nq4
  obtain ⟨_, _, ⟨T5, L5, k5, n5⟩, -, X5, ⟨Lc5, hQ5, l5, y5, z5⟩, st5⟩ := Jvm.LawKit.callS X4 hx (y := yN0) hown (mvT hZ (ow hw 1 rfl)) (mvT hZ (ow hw 2 rfl)) (mvT hZ (ow hw 3 rfl)) (mvT hZ (ow hw 4 rfl)) (by decide) (backOf (W := 0) (pick0 l Z a0 hw [] pR3 h0 n0 Z0 S_OrderSegment_ORC) hZ (ow hw 4 rfl) (ow hw 3 rfl) (by decide) (by decide)) (g := (mkF m 21 #[.val (.int pI1), .val (.int pI2), .val (.int (0 : Int32)), .val (.int (0 : Int32)), .val (.ref pR3), .unset, .unset] [(.int (0 : Int32))])) rfl (by rw [hml]; rfl) (argsL := [(.int (0 : Int32))]) (rest := []) (lenOf pd_1 rfl) rfl (by show 2 * 0 + _ ≤ _; exact Nat.le_of_eq rfl) (hb hby at_21) (fun _ _ => ⟨rfl, e4, (by decide : 0 + 0 ≤ _), (by decide : 0 + 0 ≤ _)⟩)
  dsimp only [Pt.U, Pt.locs, Pt.cells, Pt.slots] at X5 l5 y5 z5 st5 hQ5
  subst l5 y5 z5
  obtain ⟨rfl, Nq5, e5⟩ := hQ5
  have N5 := Fr.app N4 Nq5
  obtain ⟨cq6, kq6, q6a, q6b, q6c⟩ := isOf hZ e5 E_pR3
  obtain ⟨_, _, ⟨T6, L6, k6, n6⟩, -, X6, ⟨Lc6, hQ6, l6, y6, z6⟩, st6⟩ := X5.virtualBack hx (y := yN3) (z := yN3) hown (mvT hZ (ow hw 10 rfl)) (mvT hZ (ow hw 11 rfl)) (notFace_of_selects (args := #[]) (mvT hZ (ow hw 13 rfl))) (mvT hZ (ow hw 13 rfl)) (mvT hZ (ow hw 12 rfl)) (by decide) (backOf (W := 0) (mf0 l Z a0 hw [] pR3 pR3 h0 n0 Z0 F_ordinal_pR3 E_pR3) hZ (ow hw 14 rfl) (ow hw 6 rfl) (by decide) (by decide)) q6a q6c (g := (mkF m 106 #[.val (.int pI1), .val (.int pI2), .val (.int (0 : Int32)), .val (.int (0 : Int32)), .val (.ref pR3), .val (.ref pR3), .val (.int (0 : Int32))] [(.ref pR3), (.ref pR3)])) rfl (by rw [hml]; rfl) (Steps.refl _) (argsL := [(.ref pR3)]) (rest := []) (lenOf pd_2 rfl) rfl (by show 2 * 0 + _ ≤ _; exact Nat.le_of_eq rfl) (hb hby at_106) (fun _ _ => ⟨rfl, e5, (by decide : 0 + 0 ≤ _), (by decide : 0 + 0 ≤ _)⟩)
  dsimp only [Pt.U, Pt.locs, Pt.cells, Pt.slots] at X6 l6 y6 z6 st6 hQ6
  subst l6 y6 z6
  obtain ⟨rfl, Nq6, e6⟩ := hQ6
  have N6 := Fr.app N5 Nq6
  obtain ⟨fs, hr, hrun, hended, hW, hsame⟩ := X6.leave (v := some (.int (1 : Int32))) (fun h => by rw [Bd.returns] at h; cases h)
  refine ⟨_, _, pre0 _ ?_, hrun, hended, _, _, rfl, ?_, ⟨_, rfl⟩, hW, hsame.mono (by decide) (by decide)⟩
  · show oS p e below s₁ m 0 #[.val (.int pI1), .val (.int pI2), .unset, .unset, .unset, .unset, .unset] [] _
    refine XS.iloadN X0.here hx rfl (hb hby at_0) rfl ?_
    show oS p e below s₁ m 1 #[.val (.int pI1), .val (.int pI2), .unset, .unset, .unset, .unset, .unset] [(.int pI1)] _
    refine X0.ldcInt hx hown (mvT hZ (ow hw 0 rfl)) (g := (mkF m 1 #[.val (.int pI1), .val (.int pI2), .unset, .unset, .unset, .unset, .unset] [(.int pI1)])) rfl (hb hby at_1) _ ?_
    show oS p e below s₁ m 3 #[.val (.int pI1), .val (.int pI2), .unset, .unset, .unset, .unset, .unset] [(.int (2147483647 : Int32)), (.int pI1)] _
    refine XS.iand X0.here hx rfl (hb hby at_3) rfl ?_
    show oS p e below s₁ m 4 #[.val (.int pI1), .val (.int pI2), .unset, .unset, .unset, .unset, .unset] [(.int (pI1 &&& (2147483647 : Int32)))] _
    refine XS.iconst X0.here hx rfl (hb hby at_4) ?_
    show oS p e below s₁ m 5 #[.val (.int pI1), .val (.int pI2), .unset, .unset, .unset, .unset, .unset] [(.int (5 : Int32)), (.int (pI1 &&& (2147483647 : Int32)))] _
    refine iremM (g := (mkF m 5 #[.val (.int pI1), .val (.int pI2), .unset, .unset, .unset, .unset, .unset] [(.int (5 : Int32)), (.int (pI1 &&& (2147483647 : Int32)))])) X0 hx rfl (hb hby at_5) rfl (by decide) ?_
    show Steps p.tables e below (s₁.setTop (mkF m 6 #[.val (.int pI1), .val (.int pI2), .unset, .unset, .unset, .unset, .unset] [(.int ((pI1 &&& (2147483647 : Int32)) % (5 : Int32)))])) _
    rw [hc5]
    show oS p e below s₁ m 6 #[.val (.int pI1), .val (.int pI2), .unset, .unset, .unset, .unset, .unset] [(.int (0 : Int32))] _
    refine XS.istoreN X0.here hx rfl (hb hby at_6) rfl (l' := #[.val (.int pI1), .val (.int pI2), .val (.int (0 : Int32)), .unset, .unset, .unset, .unset]) rfl ?_
    show oS p e below s₁ m 7 #[.val (.int pI1), .val (.int pI2), .val (.int (0 : Int32)), .unset, .unset, .unset, .unset] [] _
    refine XS.iloadN X0.here hx rfl (hb hby at_7) rfl ?_
    show oS p e below s₁ m 8 #[.val (.int pI1), .val (.int pI2), .val (.int (0 : Int32)), .unset, .unset, .unset, .unset] [(.int pI2)] _
    refine X0.ldcInt hx hown (mvT hZ (ow hw 0 rfl)) (g := (mkF m 8 #[.val (.int pI1), .val (.int pI2), .val (.int (0 : Int32)), .unset, .unset, .unset, .unset] [(.int pI2)])) rfl (hb hby at_8) _ ?_
    show oS p e below s₁ m 10 #[.val (.int pI1), .val (.int pI2), .val (.int (0 : Int32)), .unset, .unset, .unset, .unset] [(.int (2147483647 : Int32)), (.int pI2)] _
    refine XS.iand X0.here hx rfl (hb hby at_10) rfl ?_
    show oS p e below s₁ m 11 #[.val (.int pI1), .val (.int pI2), .val (.int (0 : Int32)), .unset, .unset, .unset, .unset] [(.int (pI2 &&& (2147483647 : Int32)))] _
    refine XS.iconst X0.here hx rfl (hb hby at_11) ?_
    show oS p e below s₁ m 12 #[.val (.int pI1), .val (.int pI2), .val (.int (0 : Int32)), .unset, .unset, .unset, .unset] [(.int (5 : Int32)), (.int (pI2 &&& (2147483647 : Int32)))] _
    refine iremM (g := (mkF m 12 #[.val (.int pI1), .val (.int pI2), .val (.int (0 : Int32)), .unset, .unset, .unset, .unset] [(.int (5 : Int32)), (.int (pI2 &&& (2147483647 : Int32)))])) X0 hx rfl (hb hby at_12) rfl (by decide) ?_
    show Steps p.tables e below (s₁.setTop (mkF m 13 #[.val (.int pI1), .val (.int pI2), .val (.int (0 : Int32)), .unset, .unset, .unset, .unset] [(.int ((pI2 &&& (2147483647 : Int32)) % (5 : Int32)))])) _
    rw [hc12]
    show oS p e below s₁ m 13 #[.val (.int pI1), .val (.int pI2), .val (.int (0 : Int32)), .unset, .unset, .unset, .unset] [(.int (0 : Int32))] _
    refine XS.istoreN X0.here hx rfl (hb hby at_13) rfl (l' := #[.val (.int pI1), .val (.int pI2), .val (.int (0 : Int32)), .val (.int (0 : Int32)), .unset, .unset, .unset]) rfl ?_
    show oS p e below s₁ m 14 #[.val (.int pI1), .val (.int pI2), .val (.int (0 : Int32)), .val (.int (0 : Int32)), .unset, .unset, .unset] [] _
    refine XS.iloadN X0.here hx rfl (hb hby at_14) rfl ?_
    show oS p e below s₁ m 15 #[.val (.int pI1), .val (.int pI2), .val (.int (0 : Int32)), .val (.int (0 : Int32)), .unset, .unset, .unset] [(.int (0 : Int32))] _
    refine st4 _ ?_
    show oS p e below T4 m 18 #[.val (.int pI1), .val (.int pI2), .val (.int (0 : Int32)), .val (.int (0 : Int32)), .unset, .unset, .unset] [(.ref pR3)] _
    refine XS.astore X4.here hx rfl (hb hby at_18) rfl rfl (l' := #[.val (.int pI1), .val (.int pI2), .val (.int (0 : Int32)), .val (.int (0 : Int32)), .val (.ref pR3), .unset, .unset]) rfl ?_
    show oS p e below T4 m 20 #[.val (.int pI1), .val (.int pI2), .val (.int (0 : Int32)), .val (.int (0 : Int32)), .val (.ref pR3), .unset, .unset] [] _
    refine XS.iloadN X4.here hx rfl (hb hby at_20) rfl ?_
    show oS p e below T4 m 21 #[.val (.int pI1), .val (.int pI2), .val (.int (0 : Int32)), .val (.int (0 : Int32)), .val (.ref pR3), .unset, .unset] [(.int (0 : Int32))] _
    refine st5 _ ?_
    show oS p e below T5 m 24 #[.val (.int pI1), .val (.int pI2), .val (.int (0 : Int32)), .val (.int (0 : Int32)), .val (.ref pR3), .unset, .unset] [(.ref pR3)] _
    refine XS.astore X5.here hx rfl (hb hby at_24) rfl rfl (l' := #[.val (.int pI1), .val (.int pI2), .val (.int (0 : Int32)), .val (.int (0 : Int32)), .val (.ref pR3), .val (.ref pR3), .unset]) rfl ?_
    show oS p e below T5 m 26 #[.val (.int pI1), .val (.int pI2), .val (.int (0 : Int32)), .val (.int (0 : Int32)), .val (.ref pR3), .val (.ref pR3), .unset] [] _
    refine XS.iloadN X5.here hx rfl (hb hby at_26) rfl ?_
    show oS p e below T5 m 27 #[.val (.int pI1), .val (.int pI2), .val (.int (0 : Int32)), .val (.int (0 : Int32)), .val (.ref pR3), .val (.ref pR3), .unset] [(.int (0 : Int32))] _
    refine XS.ifNo X5.here hx rfl (hb hby at_27) rfl ((if0 _ _).trans (teq (by decide : (0 : Int32) = (0 : Int32))).2) ?_
    show oS p e below T5 m 30 #[.val (.int pI1), .val (.int pI2), .val (.int (0 : Int32)), .val (.int (0 : Int32)), .val (.ref pR3), .val (.ref pR3), .unset] [] _
    refine XS.iloadN X5.here hx rfl (hb hby at_30) rfl ?_
    show oS p e below T5 m 31 #[.val (.int pI1), .val (.int pI2), .val (.int (0 : Int32)), .val (.int (0 : Int32)), .val (.ref pR3), .val (.ref pR3), .unset] [(.int (0 : Int32))] _
    refine XS.iconst X5.here hx rfl (hb hby at_31) ?_
    show oS p e below T5 m 32 #[.val (.int pI1), .val (.int pI2), .val (.int (0 : Int32)), .val (.int (0 : Int32)), .val (.ref pR3), .val (.ref pR3), .unset] [(.int (1 : Int32)), (.int (0 : Int32))] _
    refine XS.icmpNo X5.here hx rfl (hb hby at_32) rfl (feq (by decide : ¬ ((0 : Int32) = (1 : Int32)))).1 ?_
    show oS p e below T5 m 35 #[.val (.int pI1), .val (.int pI2), .val (.int (0 : Int32)), .val (.int (0 : Int32)), .val (.ref pR3), .val (.ref pR3), .unset] [] _
    refine XS.iloadN X5.here hx rfl (hb hby at_35) rfl ?_
    show oS p e below T5 m 36 #[.val (.int pI1), .val (.int pI2), .val (.int (0 : Int32)), .val (.int (0 : Int32)), .val (.ref pR3), .val (.ref pR3), .unset] [(.int (0 : Int32))] _
    refine XS.iconst X5.here hx rfl (hb hby at_36) ?_
    show oS p e below T5 m 37 #[.val (.int pI1), .val (.int pI2), .val (.int (0 : Int32)), .val (.int (0 : Int32)), .val (.ref pR3), .val (.ref pR3), .unset] [(.int (1 : Int32)), (.int (0 : Int32))] _
    refine XS.icmpYes X5.here hx rfl (pc0 := 37) (pc' := 45) rfl (hb hby at_37) rfl (feq (by decide : ¬ ((0 : Int32) = (1 : Int32)))).2 (by decide) (by decide) ?_
    show oS p e below T5 m 45 #[.val (.int pI1), .val (.int pI2), .val (.int (0 : Int32)), .val (.int (0 : Int32)), .val (.ref pR3), .val (.ref pR3), .unset] [] _
    refine XS.iloadN X5.here hx rfl (hb hby at_45) rfl ?_
    show oS p e below T5 m 46 #[.val (.int pI1), .val (.int pI2), .val (.int (0 : Int32)), .val (.int (0 : Int32)), .val (.ref pR3), .val (.ref pR3), .unset] [(.int (0 : Int32))] _
    refine XS.iconst X5.here hx rfl (hb hby at_46) ?_
    show oS p e below T5 m 47 #[.val (.int pI1), .val (.int pI2), .val (.int (0 : Int32)), .val (.int (0 : Int32)), .val (.ref pR3), .val (.ref pR3), .unset] [(.int (1 : Int32)), (.int (0 : Int32))] _
    refine XS.icmpYes X5.here hx rfl (pc0 := 47) (pc' := 55) rfl (hb hby at_47) rfl (feq (by decide : ¬ ((0 : Int32) = (1 : Int32)))).2 (by decide) (by decide) ?_
    show oS p e below T5 m 55 #[.val (.int pI1), .val (.int pI2), .val (.int (0 : Int32)), .val (.int (0 : Int32)), .val (.ref pR3), .val (.ref pR3), .unset] [] _
    refine XS.iloadN X5.here hx rfl (hb hby at_55) rfl ?_
    show oS p e below T5 m 56 #[.val (.int pI1), .val (.int pI2), .val (.int (0 : Int32)), .val (.int (0 : Int32)), .val (.ref pR3), .val (.ref pR3), .unset] [(.int (0 : Int32))] _
    refine XS.iconst X5.here hx rfl (hb hby at_56) ?_
    show oS p e below T5 m 57 #[.val (.int pI1), .val (.int pI2), .val (.int (0 : Int32)), .val (.int (0 : Int32)), .val (.ref pR3), .val (.ref pR3), .unset] [(.int (2 : Int32)), (.int (0 : Int32))] _
    refine XS.icmpYes X5.here hx rfl (pc0 := 57) (pc' := 65) rfl (hb hby at_57) rfl (feq (by decide : ¬ ((0 : Int32) = (2 : Int32)))).2 (by decide) (by decide) ?_
    show oS p e below T5 m 65 #[.val (.int pI1), .val (.int pI2), .val (.int (0 : Int32)), .val (.int (0 : Int32)), .val (.ref pR3), .val (.ref pR3), .unset] [] _
    refine XS.iloadN X5.here hx rfl (hb hby at_65) rfl ?_
    show oS p e below T5 m 66 #[.val (.int pI1), .val (.int pI2), .val (.int (0 : Int32)), .val (.int (0 : Int32)), .val (.ref pR3), .val (.ref pR3), .unset] [(.int (0 : Int32))] _
    refine XS.iconst X5.here hx rfl (hb hby at_66) ?_
    show oS p e below T5 m 67 #[.val (.int pI1), .val (.int pI2), .val (.int (0 : Int32)), .val (.int (0 : Int32)), .val (.ref pR3), .val (.ref pR3), .unset] [(.int (3 : Int32)), (.int (0 : Int32))] _
    refine XS.icmpYes X5.here hx rfl (pc0 := 67) (pc' := 75) rfl (hb hby at_67) rfl (feq (by decide : ¬ ((0 : Int32) = (3 : Int32)))).2 (by decide) (by decide) ?_
    show oS p e below T5 m 75 #[.val (.int pI1), .val (.int pI2), .val (.int (0 : Int32)), .val (.int (0 : Int32)), .val (.ref pR3), .val (.ref pR3), .unset] [] _
    refine XS.iloadN X5.here hx rfl (hb hby at_75) rfl ?_
    show oS p e below T5 m 76 #[.val (.int pI1), .val (.int pI2), .val (.int (0 : Int32)), .val (.int (0 : Int32)), .val (.ref pR3), .val (.ref pR3), .unset] [(.int (0 : Int32))] _
    refine XS.iconst X5.here hx rfl (hb hby at_76) ?_
    show oS p e below T5 m 77 #[.val (.int pI1), .val (.int pI2), .val (.int (0 : Int32)), .val (.int (0 : Int32)), .val (.ref pR3), .val (.ref pR3), .unset] [(.int (4 : Int32)), (.int (0 : Int32))] _
    refine XS.icmpYes X5.here hx rfl (pc0 := 77) (pc' := 85) rfl (hb hby at_77) rfl (feq (by decide : ¬ ((0 : Int32) = (4 : Int32)))).2 (by decide) (by decide) ?_
    show oS p e below T5 m 85 #[.val (.int pI1), .val (.int pI2), .val (.int (0 : Int32)), .val (.int (0 : Int32)), .val (.ref pR3), .val (.ref pR3), .unset] [] _
    refine XS.iloadN X5.here hx rfl (hb hby at_85) rfl ?_
    show oS p e below T5 m 86 #[.val (.int pI1), .val (.int pI2), .val (.int (0 : Int32)), .val (.int (0 : Int32)), .val (.ref pR3), .val (.ref pR3), .unset] [(.int (0 : Int32))] _
    refine XS.iconst X5.here hx rfl (hb hby at_86) ?_
    show oS p e below T5 m 87 #[.val (.int pI1), .val (.int pI2), .val (.int (0 : Int32)), .val (.int (0 : Int32)), .val (.ref pR3), .val (.ref pR3), .unset] [(.int (3 : Int32)), (.int (0 : Int32))] _
    refine XS.icmpYes X5.here hx rfl (pc0 := 87) (pc' := 99) rfl (hb hby at_87) rfl (feq (by decide : ¬ ((0 : Int32) = (3 : Int32)))).2 (by decide) (by decide) ?_
    show oS p e below T5 m 99 #[.val (.int pI1), .val (.int pI2), .val (.int (0 : Int32)), .val (.int (0 : Int32)), .val (.ref pR3), .val (.ref pR3), .unset] [] _
    refine XS.iconst X5.here hx rfl (hb hby at_99) ?_
    show oS p e below T5 m 100 #[.val (.int pI1), .val (.int pI2), .val (.int (0 : Int32)), .val (.int (0 : Int32)), .val (.ref pR3), .val (.ref pR3), .unset] [(.int (0 : Int32))] _
    refine XS.istore X5.here hx rfl (hb hby at_100) rfl (l' := #[.val (.int pI1), .val (.int pI2), .val (.int (0 : Int32)), .val (.int (0 : Int32)), .val (.ref pR3), .val (.ref pR3), .val (.int (0 : Int32))]) rfl ?_
    show oS p e below T5 m 102 #[.val (.int pI1), .val (.int pI2), .val (.int (0 : Int32)), .val (.int (0 : Int32)), .val (.ref pR3), .val (.ref pR3), .val (.int (0 : Int32))] [] _
    refine XS.aload X5.here hx rfl (hb hby at_102) rfl rfl ?_
    show oS p e below T5 m 104 #[.val (.int pI1), .val (.int pI2), .val (.int (0 : Int32)), .val (.int (0 : Int32)), .val (.ref pR3), .val (.ref pR3), .val (.int (0 : Int32))] [(.ref pR3)] _
    refine XS.aload X5.here hx rfl (hb hby at_104) rfl rfl ?_
    show oS p e below T5 m 106 #[.val (.int pI1), .val (.int pI2), .val (.int (0 : Int32)), .val (.int (0 : Int32)), .val (.ref pR3), .val (.ref pR3), .val (.int (0 : Int32))] [(.ref pR3), (.ref pR3)] _
    refine st6.trans ?_
    show oS p e below T6 m 109 #[.val (.int pI1), .val (.int pI2), .val (.int (0 : Int32)), .val (.int (0 : Int32)), .val (.ref pR3), .val (.ref pR3), .val (.int (0 : Int32))] [(.int (0 : Int32))] _
    refine XS.iload X6.here hx rfl (hb hby at_109) rfl ?_
    show oS p e below T6 m 111 #[.val (.int pI1), .val (.int pI2), .val (.int (0 : Int32)), .val (.int (0 : Int32)), .val (.ref pR3), .val (.ref pR3), .val (.int (0 : Int32))] [(.int (0 : Int32)), (.int (0 : Int32))] _
    refine XS.icmpNo X6.here hx rfl (hb hby at_111) rfl (teq (by decide : (0 : Int32) = (0 : Int32))).2 ?_
    show oS p e below T6 m 114 #[.val (.int pI1), .val (.int pI2), .val (.int (0 : Int32)), .val (.int (0 : Int32)), .val (.ref pR3), .val (.ref pR3), .val (.int (0 : Int32))] [] _
    refine XS.iconst X6.here hx rfl (hb hby at_114) ?_
    show oS p e below T6 m 115 #[.val (.int pI1), .val (.int pI2), .val (.int (0 : Int32)), .val (.int (0 : Int32)), .val (.ref pR3), .val (.ref pR3), .val (.int (0 : Int32))] [(.int (1 : Int32))] _
    refine XS.goto X6.here hx rfl (pc0 := 115) (pc' := 119) rfl (hb hby at_115) (by decide) (by decide) ?_
    show oS p e below T6 m 119 #[.val (.int pI1), .val (.int pI2), .val (.int (0 : Int32)), .val (.int (0 : Int32)), .val (.ref pR3), .val (.ref pR3), .val (.int (0 : Int32))] [(.int (1 : Int32))] _
    exact retN X6 hx (t := .boolean) Bd.returns (by simp) (hb hby at_119) hr
  · show Qlaw0_0 Z pI1 pI2 pR3 h0 n0 _ T6.heap _
    rw [e6]
    exact ⟨rfl, N6⟩
theorem ef_law0_1 (m : MethodId) (pI1 : Int32) (pI2 : Int32) : entryFrame m #[(.int pI1), (.int pI2)] maxLocals = mkF m 0 #[.val (.int pI1), .val (.int pI2), .unset, .unset, .unset, .unset, .unset] [] := by first | (simp [entryFrame, mkF, argsToLocals, Value.category, maxLocals]; done) | rfl
def Qlaw0_1 (Z : State) (pI1 : Int32) (pI2 : Int32) (pR3 : Addr) (pR5 : Addr) (h0 : Heap) (n0 : Nat) (v : Option Value) (h : Heap) (L : List Loc) : Prop := v = some (.int (1 : Int32)) ∧ Fr n0 L
set_option maxRecDepth 65536 in
set_option maxHeartbeats 40000000 in
theorem law0_1 (l : Launch) (Z : State) (a0 : Array Value) (hw : ∀ d ∈ tables_1, d.before a0 Z = true) (ws : List Jvm.Cond) (pI1 : Int32) (pI2 : Int32) (pR3 : Addr) (pR5 : Addr) (h0 : Heap) (n0 : Nat) (Z0 : n0 ≤ h0.size) (S_OrderSegment_ORC : Sta Z h0 "com/example/vaxwire/vaxwire/reply/OrderSegment" "ORC" "Lcom/example/vaxwire/vaxwire/reply/OrderSegment;" (.ref pR3)) (S_OrderSegment_RXA : Sta Z h0 "com/example/vaxwire/vaxwire/reply/OrderSegment" "RXA" "Lcom/example/vaxwire/vaxwire/reply/OrderSegment;" (.ref pR5)) (F_ordinal_pR3 : Fld Z h0 pR3 "java/lang/Enum" "ordinal" "I" (.int (0 : Int32))) (E_pR3 : Exa Z h0 pR3 "com/example/vaxwire/vaxwire/reply/OrderSegment") (hc5 : ((pI1 &&& (2147483647 : Int32)) % (5 : Int32)) = (0 : Int32)) (hc12 : ((pI2 &&& (2147483647 : Int32)) % (5 : Int32)) = (1 : Int32)) :
    MetFree l x (head1 (Jvm.Cond.code x code maxLocals ret :: ws) room_1) (fun a U => a = #[(.int pI1), (.int pI2)] ∧ Z.Warmed39 U.vm ∧ U.heap = h0) (fun _ _ _ _ _ => True) (fun _ U o U' => ∃ v L, o = .returned v ∧ Qlaw0_1 Z pI1 pI2 pR3 pR5 h0 n0 v U'.heap L ∧ FrameEnd U o U' L room_1.cells room_1.slots) := by
  refine MetFree.of_bodySF (plainFor_of_name pn_0) hisR ?_
  intro p e s m args below meth c s₁ Bd hml0 hP hK
  obtain ⟨rfl, hZ, hh⟩ := hP
  have hx := Bd.exec
  have hby := Bd.bytes
  have hml : c.maxLocals = 7 := hml0
  have hown : s.vm.findClass "com/example/vaxwire/vaxwire/reply/OrderSegmentMayFollowPinLaw" = some m.cls := findClass_of_methodNamed Bd.named
  have hnm := (name_of_methodNamed Bd.named Bd.method).1
  have X0 : Stand p l e room_1 s m #[(.int pI1), (.int pI2)] below meth c s₁ [] 0 0 := Stand.of_body Bd
  have e0 : s₁.heap = h0 := by rw [← hh, Bd.state]; rfl
  have N0 := Fr.nil n0
  have pre0 : ∀ t, Steps p.tables e below (s₁.setTop (mkF m 0 #[.val (.int pI1), .val (.int pI2), .unset, .unset, .unset, .unset, .unset] [])) t → Steps p.tables e below (s₁.setTop (entryFrame m #[(.int pI1), (.int pI2)] maxLocals)) t := fun t k => castTop (ef_law0_1 m pI1 pI2) k
  obtain ⟨_, _, ⟨T4, L4, k4, n4⟩, -, X4, ⟨Lc4, hQ4, l4, y4, z4⟩, st4⟩ := Jvm.LawKit.callS X0 hx (y := yN0) hown (mvT hZ (ow hw 1 rfl)) (mvT hZ (ow hw 2 rfl)) (mvT hZ (ow hw 3 rfl)) (mvT hZ (ow hw 4 rfl)) (by decide) (backOf (W := 0) (pick0 l Z a0 hw [] pR3 h0 n0 Z0 S_OrderSegment_ORC) hZ (ow hw 4 rfl) (ow hw 3 rfl) (by decide) (by decide)) (g := (mkF m 15 #[.val (.int pI1), .val (.int pI2), .val (.int (0 : Int32)), .val (.int (1 : Int32)), .unset, .unset, .unset] [(.int (0 : Int32))])) rfl (by rw [hml]; rfl) (argsL := [(.int (0 : Int32))]) (rest := []) (lenOf pd_1 rfl) rfl (by show 2 * 0 + _ ≤ _; exact Nat.le_of_eq rfl) (hb hby at_15) (fun _ _ => ⟨rfl, e0, (by decide : 0 + 0 ≤ _), (by decide : 0 + 0 ≤ _)⟩)
  dsimp only [Pt.U, Pt.locs, Pt.cells, Pt.slots] at X4 l4 y4 z4 st4 hQ4
  subst l4 y4 z4
  obtain ⟨rfl, Nq4, e4⟩ := hQ4
  have N4 := Fr.app N0 Nq4
  obtain ⟨_, _, ⟨T6, L6, k6, n6⟩, -, X6, ⟨Lc6, hQ6, l6, y6, z6⟩, st6⟩ := Jvm.LawKit.callS X4 hx (y := yN0) hown (mvT hZ (ow hw 1 rfl)) (mvT hZ (ow hw 2 rfl)) (mvT hZ (ow hw 3 rfl)) (mvT hZ (ow hw 4 rfl)) (by decide) (backOf (W := 0) (pick1 l Z a0 hw [] pR5 h0 n0 Z0 S_OrderSegment_RXA) hZ (ow hw 4 rfl) (ow hw 3 rfl) (by decide) (by decide)) (g := (mkF m 21 #[.val (.int pI1), .val (.int pI2), .val (.int (0 : Int32)), .val (.int (1 : Int32)), .val (.ref pR3), .unset, .unset] [(.int (1 : Int32))])) rfl (by rw [hml]; rfl) (argsL := [(.int (1 : Int32))]) (rest := []) (lenOf pd_1 rfl) rfl (by show 2 * 0 + _ ≤ _; exact Nat.le_of_eq rfl) (hb hby at_21) (fun _ _ => ⟨rfl, e4, (by decide : 0 + 0 ≤ _), (by decide : 0 + 0 ≤ _)⟩)
  dsimp only [Pt.U, Pt.locs, Pt.cells, Pt.slots] at X6 l6 y6 z6 st6 hQ6
  subst l6 y6 z6
  obtain ⟨rfl, Nq6, e6⟩ := hQ6
  have N6 := Fr.app N4 Nq6
  obtain ⟨cq7, kq7, q7a, q7b, q7c⟩ := isOf hZ e6 E_pR3
  obtain ⟨_, _, ⟨T7, L7, k7, n7⟩, -, X7, ⟨Lc7, hQ7, l7, y7, z7⟩, st7⟩ := X6.virtualBack hx (y := yN3) (z := yN3) hown (mvT hZ (ow hw 10 rfl)) (mvT hZ (ow hw 11 rfl)) (notFace_of_selects (args := #[]) (mvT hZ (ow hw 13 rfl))) (mvT hZ (ow hw 13 rfl)) (mvT hZ (ow hw 12 rfl)) (by decide) (backOf (W := 0) (mf0 l Z a0 hw [] pR3 pR5 h0 n0 Z0 F_ordinal_pR3 E_pR3) hZ (ow hw 14 rfl) (ow hw 6 rfl) (by decide) (by decide)) q7a q7c (g := (mkF m 106 #[.val (.int pI1), .val (.int pI2), .val (.int (0 : Int32)), .val (.int (1 : Int32)), .val (.ref pR3), .val (.ref pR5), .val (.int (0 : Int32))] [(.ref pR5), (.ref pR3)])) rfl (by rw [hml]; rfl) (Steps.refl _) (argsL := [(.ref pR5)]) (rest := []) (lenOf pd_2 rfl) rfl (by show 2 * 0 + _ ≤ _; exact Nat.le_of_eq rfl) (hb hby at_106) (fun _ _ => ⟨rfl, e6, (by decide : 0 + 0 ≤ _), (by decide : 0 + 0 ≤ _)⟩)
  dsimp only [Pt.U, Pt.locs, Pt.cells, Pt.slots] at X7 l7 y7 z7 st7 hQ7
  subst l7 y7 z7
  obtain ⟨rfl, Nq7, e7⟩ := hQ7
  have N7 := Fr.app N6 Nq7
  obtain ⟨fs, hr, hrun, hended, hW, hsame⟩ := X7.leave (v := some (.int (1 : Int32))) (fun h => by rw [Bd.returns] at h; cases h)
  refine ⟨_, _, pre0 _ ?_, hrun, hended, _, _, rfl, ?_, ⟨_, rfl⟩, hW, hsame.mono (by decide) (by decide)⟩
  · show oS p e below s₁ m 0 #[.val (.int pI1), .val (.int pI2), .unset, .unset, .unset, .unset, .unset] [] _
    refine XS.iloadN X0.here hx rfl (hb hby at_0) rfl ?_
    show oS p e below s₁ m 1 #[.val (.int pI1), .val (.int pI2), .unset, .unset, .unset, .unset, .unset] [(.int pI1)] _
    refine X0.ldcInt hx hown (mvT hZ (ow hw 0 rfl)) (g := (mkF m 1 #[.val (.int pI1), .val (.int pI2), .unset, .unset, .unset, .unset, .unset] [(.int pI1)])) rfl (hb hby at_1) _ ?_
    show oS p e below s₁ m 3 #[.val (.int pI1), .val (.int pI2), .unset, .unset, .unset, .unset, .unset] [(.int (2147483647 : Int32)), (.int pI1)] _
    refine XS.iand X0.here hx rfl (hb hby at_3) rfl ?_
    show oS p e below s₁ m 4 #[.val (.int pI1), .val (.int pI2), .unset, .unset, .unset, .unset, .unset] [(.int (pI1 &&& (2147483647 : Int32)))] _
    refine XS.iconst X0.here hx rfl (hb hby at_4) ?_
    show oS p e below s₁ m 5 #[.val (.int pI1), .val (.int pI2), .unset, .unset, .unset, .unset, .unset] [(.int (5 : Int32)), (.int (pI1 &&& (2147483647 : Int32)))] _
    refine iremM (g := (mkF m 5 #[.val (.int pI1), .val (.int pI2), .unset, .unset, .unset, .unset, .unset] [(.int (5 : Int32)), (.int (pI1 &&& (2147483647 : Int32)))])) X0 hx rfl (hb hby at_5) rfl (by decide) ?_
    show Steps p.tables e below (s₁.setTop (mkF m 6 #[.val (.int pI1), .val (.int pI2), .unset, .unset, .unset, .unset, .unset] [(.int ((pI1 &&& (2147483647 : Int32)) % (5 : Int32)))])) _
    rw [hc5]
    show oS p e below s₁ m 6 #[.val (.int pI1), .val (.int pI2), .unset, .unset, .unset, .unset, .unset] [(.int (0 : Int32))] _
    refine XS.istoreN X0.here hx rfl (hb hby at_6) rfl (l' := #[.val (.int pI1), .val (.int pI2), .val (.int (0 : Int32)), .unset, .unset, .unset, .unset]) rfl ?_
    show oS p e below s₁ m 7 #[.val (.int pI1), .val (.int pI2), .val (.int (0 : Int32)), .unset, .unset, .unset, .unset] [] _
    refine XS.iloadN X0.here hx rfl (hb hby at_7) rfl ?_
    show oS p e below s₁ m 8 #[.val (.int pI1), .val (.int pI2), .val (.int (0 : Int32)), .unset, .unset, .unset, .unset] [(.int pI2)] _
    refine X0.ldcInt hx hown (mvT hZ (ow hw 0 rfl)) (g := (mkF m 8 #[.val (.int pI1), .val (.int pI2), .val (.int (0 : Int32)), .unset, .unset, .unset, .unset] [(.int pI2)])) rfl (hb hby at_8) _ ?_
    show oS p e below s₁ m 10 #[.val (.int pI1), .val (.int pI2), .val (.int (0 : Int32)), .unset, .unset, .unset, .unset] [(.int (2147483647 : Int32)), (.int pI2)] _
    refine XS.iand X0.here hx rfl (hb hby at_10) rfl ?_
    show oS p e below s₁ m 11 #[.val (.int pI1), .val (.int pI2), .val (.int (0 : Int32)), .unset, .unset, .unset, .unset] [(.int (pI2 &&& (2147483647 : Int32)))] _
    refine XS.iconst X0.here hx rfl (hb hby at_11) ?_
    show oS p e below s₁ m 12 #[.val (.int pI1), .val (.int pI2), .val (.int (0 : Int32)), .unset, .unset, .unset, .unset] [(.int (5 : Int32)), (.int (pI2 &&& (2147483647 : Int32)))] _
    refine iremM (g := (mkF m 12 #[.val (.int pI1), .val (.int pI2), .val (.int (0 : Int32)), .unset, .unset, .unset, .unset] [(.int (5 : Int32)), (.int (pI2 &&& (2147483647 : Int32)))])) X0 hx rfl (hb hby at_12) rfl (by decide) ?_
    show Steps p.tables e below (s₁.setTop (mkF m 13 #[.val (.int pI1), .val (.int pI2), .val (.int (0 : Int32)), .unset, .unset, .unset, .unset] [(.int ((pI2 &&& (2147483647 : Int32)) % (5 : Int32)))])) _
    rw [hc12]
    show oS p e below s₁ m 13 #[.val (.int pI1), .val (.int pI2), .val (.int (0 : Int32)), .unset, .unset, .unset, .unset] [(.int (1 : Int32))] _
    refine XS.istoreN X0.here hx rfl (hb hby at_13) rfl (l' := #[.val (.int pI1), .val (.int pI2), .val (.int (0 : Int32)), .val (.int (1 : Int32)), .unset, .unset, .unset]) rfl ?_
    show oS p e below s₁ m 14 #[.val (.int pI1), .val (.int pI2), .val (.int (0 : Int32)), .val (.int (1 : Int32)), .unset, .unset, .unset] [] _
    refine XS.iloadN X0.here hx rfl (hb hby at_14) rfl ?_
    show oS p e below s₁ m 15 #[.val (.int pI1), .val (.int pI2), .val (.int (0 : Int32)), .val (.int (1 : Int32)), .unset, .unset, .unset] [(.int (0 : Int32))] _
    refine st4 _ ?_
    show oS p e below T4 m 18 #[.val (.int pI1), .val (.int pI2), .val (.int (0 : Int32)), .val (.int (1 : Int32)), .unset, .unset, .unset] [(.ref pR3)] _
    refine XS.astore X4.here hx rfl (hb hby at_18) rfl rfl (l' := #[.val (.int pI1), .val (.int pI2), .val (.int (0 : Int32)), .val (.int (1 : Int32)), .val (.ref pR3), .unset, .unset]) rfl ?_
    show oS p e below T4 m 20 #[.val (.int pI1), .val (.int pI2), .val (.int (0 : Int32)), .val (.int (1 : Int32)), .val (.ref pR3), .unset, .unset] [] _
    refine XS.iloadN X4.here hx rfl (hb hby at_20) rfl ?_
    show oS p e below T4 m 21 #[.val (.int pI1), .val (.int pI2), .val (.int (0 : Int32)), .val (.int (1 : Int32)), .val (.ref pR3), .unset, .unset] [(.int (1 : Int32))] _
    refine st6 _ ?_
    show oS p e below T6 m 24 #[.val (.int pI1), .val (.int pI2), .val (.int (0 : Int32)), .val (.int (1 : Int32)), .val (.ref pR3), .unset, .unset] [(.ref pR5)] _
    refine XS.astore X6.here hx rfl (hb hby at_24) rfl rfl (l' := #[.val (.int pI1), .val (.int pI2), .val (.int (0 : Int32)), .val (.int (1 : Int32)), .val (.ref pR3), .val (.ref pR5), .unset]) rfl ?_
    show oS p e below T6 m 26 #[.val (.int pI1), .val (.int pI2), .val (.int (0 : Int32)), .val (.int (1 : Int32)), .val (.ref pR3), .val (.ref pR5), .unset] [] _
    refine XS.iloadN X6.here hx rfl (hb hby at_26) rfl ?_
    show oS p e below T6 m 27 #[.val (.int pI1), .val (.int pI2), .val (.int (0 : Int32)), .val (.int (1 : Int32)), .val (.ref pR3), .val (.ref pR5), .unset] [(.int (1 : Int32))] _
    refine XS.ifYes X6.here hx rfl (pc0 := 27) (pc' := 35) rfl (hb hby at_27) rfl ((if0 _ _).trans (feq (by decide : ¬ ((1 : Int32) = (0 : Int32)))).2) (by decide) (by decide) ?_
    show oS p e below T6 m 35 #[.val (.int pI1), .val (.int pI2), .val (.int (0 : Int32)), .val (.int (1 : Int32)), .val (.ref pR3), .val (.ref pR5), .unset] [] _
    refine XS.iloadN X6.here hx rfl (hb hby at_35) rfl ?_
    show oS p e below T6 m 36 #[.val (.int pI1), .val (.int pI2), .val (.int (0 : Int32)), .val (.int (1 : Int32)), .val (.ref pR3), .val (.ref pR5), .unset] [(.int (1 : Int32))] _
    refine XS.iconst X6.here hx rfl (hb hby at_36) ?_
    show oS p e below T6 m 37 #[.val (.int pI1), .val (.int pI2), .val (.int (0 : Int32)), .val (.int (1 : Int32)), .val (.ref pR3), .val (.ref pR5), .unset] [(.int (1 : Int32)), (.int (1 : Int32))] _
    refine XS.icmpNo X6.here hx rfl (hb hby at_37) rfl (teq (by decide : (1 : Int32) = (1 : Int32))).2 ?_
    show oS p e below T6 m 40 #[.val (.int pI1), .val (.int pI2), .val (.int (0 : Int32)), .val (.int (1 : Int32)), .val (.ref pR3), .val (.ref pR5), .unset] [] _
    refine XS.iloadN X6.here hx rfl (hb hby at_40) rfl ?_
    show oS p e below T6 m 41 #[.val (.int pI1), .val (.int pI2), .val (.int (0 : Int32)), .val (.int (1 : Int32)), .val (.ref pR3), .val (.ref pR5), .unset] [(.int (0 : Int32))] _
    refine XS.iconst X6.here hx rfl (hb hby at_41) ?_
    show oS p e below T6 m 42 #[.val (.int pI1), .val (.int pI2), .val (.int (0 : Int32)), .val (.int (1 : Int32)), .val (.ref pR3), .val (.ref pR5), .unset] [(.int (2 : Int32)), (.int (0 : Int32))] _
    refine XS.icmpNo X6.here hx rfl (hb hby at_42) rfl (feq (by decide : ¬ ((0 : Int32) = (2 : Int32)))).1 ?_
    show oS p e below T6 m 45 #[.val (.int pI1), .val (.int pI2), .val (.int (0 : Int32)), .val (.int (1 : Int32)), .val (.ref pR3), .val (.ref pR5), .unset] [] _
    refine XS.iloadN X6.here hx rfl (hb hby at_45) rfl ?_
    show oS p e below T6 m 46 #[.val (.int pI1), .val (.int pI2), .val (.int (0 : Int32)), .val (.int (1 : Int32)), .val (.ref pR3), .val (.ref pR5), .unset] [(.int (1 : Int32))] _
    refine XS.iconst X6.here hx rfl (hb hby at_46) ?_
    show oS p e below T6 m 47 #[.val (.int pI1), .val (.int pI2), .val (.int (0 : Int32)), .val (.int (1 : Int32)), .val (.ref pR3), .val (.ref pR5), .unset] [(.int (1 : Int32)), (.int (1 : Int32))] _
    refine XS.icmpNo X6.here hx rfl (hb hby at_47) rfl (teq (by decide : (1 : Int32) = (1 : Int32))).2 ?_
    show oS p e below T6 m 50 #[.val (.int pI1), .val (.int pI2), .val (.int (0 : Int32)), .val (.int (1 : Int32)), .val (.ref pR3), .val (.ref pR5), .unset] [] _
    refine XS.iloadN X6.here hx rfl (hb hby at_50) rfl ?_
    show oS p e below T6 m 51 #[.val (.int pI1), .val (.int pI2), .val (.int (0 : Int32)), .val (.int (1 : Int32)), .val (.ref pR3), .val (.ref pR5), .unset] [(.int (0 : Int32))] _
    refine XS.iconst X6.here hx rfl (hb hby at_51) ?_
    show oS p e below T6 m 52 #[.val (.int pI1), .val (.int pI2), .val (.int (0 : Int32)), .val (.int (1 : Int32)), .val (.ref pR3), .val (.ref pR5), .unset] [(.int (3 : Int32)), (.int (0 : Int32))] _
    refine XS.icmpNo X6.here hx rfl (hb hby at_52) rfl (feq (by decide : ¬ ((0 : Int32) = (3 : Int32)))).1 ?_
    show oS p e below T6 m 55 #[.val (.int pI1), .val (.int pI2), .val (.int (0 : Int32)), .val (.int (1 : Int32)), .val (.ref pR3), .val (.ref pR5), .unset] [] _
    refine XS.iloadN X6.here hx rfl (hb hby at_55) rfl ?_
    show oS p e below T6 m 56 #[.val (.int pI1), .val (.int pI2), .val (.int (0 : Int32)), .val (.int (1 : Int32)), .val (.ref pR3), .val (.ref pR5), .unset] [(.int (1 : Int32))] _
    refine XS.iconst X6.here hx rfl (hb hby at_56) ?_
    show oS p e below T6 m 57 #[.val (.int pI1), .val (.int pI2), .val (.int (0 : Int32)), .val (.int (1 : Int32)), .val (.ref pR3), .val (.ref pR5), .unset] [(.int (2 : Int32)), (.int (1 : Int32))] _
    refine XS.icmpYes X6.here hx rfl (pc0 := 57) (pc' := 65) rfl (hb hby at_57) rfl (feq (by decide : ¬ ((1 : Int32) = (2 : Int32)))).2 (by decide) (by decide) ?_
    show oS p e below T6 m 65 #[.val (.int pI1), .val (.int pI2), .val (.int (0 : Int32)), .val (.int (1 : Int32)), .val (.ref pR3), .val (.ref pR5), .unset] [] _
    refine XS.iloadN X6.here hx rfl (hb hby at_65) rfl ?_
    show oS p e below T6 m 66 #[.val (.int pI1), .val (.int pI2), .val (.int (0 : Int32)), .val (.int (1 : Int32)), .val (.ref pR3), .val (.ref pR5), .unset] [(.int (1 : Int32))] _
    refine XS.iconst X6.here hx rfl (hb hby at_66) ?_
    show oS p e below T6 m 67 #[.val (.int pI1), .val (.int pI2), .val (.int (0 : Int32)), .val (.int (1 : Int32)), .val (.ref pR3), .val (.ref pR5), .unset] [(.int (3 : Int32)), (.int (1 : Int32))] _
    refine XS.icmpYes X6.here hx rfl (pc0 := 67) (pc' := 75) rfl (hb hby at_67) rfl (feq (by decide : ¬ ((1 : Int32) = (3 : Int32)))).2 (by decide) (by decide) ?_
    show oS p e below T6 m 75 #[.val (.int pI1), .val (.int pI2), .val (.int (0 : Int32)), .val (.int (1 : Int32)), .val (.ref pR3), .val (.ref pR5), .unset] [] _
    refine XS.iloadN X6.here hx rfl (hb hby at_75) rfl ?_
    show oS p e below T6 m 76 #[.val (.int pI1), .val (.int pI2), .val (.int (0 : Int32)), .val (.int (1 : Int32)), .val (.ref pR3), .val (.ref pR5), .unset] [(.int (1 : Int32))] _
    refine XS.iconst X6.here hx rfl (hb hby at_76) ?_
    show oS p e below T6 m 77 #[.val (.int pI1), .val (.int pI2), .val (.int (0 : Int32)), .val (.int (1 : Int32)), .val (.ref pR3), .val (.ref pR5), .unset] [(.int (4 : Int32)), (.int (1 : Int32))] _
    refine XS.icmpYes X6.here hx rfl (pc0 := 77) (pc' := 85) rfl (hb hby at_77) rfl (feq (by decide : ¬ ((1 : Int32) = (4 : Int32)))).2 (by decide) (by decide) ?_
    show oS p e below T6 m 85 #[.val (.int pI1), .val (.int pI2), .val (.int (0 : Int32)), .val (.int (1 : Int32)), .val (.ref pR3), .val (.ref pR5), .unset] [] _
    refine XS.iloadN X6.here hx rfl (hb hby at_85) rfl ?_
    show oS p e below T6 m 86 #[.val (.int pI1), .val (.int pI2), .val (.int (0 : Int32)), .val (.int (1 : Int32)), .val (.ref pR3), .val (.ref pR5), .unset] [(.int (1 : Int32))] _
    refine XS.iconst X6.here hx rfl (hb hby at_86) ?_
    show oS p e below T6 m 87 #[.val (.int pI1), .val (.int pI2), .val (.int (0 : Int32)), .val (.int (1 : Int32)), .val (.ref pR3), .val (.ref pR5), .unset] [(.int (3 : Int32)), (.int (1 : Int32))] _
    refine XS.icmpYes X6.here hx rfl (pc0 := 87) (pc' := 99) rfl (hb hby at_87) rfl (feq (by decide : ¬ ((1 : Int32) = (3 : Int32)))).2 (by decide) (by decide) ?_
    show oS p e below T6 m 99 #[.val (.int pI1), .val (.int pI2), .val (.int (0 : Int32)), .val (.int (1 : Int32)), .val (.ref pR3), .val (.ref pR5), .unset] [] _
    refine XS.iconst X6.here hx rfl (hb hby at_99) ?_
    show oS p e below T6 m 100 #[.val (.int pI1), .val (.int pI2), .val (.int (0 : Int32)), .val (.int (1 : Int32)), .val (.ref pR3), .val (.ref pR5), .unset] [(.int (0 : Int32))] _
    refine XS.istore X6.here hx rfl (hb hby at_100) rfl (l' := #[.val (.int pI1), .val (.int pI2), .val (.int (0 : Int32)), .val (.int (1 : Int32)), .val (.ref pR3), .val (.ref pR5), .val (.int (0 : Int32))]) rfl ?_
    show oS p e below T6 m 102 #[.val (.int pI1), .val (.int pI2), .val (.int (0 : Int32)), .val (.int (1 : Int32)), .val (.ref pR3), .val (.ref pR5), .val (.int (0 : Int32))] [] _
    refine XS.aload X6.here hx rfl (hb hby at_102) rfl rfl ?_
    show oS p e below T6 m 104 #[.val (.int pI1), .val (.int pI2), .val (.int (0 : Int32)), .val (.int (1 : Int32)), .val (.ref pR3), .val (.ref pR5), .val (.int (0 : Int32))] [(.ref pR3)] _
    refine XS.aload X6.here hx rfl (hb hby at_104) rfl rfl ?_
    show oS p e below T6 m 106 #[.val (.int pI1), .val (.int pI2), .val (.int (0 : Int32)), .val (.int (1 : Int32)), .val (.ref pR3), .val (.ref pR5), .val (.int (0 : Int32))] [(.ref pR5), (.ref pR3)] _
    refine st7.trans ?_
    show oS p e below T7 m 109 #[.val (.int pI1), .val (.int pI2), .val (.int (0 : Int32)), .val (.int (1 : Int32)), .val (.ref pR3), .val (.ref pR5), .val (.int (0 : Int32))] [(.int (0 : Int32))] _
    refine XS.iload X7.here hx rfl (hb hby at_109) rfl ?_
    show oS p e below T7 m 111 #[.val (.int pI1), .val (.int pI2), .val (.int (0 : Int32)), .val (.int (1 : Int32)), .val (.ref pR3), .val (.ref pR5), .val (.int (0 : Int32))] [(.int (0 : Int32)), (.int (0 : Int32))] _
    refine XS.icmpNo X7.here hx rfl (hb hby at_111) rfl (teq (by decide : (0 : Int32) = (0 : Int32))).2 ?_
    show oS p e below T7 m 114 #[.val (.int pI1), .val (.int pI2), .val (.int (0 : Int32)), .val (.int (1 : Int32)), .val (.ref pR3), .val (.ref pR5), .val (.int (0 : Int32))] [] _
    refine XS.iconst X7.here hx rfl (hb hby at_114) ?_
    show oS p e below T7 m 115 #[.val (.int pI1), .val (.int pI2), .val (.int (0 : Int32)), .val (.int (1 : Int32)), .val (.ref pR3), .val (.ref pR5), .val (.int (0 : Int32))] [(.int (1 : Int32))] _
    refine XS.goto X7.here hx rfl (pc0 := 115) (pc' := 119) rfl (hb hby at_115) (by decide) (by decide) ?_
    show oS p e below T7 m 119 #[.val (.int pI1), .val (.int pI2), .val (.int (0 : Int32)), .val (.int (1 : Int32)), .val (.ref pR3), .val (.ref pR5), .val (.int (0 : Int32))] [(.int (1 : Int32))] _
    exact retN X7 hx (t := .boolean) Bd.returns (by simp) (hb hby at_119) hr
  · show Qlaw0_1 Z pI1 pI2 pR3 pR5 h0 n0 _ T7.heap _
    rw [e7]
    exact ⟨rfl, N7⟩
theorem ef_law0_2 (m : MethodId) (pI1 : Int32) (pI2 : Int32) : entryFrame m #[(.int pI1), (.int pI2)] maxLocals = mkF m 0 #[.val (.int pI1), .val (.int pI2), .unset, .unset, .unset, .unset, .unset] [] := by first | (simp [entryFrame, mkF, argsToLocals, Value.category, maxLocals]; done) | rfl
def Qlaw0_2 (Z : State) (pI1 : Int32) (pI2 : Int32) (pR3 : Addr) (pR5 : Addr) (h0 : Heap) (n0 : Nat) (v : Option Value) (h : Heap) (L : List Loc) : Prop := v = some (.int (1 : Int32)) ∧ Fr n0 L
set_option maxRecDepth 65536 in
set_option maxHeartbeats 40000000 in
theorem law0_2 (l : Launch) (Z : State) (a0 : Array Value) (hw : ∀ d ∈ tables_1, d.before a0 Z = true) (ws : List Jvm.Cond) (pI1 : Int32) (pI2 : Int32) (pR3 : Addr) (pR5 : Addr) (h0 : Heap) (n0 : Nat) (Z0 : n0 ≤ h0.size) (S_OrderSegment_ORC : Sta Z h0 "com/example/vaxwire/vaxwire/reply/OrderSegment" "ORC" "Lcom/example/vaxwire/vaxwire/reply/OrderSegment;" (.ref pR3)) (S_OrderSegment_RXR : Sta Z h0 "com/example/vaxwire/vaxwire/reply/OrderSegment" "RXR" "Lcom/example/vaxwire/vaxwire/reply/OrderSegment;" (.ref pR5)) (F_ordinal_pR3 : Fld Z h0 pR3 "java/lang/Enum" "ordinal" "I" (.int (0 : Int32))) (E_pR3 : Exa Z h0 pR3 "com/example/vaxwire/vaxwire/reply/OrderSegment") (hc5 : ((pI1 &&& (2147483647 : Int32)) % (5 : Int32)) = (0 : Int32)) (hc12 : ((pI2 &&& (2147483647 : Int32)) % (5 : Int32)) = (2 : Int32)) :
    MetFree l x (head1 (Jvm.Cond.code x code maxLocals ret :: ws) room_1) (fun a U => a = #[(.int pI1), (.int pI2)] ∧ Z.Warmed39 U.vm ∧ U.heap = h0) (fun _ _ _ _ _ => True) (fun _ U o U' => ∃ v L, o = .returned v ∧ Qlaw0_2 Z pI1 pI2 pR3 pR5 h0 n0 v U'.heap L ∧ FrameEnd U o U' L room_1.cells room_1.slots) := by
  refine MetFree.of_bodySF (plainFor_of_name pn_0) hisR ?_
  intro p e s m args below meth c s₁ Bd hml0 hP hK
  obtain ⟨rfl, hZ, hh⟩ := hP
  have hx := Bd.exec
  have hby := Bd.bytes
  have hml : c.maxLocals = 7 := hml0
  have hown : s.vm.findClass "com/example/vaxwire/vaxwire/reply/OrderSegmentMayFollowPinLaw" = some m.cls := findClass_of_methodNamed Bd.named
  have hnm := (name_of_methodNamed Bd.named Bd.method).1
  have X0 : Stand p l e room_1 s m #[(.int pI1), (.int pI2)] below meth c s₁ [] 0 0 := Stand.of_body Bd
  have e0 : s₁.heap = h0 := by rw [← hh, Bd.state]; rfl
  have N0 := Fr.nil n0
  have pre0 : ∀ t, Steps p.tables e below (s₁.setTop (mkF m 0 #[.val (.int pI1), .val (.int pI2), .unset, .unset, .unset, .unset, .unset] [])) t → Steps p.tables e below (s₁.setTop (entryFrame m #[(.int pI1), (.int pI2)] maxLocals)) t := fun t k => castTop (ef_law0_2 m pI1 pI2) k
  obtain ⟨_, _, ⟨T4, L4, k4, n4⟩, -, X4, ⟨Lc4, hQ4, l4, y4, z4⟩, st4⟩ := Jvm.LawKit.callS X0 hx (y := yN0) hown (mvT hZ (ow hw 1 rfl)) (mvT hZ (ow hw 2 rfl)) (mvT hZ (ow hw 3 rfl)) (mvT hZ (ow hw 4 rfl)) (by decide) (backOf (W := 0) (pick0 l Z a0 hw [] pR3 h0 n0 Z0 S_OrderSegment_ORC) hZ (ow hw 4 rfl) (ow hw 3 rfl) (by decide) (by decide)) (g := (mkF m 15 #[.val (.int pI1), .val (.int pI2), .val (.int (0 : Int32)), .val (.int (2 : Int32)), .unset, .unset, .unset] [(.int (0 : Int32))])) rfl (by rw [hml]; rfl) (argsL := [(.int (0 : Int32))]) (rest := []) (lenOf pd_1 rfl) rfl (by show 2 * 0 + _ ≤ _; exact Nat.le_of_eq rfl) (hb hby at_15) (fun _ _ => ⟨rfl, e0, (by decide : 0 + 0 ≤ _), (by decide : 0 + 0 ≤ _)⟩)
  dsimp only [Pt.U, Pt.locs, Pt.cells, Pt.slots] at X4 l4 y4 z4 st4 hQ4
  subst l4 y4 z4
  obtain ⟨rfl, Nq4, e4⟩ := hQ4
  have N4 := Fr.app N0 Nq4
  obtain ⟨_, _, ⟨T6, L6, k6, n6⟩, -, X6, ⟨Lc6, hQ6, l6, y6, z6⟩, st6⟩ := Jvm.LawKit.callS X4 hx (y := yN0) hown (mvT hZ (ow hw 1 rfl)) (mvT hZ (ow hw 2 rfl)) (mvT hZ (ow hw 3 rfl)) (mvT hZ (ow hw 4 rfl)) (by decide) (backOf (W := 0) (pick2 l Z a0 hw [] pR5 h0 n0 Z0 S_OrderSegment_RXR) hZ (ow hw 4 rfl) (ow hw 3 rfl) (by decide) (by decide)) (g := (mkF m 21 #[.val (.int pI1), .val (.int pI2), .val (.int (0 : Int32)), .val (.int (2 : Int32)), .val (.ref pR3), .unset, .unset] [(.int (2 : Int32))])) rfl (by rw [hml]; rfl) (argsL := [(.int (2 : Int32))]) (rest := []) (lenOf pd_1 rfl) rfl (by show 2 * 0 + _ ≤ _; exact Nat.le_of_eq rfl) (hb hby at_21) (fun _ _ => ⟨rfl, e4, (by decide : 0 + 0 ≤ _), (by decide : 0 + 0 ≤ _)⟩)
  dsimp only [Pt.U, Pt.locs, Pt.cells, Pt.slots] at X6 l6 y6 z6 st6 hQ6
  subst l6 y6 z6
  obtain ⟨rfl, Nq6, e6⟩ := hQ6
  have N6 := Fr.app N4 Nq6
  obtain ⟨cq7, kq7, q7a, q7b, q7c⟩ := isOf hZ e6 E_pR3
  obtain ⟨_, _, ⟨T7, L7, k7, n7⟩, -, X7, ⟨Lc7, hQ7, l7, y7, z7⟩, st7⟩ := X6.virtualBack hx (y := yN3) (z := yN3) hown (mvT hZ (ow hw 10 rfl)) (mvT hZ (ow hw 11 rfl)) (notFace_of_selects (args := #[]) (mvT hZ (ow hw 13 rfl))) (mvT hZ (ow hw 13 rfl)) (mvT hZ (ow hw 12 rfl)) (by decide) (backOf (W := 0) (mf0 l Z a0 hw [] pR3 pR5 h0 n0 Z0 F_ordinal_pR3 E_pR3) hZ (ow hw 14 rfl) (ow hw 6 rfl) (by decide) (by decide)) q7a q7c (g := (mkF m 106 #[.val (.int pI1), .val (.int pI2), .val (.int (0 : Int32)), .val (.int (2 : Int32)), .val (.ref pR3), .val (.ref pR5), .val (.int (0 : Int32))] [(.ref pR5), (.ref pR3)])) rfl (by rw [hml]; rfl) (Steps.refl _) (argsL := [(.ref pR5)]) (rest := []) (lenOf pd_2 rfl) rfl (by show 2 * 0 + _ ≤ _; exact Nat.le_of_eq rfl) (hb hby at_106) (fun _ _ => ⟨rfl, e6, (by decide : 0 + 0 ≤ _), (by decide : 0 + 0 ≤ _)⟩)
  dsimp only [Pt.U, Pt.locs, Pt.cells, Pt.slots] at X7 l7 y7 z7 st7 hQ7
  subst l7 y7 z7
  obtain ⟨rfl, Nq7, e7⟩ := hQ7
  have N7 := Fr.app N6 Nq7
  obtain ⟨fs, hr, hrun, hended, hW, hsame⟩ := X7.leave (v := some (.int (1 : Int32))) (fun h => by rw [Bd.returns] at h; cases h)
  refine ⟨_, _, pre0 _ ?_, hrun, hended, _, _, rfl, ?_, ⟨_, rfl⟩, hW, hsame.mono (by decide) (by decide)⟩
  · show oS p e below s₁ m 0 #[.val (.int pI1), .val (.int pI2), .unset, .unset, .unset, .unset, .unset] [] _
    refine XS.iloadN X0.here hx rfl (hb hby at_0) rfl ?_
    show oS p e below s₁ m 1 #[.val (.int pI1), .val (.int pI2), .unset, .unset, .unset, .unset, .unset] [(.int pI1)] _
    refine X0.ldcInt hx hown (mvT hZ (ow hw 0 rfl)) (g := (mkF m 1 #[.val (.int pI1), .val (.int pI2), .unset, .unset, .unset, .unset, .unset] [(.int pI1)])) rfl (hb hby at_1) _ ?_
    show oS p e below s₁ m 3 #[.val (.int pI1), .val (.int pI2), .unset, .unset, .unset, .unset, .unset] [(.int (2147483647 : Int32)), (.int pI1)] _
    refine XS.iand X0.here hx rfl (hb hby at_3) rfl ?_
    show oS p e below s₁ m 4 #[.val (.int pI1), .val (.int pI2), .unset, .unset, .unset, .unset, .unset] [(.int (pI1 &&& (2147483647 : Int32)))] _
    refine XS.iconst X0.here hx rfl (hb hby at_4) ?_
    show oS p e below s₁ m 5 #[.val (.int pI1), .val (.int pI2), .unset, .unset, .unset, .unset, .unset] [(.int (5 : Int32)), (.int (pI1 &&& (2147483647 : Int32)))] _
    refine iremM (g := (mkF m 5 #[.val (.int pI1), .val (.int pI2), .unset, .unset, .unset, .unset, .unset] [(.int (5 : Int32)), (.int (pI1 &&& (2147483647 : Int32)))])) X0 hx rfl (hb hby at_5) rfl (by decide) ?_
    show Steps p.tables e below (s₁.setTop (mkF m 6 #[.val (.int pI1), .val (.int pI2), .unset, .unset, .unset, .unset, .unset] [(.int ((pI1 &&& (2147483647 : Int32)) % (5 : Int32)))])) _
    rw [hc5]
    show oS p e below s₁ m 6 #[.val (.int pI1), .val (.int pI2), .unset, .unset, .unset, .unset, .unset] [(.int (0 : Int32))] _
    refine XS.istoreN X0.here hx rfl (hb hby at_6) rfl (l' := #[.val (.int pI1), .val (.int pI2), .val (.int (0 : Int32)), .unset, .unset, .unset, .unset]) rfl ?_
    show oS p e below s₁ m 7 #[.val (.int pI1), .val (.int pI2), .val (.int (0 : Int32)), .unset, .unset, .unset, .unset] [] _
    refine XS.iloadN X0.here hx rfl (hb hby at_7) rfl ?_
    show oS p e below s₁ m 8 #[.val (.int pI1), .val (.int pI2), .val (.int (0 : Int32)), .unset, .unset, .unset, .unset] [(.int pI2)] _
    refine X0.ldcInt hx hown (mvT hZ (ow hw 0 rfl)) (g := (mkF m 8 #[.val (.int pI1), .val (.int pI2), .val (.int (0 : Int32)), .unset, .unset, .unset, .unset] [(.int pI2)])) rfl (hb hby at_8) _ ?_
    show oS p e below s₁ m 10 #[.val (.int pI1), .val (.int pI2), .val (.int (0 : Int32)), .unset, .unset, .unset, .unset] [(.int (2147483647 : Int32)), (.int pI2)] _
    refine XS.iand X0.here hx rfl (hb hby at_10) rfl ?_
    show oS p e below s₁ m 11 #[.val (.int pI1), .val (.int pI2), .val (.int (0 : Int32)), .unset, .unset, .unset, .unset] [(.int (pI2 &&& (2147483647 : Int32)))] _
    refine XS.iconst X0.here hx rfl (hb hby at_11) ?_
    show oS p e below s₁ m 12 #[.val (.int pI1), .val (.int pI2), .val (.int (0 : Int32)), .unset, .unset, .unset, .unset] [(.int (5 : Int32)), (.int (pI2 &&& (2147483647 : Int32)))] _
    refine iremM (g := (mkF m 12 #[.val (.int pI1), .val (.int pI2), .val (.int (0 : Int32)), .unset, .unset, .unset, .unset] [(.int (5 : Int32)), (.int (pI2 &&& (2147483647 : Int32)))])) X0 hx rfl (hb hby at_12) rfl (by decide) ?_
    show Steps p.tables e below (s₁.setTop (mkF m 13 #[.val (.int pI1), .val (.int pI2), .val (.int (0 : Int32)), .unset, .unset, .unset, .unset] [(.int ((pI2 &&& (2147483647 : Int32)) % (5 : Int32)))])) _
    rw [hc12]
    show oS p e below s₁ m 13 #[.val (.int pI1), .val (.int pI2), .val (.int (0 : Int32)), .unset, .unset, .unset, .unset] [(.int (2 : Int32))] _
    refine XS.istoreN X0.here hx rfl (hb hby at_13) rfl (l' := #[.val (.int pI1), .val (.int pI2), .val (.int (0 : Int32)), .val (.int (2 : Int32)), .unset, .unset, .unset]) rfl ?_
    show oS p e below s₁ m 14 #[.val (.int pI1), .val (.int pI2), .val (.int (0 : Int32)), .val (.int (2 : Int32)), .unset, .unset, .unset] [] _
    refine XS.iloadN X0.here hx rfl (hb hby at_14) rfl ?_
    show oS p e below s₁ m 15 #[.val (.int pI1), .val (.int pI2), .val (.int (0 : Int32)), .val (.int (2 : Int32)), .unset, .unset, .unset] [(.int (0 : Int32))] _
    refine st4 _ ?_
    show oS p e below T4 m 18 #[.val (.int pI1), .val (.int pI2), .val (.int (0 : Int32)), .val (.int (2 : Int32)), .unset, .unset, .unset] [(.ref pR3)] _
    refine XS.astore X4.here hx rfl (hb hby at_18) rfl rfl (l' := #[.val (.int pI1), .val (.int pI2), .val (.int (0 : Int32)), .val (.int (2 : Int32)), .val (.ref pR3), .unset, .unset]) rfl ?_
    show oS p e below T4 m 20 #[.val (.int pI1), .val (.int pI2), .val (.int (0 : Int32)), .val (.int (2 : Int32)), .val (.ref pR3), .unset, .unset] [] _
    refine XS.iloadN X4.here hx rfl (hb hby at_20) rfl ?_
    show oS p e below T4 m 21 #[.val (.int pI1), .val (.int pI2), .val (.int (0 : Int32)), .val (.int (2 : Int32)), .val (.ref pR3), .unset, .unset] [(.int (2 : Int32))] _
    refine st6 _ ?_
    show oS p e below T6 m 24 #[.val (.int pI1), .val (.int pI2), .val (.int (0 : Int32)), .val (.int (2 : Int32)), .val (.ref pR3), .unset, .unset] [(.ref pR5)] _
    refine XS.astore X6.here hx rfl (hb hby at_24) rfl rfl (l' := #[.val (.int pI1), .val (.int pI2), .val (.int (0 : Int32)), .val (.int (2 : Int32)), .val (.ref pR3), .val (.ref pR5), .unset]) rfl ?_
    show oS p e below T6 m 26 #[.val (.int pI1), .val (.int pI2), .val (.int (0 : Int32)), .val (.int (2 : Int32)), .val (.ref pR3), .val (.ref pR5), .unset] [] _
    refine XS.iloadN X6.here hx rfl (hb hby at_26) rfl ?_
    show oS p e below T6 m 27 #[.val (.int pI1), .val (.int pI2), .val (.int (0 : Int32)), .val (.int (2 : Int32)), .val (.ref pR3), .val (.ref pR5), .unset] [(.int (2 : Int32))] _
    refine XS.ifYes X6.here hx rfl (pc0 := 27) (pc' := 35) rfl (hb hby at_27) rfl ((if0 _ _).trans (feq (by decide : ¬ ((2 : Int32) = (0 : Int32)))).2) (by decide) (by decide) ?_
    show oS p e below T6 m 35 #[.val (.int pI1), .val (.int pI2), .val (.int (0 : Int32)), .val (.int (2 : Int32)), .val (.ref pR3), .val (.ref pR5), .unset] [] _
    refine XS.iloadN X6.here hx rfl (hb hby at_35) rfl ?_
    show oS p e below T6 m 36 #[.val (.int pI1), .val (.int pI2), .val (.int (0 : Int32)), .val (.int (2 : Int32)), .val (.ref pR3), .val (.ref pR5), .unset] [(.int (2 : Int32))] _
    refine XS.iconst X6.here hx rfl (hb hby at_36) ?_
    show oS p e below T6 m 37 #[.val (.int pI1), .val (.int pI2), .val (.int (0 : Int32)), .val (.int (2 : Int32)), .val (.ref pR3), .val (.ref pR5), .unset] [(.int (1 : Int32)), (.int (2 : Int32))] _
    refine XS.icmpYes X6.here hx rfl (pc0 := 37) (pc' := 45) rfl (hb hby at_37) rfl (feq (by decide : ¬ ((2 : Int32) = (1 : Int32)))).2 (by decide) (by decide) ?_
    show oS p e below T6 m 45 #[.val (.int pI1), .val (.int pI2), .val (.int (0 : Int32)), .val (.int (2 : Int32)), .val (.ref pR3), .val (.ref pR5), .unset] [] _
    refine XS.iloadN X6.here hx rfl (hb hby at_45) rfl ?_
    show oS p e below T6 m 46 #[.val (.int pI1), .val (.int pI2), .val (.int (0 : Int32)), .val (.int (2 : Int32)), .val (.ref pR3), .val (.ref pR5), .unset] [(.int (2 : Int32))] _
    refine XS.iconst X6.here hx rfl (hb hby at_46) ?_
    show oS p e below T6 m 47 #[.val (.int pI1), .val (.int pI2), .val (.int (0 : Int32)), .val (.int (2 : Int32)), .val (.ref pR3), .val (.ref pR5), .unset] [(.int (1 : Int32)), (.int (2 : Int32))] _
    refine XS.icmpYes X6.here hx rfl (pc0 := 47) (pc' := 55) rfl (hb hby at_47) rfl (feq (by decide : ¬ ((2 : Int32) = (1 : Int32)))).2 (by decide) (by decide) ?_
    show oS p e below T6 m 55 #[.val (.int pI1), .val (.int pI2), .val (.int (0 : Int32)), .val (.int (2 : Int32)), .val (.ref pR3), .val (.ref pR5), .unset] [] _
    refine XS.iloadN X6.here hx rfl (hb hby at_55) rfl ?_
    show oS p e below T6 m 56 #[.val (.int pI1), .val (.int pI2), .val (.int (0 : Int32)), .val (.int (2 : Int32)), .val (.ref pR3), .val (.ref pR5), .unset] [(.int (2 : Int32))] _
    refine XS.iconst X6.here hx rfl (hb hby at_56) ?_
    show oS p e below T6 m 57 #[.val (.int pI1), .val (.int pI2), .val (.int (0 : Int32)), .val (.int (2 : Int32)), .val (.ref pR3), .val (.ref pR5), .unset] [(.int (2 : Int32)), (.int (2 : Int32))] _
    refine XS.icmpNo X6.here hx rfl (hb hby at_57) rfl (teq (by decide : (2 : Int32) = (2 : Int32))).2 ?_
    show oS p e below T6 m 60 #[.val (.int pI1), .val (.int pI2), .val (.int (0 : Int32)), .val (.int (2 : Int32)), .val (.ref pR3), .val (.ref pR5), .unset] [] _
    refine XS.iloadN X6.here hx rfl (hb hby at_60) rfl ?_
    show oS p e below T6 m 61 #[.val (.int pI1), .val (.int pI2), .val (.int (0 : Int32)), .val (.int (2 : Int32)), .val (.ref pR3), .val (.ref pR5), .unset] [(.int (0 : Int32))] _
    refine XS.iconst X6.here hx rfl (hb hby at_61) ?_
    show oS p e below T6 m 62 #[.val (.int pI1), .val (.int pI2), .val (.int (0 : Int32)), .val (.int (2 : Int32)), .val (.ref pR3), .val (.ref pR5), .unset] [(.int (3 : Int32)), (.int (0 : Int32))] _
    refine XS.icmpNo X6.here hx rfl (hb hby at_62) rfl (feq (by decide : ¬ ((0 : Int32) = (3 : Int32)))).1 ?_
    show oS p e below T6 m 65 #[.val (.int pI1), .val (.int pI2), .val (.int (0 : Int32)), .val (.int (2 : Int32)), .val (.ref pR3), .val (.ref pR5), .unset] [] _
    refine XS.iloadN X6.here hx rfl (hb hby at_65) rfl ?_
    show oS p e below T6 m 66 #[.val (.int pI1), .val (.int pI2), .val (.int (0 : Int32)), .val (.int (2 : Int32)), .val (.ref pR3), .val (.ref pR5), .unset] [(.int (2 : Int32))] _
    refine XS.iconst X6.here hx rfl (hb hby at_66) ?_
    show oS p e below T6 m 67 #[.val (.int pI1), .val (.int pI2), .val (.int (0 : Int32)), .val (.int (2 : Int32)), .val (.ref pR3), .val (.ref pR5), .unset] [(.int (3 : Int32)), (.int (2 : Int32))] _
    refine XS.icmpYes X6.here hx rfl (pc0 := 67) (pc' := 75) rfl (hb hby at_67) rfl (feq (by decide : ¬ ((2 : Int32) = (3 : Int32)))).2 (by decide) (by decide) ?_
    show oS p e below T6 m 75 #[.val (.int pI1), .val (.int pI2), .val (.int (0 : Int32)), .val (.int (2 : Int32)), .val (.ref pR3), .val (.ref pR5), .unset] [] _
    refine XS.iloadN X6.here hx rfl (hb hby at_75) rfl ?_
    show oS p e below T6 m 76 #[.val (.int pI1), .val (.int pI2), .val (.int (0 : Int32)), .val (.int (2 : Int32)), .val (.ref pR3), .val (.ref pR5), .unset] [(.int (2 : Int32))] _
    refine XS.iconst X6.here hx rfl (hb hby at_76) ?_
    show oS p e below T6 m 77 #[.val (.int pI1), .val (.int pI2), .val (.int (0 : Int32)), .val (.int (2 : Int32)), .val (.ref pR3), .val (.ref pR5), .unset] [(.int (4 : Int32)), (.int (2 : Int32))] _
    refine XS.icmpYes X6.here hx rfl (pc0 := 77) (pc' := 85) rfl (hb hby at_77) rfl (feq (by decide : ¬ ((2 : Int32) = (4 : Int32)))).2 (by decide) (by decide) ?_
    show oS p e below T6 m 85 #[.val (.int pI1), .val (.int pI2), .val (.int (0 : Int32)), .val (.int (2 : Int32)), .val (.ref pR3), .val (.ref pR5), .unset] [] _
    refine XS.iloadN X6.here hx rfl (hb hby at_85) rfl ?_
    show oS p e below T6 m 86 #[.val (.int pI1), .val (.int pI2), .val (.int (0 : Int32)), .val (.int (2 : Int32)), .val (.ref pR3), .val (.ref pR5), .unset] [(.int (2 : Int32))] _
    refine XS.iconst X6.here hx rfl (hb hby at_86) ?_
    show oS p e below T6 m 87 #[.val (.int pI1), .val (.int pI2), .val (.int (0 : Int32)), .val (.int (2 : Int32)), .val (.ref pR3), .val (.ref pR5), .unset] [(.int (3 : Int32)), (.int (2 : Int32))] _
    refine XS.icmpYes X6.here hx rfl (pc0 := 87) (pc' := 99) rfl (hb hby at_87) rfl (feq (by decide : ¬ ((2 : Int32) = (3 : Int32)))).2 (by decide) (by decide) ?_
    show oS p e below T6 m 99 #[.val (.int pI1), .val (.int pI2), .val (.int (0 : Int32)), .val (.int (2 : Int32)), .val (.ref pR3), .val (.ref pR5), .unset] [] _
    refine XS.iconst X6.here hx rfl (hb hby at_99) ?_
    show oS p e below T6 m 100 #[.val (.int pI1), .val (.int pI2), .val (.int (0 : Int32)), .val (.int (2 : Int32)), .val (.ref pR3), .val (.ref pR5), .unset] [(.int (0 : Int32))] _
    refine XS.istore X6.here hx rfl (hb hby at_100) rfl (l' := #[.val (.int pI1), .val (.int pI2), .val (.int (0 : Int32)), .val (.int (2 : Int32)), .val (.ref pR3), .val (.ref pR5), .val (.int (0 : Int32))]) rfl ?_
    show oS p e below T6 m 102 #[.val (.int pI1), .val (.int pI2), .val (.int (0 : Int32)), .val (.int (2 : Int32)), .val (.ref pR3), .val (.ref pR5), .val (.int (0 : Int32))] [] _
    refine XS.aload X6.here hx rfl (hb hby at_102) rfl rfl ?_
    show oS p e below T6 m 104 #[.val (.int pI1), .val (.int pI2), .val (.int (0 : Int32)), .val (.int (2 : Int32)), .val (.ref pR3), .val (.ref pR5), .val (.int (0 : Int32))] [(.ref pR3)] _
    refine XS.aload X6.here hx rfl (hb hby at_104) rfl rfl ?_
    show oS p e below T6 m 106 #[.val (.int pI1), .val (.int pI2), .val (.int (0 : Int32)), .val (.int (2 : Int32)), .val (.ref pR3), .val (.ref pR5), .val (.int (0 : Int32))] [(.ref pR5), (.ref pR3)] _
    refine st7.trans ?_
    show oS p e below T7 m 109 #[.val (.int pI1), .val (.int pI2), .val (.int (0 : Int32)), .val (.int (2 : Int32)), .val (.ref pR3), .val (.ref pR5), .val (.int (0 : Int32))] [(.int (0 : Int32))] _
    refine XS.iload X7.here hx rfl (hb hby at_109) rfl ?_
    show oS p e below T7 m 111 #[.val (.int pI1), .val (.int pI2), .val (.int (0 : Int32)), .val (.int (2 : Int32)), .val (.ref pR3), .val (.ref pR5), .val (.int (0 : Int32))] [(.int (0 : Int32)), (.int (0 : Int32))] _
    refine XS.icmpNo X7.here hx rfl (hb hby at_111) rfl (teq (by decide : (0 : Int32) = (0 : Int32))).2 ?_
    show oS p e below T7 m 114 #[.val (.int pI1), .val (.int pI2), .val (.int (0 : Int32)), .val (.int (2 : Int32)), .val (.ref pR3), .val (.ref pR5), .val (.int (0 : Int32))] [] _
    refine XS.iconst X7.here hx rfl (hb hby at_114) ?_
    show oS p e below T7 m 115 #[.val (.int pI1), .val (.int pI2), .val (.int (0 : Int32)), .val (.int (2 : Int32)), .val (.ref pR3), .val (.ref pR5), .val (.int (0 : Int32))] [(.int (1 : Int32))] _
    refine XS.goto X7.here hx rfl (pc0 := 115) (pc' := 119) rfl (hb hby at_115) (by decide) (by decide) ?_
    show oS p e below T7 m 119 #[.val (.int pI1), .val (.int pI2), .val (.int (0 : Int32)), .val (.int (2 : Int32)), .val (.ref pR3), .val (.ref pR5), .val (.int (0 : Int32))] [(.int (1 : Int32))] _
    exact retN X7 hx (t := .boolean) Bd.returns (by simp) (hb hby at_119) hr
  · show Qlaw0_2 Z pI1 pI2 pR3 pR5 h0 n0 _ T7.heap _
    rw [e7]
    exact ⟨rfl, N7⟩
theorem ef_law0_3 (m : MethodId) (pI1 : Int32) (pI2 : Int32) : entryFrame m #[(.int pI1), (.int pI2)] maxLocals = mkF m 0 #[.val (.int pI1), .val (.int pI2), .unset, .unset, .unset, .unset, .unset] [] := by first | (simp [entryFrame, mkF, argsToLocals, Value.category, maxLocals]; done) | rfl
def Qlaw0_3 (Z : State) (pI1 : Int32) (pI2 : Int32) (pR3 : Addr) (pR5 : Addr) (h0 : Heap) (n0 : Nat) (v : Option Value) (h : Heap) (L : List Loc) : Prop := v = some (.int (1 : Int32)) ∧ Fr n0 L
set_option maxRecDepth 65536 in
set_option maxHeartbeats 40000000 in
theorem law0_3 (l : Launch) (Z : State) (a0 : Array Value) (hw : ∀ d ∈ tables_1, d.before a0 Z = true) (ws : List Jvm.Cond) (pI1 : Int32) (pI2 : Int32) (pR3 : Addr) (pR5 : Addr) (h0 : Heap) (n0 : Nat) (Z0 : n0 ≤ h0.size) (S_OrderSegment_ORC : Sta Z h0 "com/example/vaxwire/vaxwire/reply/OrderSegment" "ORC" "Lcom/example/vaxwire/vaxwire/reply/OrderSegment;" (.ref pR3)) (S_OrderSegment_OBX : Sta Z h0 "com/example/vaxwire/vaxwire/reply/OrderSegment" "OBX" "Lcom/example/vaxwire/vaxwire/reply/OrderSegment;" (.ref pR5)) (F_ordinal_pR3 : Fld Z h0 pR3 "java/lang/Enum" "ordinal" "I" (.int (0 : Int32))) (E_pR3 : Exa Z h0 pR3 "com/example/vaxwire/vaxwire/reply/OrderSegment") (hc5 : ((pI1 &&& (2147483647 : Int32)) % (5 : Int32)) = (0 : Int32)) (hc12 : ((pI2 &&& (2147483647 : Int32)) % (5 : Int32)) = (3 : Int32)) :
    MetFree l x (head1 (Jvm.Cond.code x code maxLocals ret :: ws) room_1) (fun a U => a = #[(.int pI1), (.int pI2)] ∧ Z.Warmed39 U.vm ∧ U.heap = h0) (fun _ _ _ _ _ => True) (fun _ U o U' => ∃ v L, o = .returned v ∧ Qlaw0_3 Z pI1 pI2 pR3 pR5 h0 n0 v U'.heap L ∧ FrameEnd U o U' L room_1.cells room_1.slots) := by
  refine MetFree.of_bodySF (plainFor_of_name pn_0) hisR ?_
  intro p e s m args below meth c s₁ Bd hml0 hP hK
  obtain ⟨rfl, hZ, hh⟩ := hP
  have hx := Bd.exec
  have hby := Bd.bytes
  have hml : c.maxLocals = 7 := hml0
  have hown : s.vm.findClass "com/example/vaxwire/vaxwire/reply/OrderSegmentMayFollowPinLaw" = some m.cls := findClass_of_methodNamed Bd.named
  have hnm := (name_of_methodNamed Bd.named Bd.method).1
  have X0 : Stand p l e room_1 s m #[(.int pI1), (.int pI2)] below meth c s₁ [] 0 0 := Stand.of_body Bd
  have e0 : s₁.heap = h0 := by rw [← hh, Bd.state]; rfl
  have N0 := Fr.nil n0
  have pre0 : ∀ t, Steps p.tables e below (s₁.setTop (mkF m 0 #[.val (.int pI1), .val (.int pI2), .unset, .unset, .unset, .unset, .unset] [])) t → Steps p.tables e below (s₁.setTop (entryFrame m #[(.int pI1), (.int pI2)] maxLocals)) t := fun t k => castTop (ef_law0_3 m pI1 pI2) k
  obtain ⟨_, _, ⟨T4, L4, k4, n4⟩, -, X4, ⟨Lc4, hQ4, l4, y4, z4⟩, st4⟩ := Jvm.LawKit.callS X0 hx (y := yN0) hown (mvT hZ (ow hw 1 rfl)) (mvT hZ (ow hw 2 rfl)) (mvT hZ (ow hw 3 rfl)) (mvT hZ (ow hw 4 rfl)) (by decide) (backOf (W := 0) (pick0 l Z a0 hw [] pR3 h0 n0 Z0 S_OrderSegment_ORC) hZ (ow hw 4 rfl) (ow hw 3 rfl) (by decide) (by decide)) (g := (mkF m 15 #[.val (.int pI1), .val (.int pI2), .val (.int (0 : Int32)), .val (.int (3 : Int32)), .unset, .unset, .unset] [(.int (0 : Int32))])) rfl (by rw [hml]; rfl) (argsL := [(.int (0 : Int32))]) (rest := []) (lenOf pd_1 rfl) rfl (by show 2 * 0 + _ ≤ _; exact Nat.le_of_eq rfl) (hb hby at_15) (fun _ _ => ⟨rfl, e0, (by decide : 0 + 0 ≤ _), (by decide : 0 + 0 ≤ _)⟩)
  dsimp only [Pt.U, Pt.locs, Pt.cells, Pt.slots] at X4 l4 y4 z4 st4 hQ4
  subst l4 y4 z4
  obtain ⟨rfl, Nq4, e4⟩ := hQ4
  have N4 := Fr.app N0 Nq4
  obtain ⟨_, _, ⟨T6, L6, k6, n6⟩, -, X6, ⟨Lc6, hQ6, l6, y6, z6⟩, st6⟩ := Jvm.LawKit.callS X4 hx (y := yN0) hown (mvT hZ (ow hw 1 rfl)) (mvT hZ (ow hw 2 rfl)) (mvT hZ (ow hw 3 rfl)) (mvT hZ (ow hw 4 rfl)) (by decide) (backOf (W := 0) (pick3 l Z a0 hw [] pR5 h0 n0 Z0 S_OrderSegment_OBX) hZ (ow hw 4 rfl) (ow hw 3 rfl) (by decide) (by decide)) (g := (mkF m 21 #[.val (.int pI1), .val (.int pI2), .val (.int (0 : Int32)), .val (.int (3 : Int32)), .val (.ref pR3), .unset, .unset] [(.int (3 : Int32))])) rfl (by rw [hml]; rfl) (argsL := [(.int (3 : Int32))]) (rest := []) (lenOf pd_1 rfl) rfl (by show 2 * 0 + _ ≤ _; exact Nat.le_of_eq rfl) (hb hby at_21) (fun _ _ => ⟨rfl, e4, (by decide : 0 + 0 ≤ _), (by decide : 0 + 0 ≤ _)⟩)
  dsimp only [Pt.U, Pt.locs, Pt.cells, Pt.slots] at X6 l6 y6 z6 st6 hQ6
  subst l6 y6 z6
  obtain ⟨rfl, Nq6, e6⟩ := hQ6
  have N6 := Fr.app N4 Nq6
  obtain ⟨cq7, kq7, q7a, q7b, q7c⟩ := isOf hZ e6 E_pR3
  obtain ⟨_, _, ⟨T7, L7, k7, n7⟩, -, X7, ⟨Lc7, hQ7, l7, y7, z7⟩, st7⟩ := X6.virtualBack hx (y := yN3) (z := yN3) hown (mvT hZ (ow hw 10 rfl)) (mvT hZ (ow hw 11 rfl)) (notFace_of_selects (args := #[]) (mvT hZ (ow hw 13 rfl))) (mvT hZ (ow hw 13 rfl)) (mvT hZ (ow hw 12 rfl)) (by decide) (backOf (W := 0) (mf0 l Z a0 hw [] pR3 pR5 h0 n0 Z0 F_ordinal_pR3 E_pR3) hZ (ow hw 14 rfl) (ow hw 6 rfl) (by decide) (by decide)) q7a q7c (g := (mkF m 106 #[.val (.int pI1), .val (.int pI2), .val (.int (0 : Int32)), .val (.int (3 : Int32)), .val (.ref pR3), .val (.ref pR5), .val (.int (0 : Int32))] [(.ref pR5), (.ref pR3)])) rfl (by rw [hml]; rfl) (Steps.refl _) (argsL := [(.ref pR5)]) (rest := []) (lenOf pd_2 rfl) rfl (by show 2 * 0 + _ ≤ _; exact Nat.le_of_eq rfl) (hb hby at_106) (fun _ _ => ⟨rfl, e6, (by decide : 0 + 0 ≤ _), (by decide : 0 + 0 ≤ _)⟩)
  dsimp only [Pt.U, Pt.locs, Pt.cells, Pt.slots] at X7 l7 y7 z7 st7 hQ7
  subst l7 y7 z7
  obtain ⟨rfl, Nq7, e7⟩ := hQ7
  have N7 := Fr.app N6 Nq7
  obtain ⟨fs, hr, hrun, hended, hW, hsame⟩ := X7.leave (v := some (.int (1 : Int32))) (fun h => by rw [Bd.returns] at h; cases h)
  refine ⟨_, _, pre0 _ ?_, hrun, hended, _, _, rfl, ?_, ⟨_, rfl⟩, hW, hsame.mono (by decide) (by decide)⟩
  · show oS p e below s₁ m 0 #[.val (.int pI1), .val (.int pI2), .unset, .unset, .unset, .unset, .unset] [] _
    refine XS.iloadN X0.here hx rfl (hb hby at_0) rfl ?_
    show oS p e below s₁ m 1 #[.val (.int pI1), .val (.int pI2), .unset, .unset, .unset, .unset, .unset] [(.int pI1)] _
    refine X0.ldcInt hx hown (mvT hZ (ow hw 0 rfl)) (g := (mkF m 1 #[.val (.int pI1), .val (.int pI2), .unset, .unset, .unset, .unset, .unset] [(.int pI1)])) rfl (hb hby at_1) _ ?_
    show oS p e below s₁ m 3 #[.val (.int pI1), .val (.int pI2), .unset, .unset, .unset, .unset, .unset] [(.int (2147483647 : Int32)), (.int pI1)] _
    refine XS.iand X0.here hx rfl (hb hby at_3) rfl ?_
    show oS p e below s₁ m 4 #[.val (.int pI1), .val (.int pI2), .unset, .unset, .unset, .unset, .unset] [(.int (pI1 &&& (2147483647 : Int32)))] _
    refine XS.iconst X0.here hx rfl (hb hby at_4) ?_
    show oS p e below s₁ m 5 #[.val (.int pI1), .val (.int pI2), .unset, .unset, .unset, .unset, .unset] [(.int (5 : Int32)), (.int (pI1 &&& (2147483647 : Int32)))] _
    refine iremM (g := (mkF m 5 #[.val (.int pI1), .val (.int pI2), .unset, .unset, .unset, .unset, .unset] [(.int (5 : Int32)), (.int (pI1 &&& (2147483647 : Int32)))])) X0 hx rfl (hb hby at_5) rfl (by decide) ?_
    show Steps p.tables e below (s₁.setTop (mkF m 6 #[.val (.int pI1), .val (.int pI2), .unset, .unset, .unset, .unset, .unset] [(.int ((pI1 &&& (2147483647 : Int32)) % (5 : Int32)))])) _
    rw [hc5]
    show oS p e below s₁ m 6 #[.val (.int pI1), .val (.int pI2), .unset, .unset, .unset, .unset, .unset] [(.int (0 : Int32))] _
    refine XS.istoreN X0.here hx rfl (hb hby at_6) rfl (l' := #[.val (.int pI1), .val (.int pI2), .val (.int (0 : Int32)), .unset, .unset, .unset, .unset]) rfl ?_
    show oS p e below s₁ m 7 #[.val (.int pI1), .val (.int pI2), .val (.int (0 : Int32)), .unset, .unset, .unset, .unset] [] _
    refine XS.iloadN X0.here hx rfl (hb hby at_7) rfl ?_
    show oS p e below s₁ m 8 #[.val (.int pI1), .val (.int pI2), .val (.int (0 : Int32)), .unset, .unset, .unset, .unset] [(.int pI2)] _
    refine X0.ldcInt hx hown (mvT hZ (ow hw 0 rfl)) (g := (mkF m 8 #[.val (.int pI1), .val (.int pI2), .val (.int (0 : Int32)), .unset, .unset, .unset, .unset] [(.int pI2)])) rfl (hb hby at_8) _ ?_
    show oS p e below s₁ m 10 #[.val (.int pI1), .val (.int pI2), .val (.int (0 : Int32)), .unset, .unset, .unset, .unset] [(.int (2147483647 : Int32)), (.int pI2)] _
    refine XS.iand X0.here hx rfl (hb hby at_10) rfl ?_
    show oS p e below s₁ m 11 #[.val (.int pI1), .val (.int pI2), .val (.int (0 : Int32)), .unset, .unset, .unset, .unset] [(.int (pI2 &&& (2147483647 : Int32)))] _
    refine XS.iconst X0.here hx rfl (hb hby at_11) ?_
    show oS p e below s₁ m 12 #[.val (.int pI1), .val (.int pI2), .val (.int (0 : Int32)), .unset, .unset, .unset, .unset] [(.int (5 : Int32)), (.int (pI2 &&& (2147483647 : Int32)))] _
    refine iremM (g := (mkF m 12 #[.val (.int pI1), .val (.int pI2), .val (.int (0 : Int32)), .unset, .unset, .unset, .unset] [(.int (5 : Int32)), (.int (pI2 &&& (2147483647 : Int32)))])) X0 hx rfl (hb hby at_12) rfl (by decide) ?_
    show Steps p.tables e below (s₁.setTop (mkF m 13 #[.val (.int pI1), .val (.int pI2), .val (.int (0 : Int32)), .unset, .unset, .unset, .unset] [(.int ((pI2 &&& (2147483647 : Int32)) % (5 : Int32)))])) _
    rw [hc12]
    show oS p e below s₁ m 13 #[.val (.int pI1), .val (.int pI2), .val (.int (0 : Int32)), .unset, .unset, .unset, .unset] [(.int (3 : Int32))] _
    refine XS.istoreN X0.here hx rfl (hb hby at_13) rfl (l' := #[.val (.int pI1), .val (.int pI2), .val (.int (0 : Int32)), .val (.int (3 : Int32)), .unset, .unset, .unset]) rfl ?_
    show oS p e below s₁ m 14 #[.val (.int pI1), .val (.int pI2), .val (.int (0 : Int32)), .val (.int (3 : Int32)), .unset, .unset, .unset] [] _
    refine XS.iloadN X0.here hx rfl (hb hby at_14) rfl ?_
    show oS p e below s₁ m 15 #[.val (.int pI1), .val (.int pI2), .val (.int (0 : Int32)), .val (.int (3 : Int32)), .unset, .unset, .unset] [(.int (0 : Int32))] _
    refine st4 _ ?_
    show oS p e below T4 m 18 #[.val (.int pI1), .val (.int pI2), .val (.int (0 : Int32)), .val (.int (3 : Int32)), .unset, .unset, .unset] [(.ref pR3)] _
    refine XS.astore X4.here hx rfl (hb hby at_18) rfl rfl (l' := #[.val (.int pI1), .val (.int pI2), .val (.int (0 : Int32)), .val (.int (3 : Int32)), .val (.ref pR3), .unset, .unset]) rfl ?_
    show oS p e below T4 m 20 #[.val (.int pI1), .val (.int pI2), .val (.int (0 : Int32)), .val (.int (3 : Int32)), .val (.ref pR3), .unset, .unset] [] _
    refine XS.iloadN X4.here hx rfl (hb hby at_20) rfl ?_
    show oS p e below T4 m 21 #[.val (.int pI1), .val (.int pI2), .val (.int (0 : Int32)), .val (.int (3 : Int32)), .val (.ref pR3), .unset, .unset] [(.int (3 : Int32))] _
    refine st6 _ ?_
    show oS p e below T6 m 24 #[.val (.int pI1), .val (.int pI2), .val (.int (0 : Int32)), .val (.int (3 : Int32)), .val (.ref pR3), .unset, .unset] [(.ref pR5)] _
    refine XS.astore X6.here hx rfl (hb hby at_24) rfl rfl (l' := #[.val (.int pI1), .val (.int pI2), .val (.int (0 : Int32)), .val (.int (3 : Int32)), .val (.ref pR3), .val (.ref pR5), .unset]) rfl ?_
    show oS p e below T6 m 26 #[.val (.int pI1), .val (.int pI2), .val (.int (0 : Int32)), .val (.int (3 : Int32)), .val (.ref pR3), .val (.ref pR5), .unset] [] _
    refine XS.iloadN X6.here hx rfl (hb hby at_26) rfl ?_
    show oS p e below T6 m 27 #[.val (.int pI1), .val (.int pI2), .val (.int (0 : Int32)), .val (.int (3 : Int32)), .val (.ref pR3), .val (.ref pR5), .unset] [(.int (3 : Int32))] _
    refine XS.ifYes X6.here hx rfl (pc0 := 27) (pc' := 35) rfl (hb hby at_27) rfl ((if0 _ _).trans (feq (by decide : ¬ ((3 : Int32) = (0 : Int32)))).2) (by decide) (by decide) ?_
    show oS p e below T6 m 35 #[.val (.int pI1), .val (.int pI2), .val (.int (0 : Int32)), .val (.int (3 : Int32)), .val (.ref pR3), .val (.ref pR5), .unset] [] _
    refine XS.iloadN X6.here hx rfl (hb hby at_35) rfl ?_
    show oS p e below T6 m 36 #[.val (.int pI1), .val (.int pI2), .val (.int (0 : Int32)), .val (.int (3 : Int32)), .val (.ref pR3), .val (.ref pR5), .unset] [(.int (3 : Int32))] _
    refine XS.iconst X6.here hx rfl (hb hby at_36) ?_
    show oS p e below T6 m 37 #[.val (.int pI1), .val (.int pI2), .val (.int (0 : Int32)), .val (.int (3 : Int32)), .val (.ref pR3), .val (.ref pR5), .unset] [(.int (1 : Int32)), (.int (3 : Int32))] _
    refine XS.icmpYes X6.here hx rfl (pc0 := 37) (pc' := 45) rfl (hb hby at_37) rfl (feq (by decide : ¬ ((3 : Int32) = (1 : Int32)))).2 (by decide) (by decide) ?_
    show oS p e below T6 m 45 #[.val (.int pI1), .val (.int pI2), .val (.int (0 : Int32)), .val (.int (3 : Int32)), .val (.ref pR3), .val (.ref pR5), .unset] [] _
    refine XS.iloadN X6.here hx rfl (hb hby at_45) rfl ?_
    show oS p e below T6 m 46 #[.val (.int pI1), .val (.int pI2), .val (.int (0 : Int32)), .val (.int (3 : Int32)), .val (.ref pR3), .val (.ref pR5), .unset] [(.int (3 : Int32))] _
    refine XS.iconst X6.here hx rfl (hb hby at_46) ?_
    show oS p e below T6 m 47 #[.val (.int pI1), .val (.int pI2), .val (.int (0 : Int32)), .val (.int (3 : Int32)), .val (.ref pR3), .val (.ref pR5), .unset] [(.int (1 : Int32)), (.int (3 : Int32))] _
    refine XS.icmpYes X6.here hx rfl (pc0 := 47) (pc' := 55) rfl (hb hby at_47) rfl (feq (by decide : ¬ ((3 : Int32) = (1 : Int32)))).2 (by decide) (by decide) ?_
    show oS p e below T6 m 55 #[.val (.int pI1), .val (.int pI2), .val (.int (0 : Int32)), .val (.int (3 : Int32)), .val (.ref pR3), .val (.ref pR5), .unset] [] _
    refine XS.iloadN X6.here hx rfl (hb hby at_55) rfl ?_
    show oS p e below T6 m 56 #[.val (.int pI1), .val (.int pI2), .val (.int (0 : Int32)), .val (.int (3 : Int32)), .val (.ref pR3), .val (.ref pR5), .unset] [(.int (3 : Int32))] _
    refine XS.iconst X6.here hx rfl (hb hby at_56) ?_
    show oS p e below T6 m 57 #[.val (.int pI1), .val (.int pI2), .val (.int (0 : Int32)), .val (.int (3 : Int32)), .val (.ref pR3), .val (.ref pR5), .unset] [(.int (2 : Int32)), (.int (3 : Int32))] _
    refine XS.icmpYes X6.here hx rfl (pc0 := 57) (pc' := 65) rfl (hb hby at_57) rfl (feq (by decide : ¬ ((3 : Int32) = (2 : Int32)))).2 (by decide) (by decide) ?_
    show oS p e below T6 m 65 #[.val (.int pI1), .val (.int pI2), .val (.int (0 : Int32)), .val (.int (3 : Int32)), .val (.ref pR3), .val (.ref pR5), .unset] [] _
    refine XS.iloadN X6.here hx rfl (hb hby at_65) rfl ?_
    show oS p e below T6 m 66 #[.val (.int pI1), .val (.int pI2), .val (.int (0 : Int32)), .val (.int (3 : Int32)), .val (.ref pR3), .val (.ref pR5), .unset] [(.int (3 : Int32))] _
    refine XS.iconst X6.here hx rfl (hb hby at_66) ?_
    show oS p e below T6 m 67 #[.val (.int pI1), .val (.int pI2), .val (.int (0 : Int32)), .val (.int (3 : Int32)), .val (.ref pR3), .val (.ref pR5), .unset] [(.int (3 : Int32)), (.int (3 : Int32))] _
    refine XS.icmpNo X6.here hx rfl (hb hby at_67) rfl (teq (by decide : (3 : Int32) = (3 : Int32))).2 ?_
    show oS p e below T6 m 70 #[.val (.int pI1), .val (.int pI2), .val (.int (0 : Int32)), .val (.int (3 : Int32)), .val (.ref pR3), .val (.ref pR5), .unset] [] _
    refine XS.iloadN X6.here hx rfl (hb hby at_70) rfl ?_
    show oS p e below T6 m 71 #[.val (.int pI1), .val (.int pI2), .val (.int (0 : Int32)), .val (.int (3 : Int32)), .val (.ref pR3), .val (.ref pR5), .unset] [(.int (0 : Int32))] _
    refine XS.iconst X6.here hx rfl (hb hby at_71) ?_
    show oS p e below T6 m 72 #[.val (.int pI1), .val (.int pI2), .val (.int (0 : Int32)), .val (.int (3 : Int32)), .val (.ref pR3), .val (.ref pR5), .unset] [(.int (3 : Int32)), (.int (0 : Int32))] _
    refine XS.icmpNo X6.here hx rfl (hb hby at_72) rfl (feq (by decide : ¬ ((0 : Int32) = (3 : Int32)))).1 ?_
    show oS p e below T6 m 75 #[.val (.int pI1), .val (.int pI2), .val (.int (0 : Int32)), .val (.int (3 : Int32)), .val (.ref pR3), .val (.ref pR5), .unset] [] _
    refine XS.iloadN X6.here hx rfl (hb hby at_75) rfl ?_
    show oS p e below T6 m 76 #[.val (.int pI1), .val (.int pI2), .val (.int (0 : Int32)), .val (.int (3 : Int32)), .val (.ref pR3), .val (.ref pR5), .unset] [(.int (3 : Int32))] _
    refine XS.iconst X6.here hx rfl (hb hby at_76) ?_
    show oS p e below T6 m 77 #[.val (.int pI1), .val (.int pI2), .val (.int (0 : Int32)), .val (.int (3 : Int32)), .val (.ref pR3), .val (.ref pR5), .unset] [(.int (4 : Int32)), (.int (3 : Int32))] _
    refine XS.icmpYes X6.here hx rfl (pc0 := 77) (pc' := 85) rfl (hb hby at_77) rfl (feq (by decide : ¬ ((3 : Int32) = (4 : Int32)))).2 (by decide) (by decide) ?_
    show oS p e below T6 m 85 #[.val (.int pI1), .val (.int pI2), .val (.int (0 : Int32)), .val (.int (3 : Int32)), .val (.ref pR3), .val (.ref pR5), .unset] [] _
    refine XS.iloadN X6.here hx rfl (hb hby at_85) rfl ?_
    show oS p e below T6 m 86 #[.val (.int pI1), .val (.int pI2), .val (.int (0 : Int32)), .val (.int (3 : Int32)), .val (.ref pR3), .val (.ref pR5), .unset] [(.int (3 : Int32))] _
    refine XS.iconst X6.here hx rfl (hb hby at_86) ?_
    show oS p e below T6 m 87 #[.val (.int pI1), .val (.int pI2), .val (.int (0 : Int32)), .val (.int (3 : Int32)), .val (.ref pR3), .val (.ref pR5), .unset] [(.int (3 : Int32)), (.int (3 : Int32))] _
    refine XS.icmpNo X6.here hx rfl (hb hby at_87) rfl (teq (by decide : (3 : Int32) = (3 : Int32))).2 ?_
    show oS p e below T6 m 90 #[.val (.int pI1), .val (.int pI2), .val (.int (0 : Int32)), .val (.int (3 : Int32)), .val (.ref pR3), .val (.ref pR5), .unset] [] _
    refine XS.iloadN X6.here hx rfl (hb hby at_90) rfl ?_
    show oS p e below T6 m 91 #[.val (.int pI1), .val (.int pI2), .val (.int (0 : Int32)), .val (.int (3 : Int32)), .val (.ref pR3), .val (.ref pR5), .unset] [(.int (0 : Int32))] _
    refine XS.iconst X6.here hx rfl (hb hby at_91) ?_
    show oS p e below T6 m 92 #[.val (.int pI1), .val (.int pI2), .val (.int (0 : Int32)), .val (.int (3 : Int32)), .val (.ref pR3), .val (.ref pR5), .unset] [(.int (4 : Int32)), (.int (0 : Int32))] _
    refine XS.icmpYes X6.here hx rfl (pc0 := 92) (pc' := 99) rfl (hb hby at_92) rfl (feq (by decide : ¬ ((0 : Int32) = (4 : Int32)))).2 (by decide) (by decide) ?_
    show oS p e below T6 m 99 #[.val (.int pI1), .val (.int pI2), .val (.int (0 : Int32)), .val (.int (3 : Int32)), .val (.ref pR3), .val (.ref pR5), .unset] [] _
    refine XS.iconst X6.here hx rfl (hb hby at_99) ?_
    show oS p e below T6 m 100 #[.val (.int pI1), .val (.int pI2), .val (.int (0 : Int32)), .val (.int (3 : Int32)), .val (.ref pR3), .val (.ref pR5), .unset] [(.int (0 : Int32))] _
    refine XS.istore X6.here hx rfl (hb hby at_100) rfl (l' := #[.val (.int pI1), .val (.int pI2), .val (.int (0 : Int32)), .val (.int (3 : Int32)), .val (.ref pR3), .val (.ref pR5), .val (.int (0 : Int32))]) rfl ?_
    show oS p e below T6 m 102 #[.val (.int pI1), .val (.int pI2), .val (.int (0 : Int32)), .val (.int (3 : Int32)), .val (.ref pR3), .val (.ref pR5), .val (.int (0 : Int32))] [] _
    refine XS.aload X6.here hx rfl (hb hby at_102) rfl rfl ?_
    show oS p e below T6 m 104 #[.val (.int pI1), .val (.int pI2), .val (.int (0 : Int32)), .val (.int (3 : Int32)), .val (.ref pR3), .val (.ref pR5), .val (.int (0 : Int32))] [(.ref pR3)] _
    refine XS.aload X6.here hx rfl (hb hby at_104) rfl rfl ?_
    show oS p e below T6 m 106 #[.val (.int pI1), .val (.int pI2), .val (.int (0 : Int32)), .val (.int (3 : Int32)), .val (.ref pR3), .val (.ref pR5), .val (.int (0 : Int32))] [(.ref pR5), (.ref pR3)] _
    refine st7.trans ?_
    show oS p e below T7 m 109 #[.val (.int pI1), .val (.int pI2), .val (.int (0 : Int32)), .val (.int (3 : Int32)), .val (.ref pR3), .val (.ref pR5), .val (.int (0 : Int32))] [(.int (0 : Int32))] _
    refine XS.iload X7.here hx rfl (hb hby at_109) rfl ?_
    show oS p e below T7 m 111 #[.val (.int pI1), .val (.int pI2), .val (.int (0 : Int32)), .val (.int (3 : Int32)), .val (.ref pR3), .val (.ref pR5), .val (.int (0 : Int32))] [(.int (0 : Int32)), (.int (0 : Int32))] _
    refine XS.icmpNo X7.here hx rfl (hb hby at_111) rfl (teq (by decide : (0 : Int32) = (0 : Int32))).2 ?_
    show oS p e below T7 m 114 #[.val (.int pI1), .val (.int pI2), .val (.int (0 : Int32)), .val (.int (3 : Int32)), .val (.ref pR3), .val (.ref pR5), .val (.int (0 : Int32))] [] _
    refine XS.iconst X7.here hx rfl (hb hby at_114) ?_
    show oS p e below T7 m 115 #[.val (.int pI1), .val (.int pI2), .val (.int (0 : Int32)), .val (.int (3 : Int32)), .val (.ref pR3), .val (.ref pR5), .val (.int (0 : Int32))] [(.int (1 : Int32))] _
    refine XS.goto X7.here hx rfl (pc0 := 115) (pc' := 119) rfl (hb hby at_115) (by decide) (by decide) ?_
    show oS p e below T7 m 119 #[.val (.int pI1), .val (.int pI2), .val (.int (0 : Int32)), .val (.int (3 : Int32)), .val (.ref pR3), .val (.ref pR5), .val (.int (0 : Int32))] [(.int (1 : Int32))] _
    exact retN X7 hx (t := .boolean) Bd.returns (by simp) (hb hby at_119) hr
  · show Qlaw0_3 Z pI1 pI2 pR3 pR5 h0 n0 _ T7.heap _
    rw [e7]
    exact ⟨rfl, N7⟩
theorem ef_law0_4 (m : MethodId) (pI1 : Int32) (pI2 : Int32) : entryFrame m #[(.int pI1), (.int pI2)] maxLocals = mkF m 0 #[.val (.int pI1), .val (.int pI2), .unset, .unset, .unset, .unset, .unset] [] := by first | (simp [entryFrame, mkF, argsToLocals, Value.category, maxLocals]; done) | rfl
def Qlaw0_4 (Z : State) (pI1 : Int32) (pI2 : Int32) (pR3 : Addr) (pR5 : Addr) (h0 : Heap) (n0 : Nat) (v : Option Value) (h : Heap) (L : List Loc) : Prop := v = some (.int (1 : Int32)) ∧ Fr n0 L
set_option maxRecDepth 65536 in
set_option maxHeartbeats 40000000 in
theorem law0_4 (l : Launch) (Z : State) (a0 : Array Value) (hw : ∀ d ∈ tables_1, d.before a0 Z = true) (ws : List Jvm.Cond) (pI1 : Int32) (pI2 : Int32) (pR3 : Addr) (pR5 : Addr) (h0 : Heap) (n0 : Nat) (Z0 : n0 ≤ h0.size) (S_OrderSegment_ORC : Sta Z h0 "com/example/vaxwire/vaxwire/reply/OrderSegment" "ORC" "Lcom/example/vaxwire/vaxwire/reply/OrderSegment;" (.ref pR3)) (S_OrderSegment_NTE : Sta Z h0 "com/example/vaxwire/vaxwire/reply/OrderSegment" "NTE" "Lcom/example/vaxwire/vaxwire/reply/OrderSegment;" (.ref pR5)) (F_ordinal_pR3 : Fld Z h0 pR3 "java/lang/Enum" "ordinal" "I" (.int (0 : Int32))) (E_pR3 : Exa Z h0 pR3 "com/example/vaxwire/vaxwire/reply/OrderSegment") (hc5 : ((pI1 &&& (2147483647 : Int32)) % (5 : Int32)) = (0 : Int32)) (hc12 : ((pI2 &&& (2147483647 : Int32)) % (5 : Int32)) = (4 : Int32)) :
    MetFree l x (head1 (Jvm.Cond.code x code maxLocals ret :: ws) room_1) (fun a U => a = #[(.int pI1), (.int pI2)] ∧ Z.Warmed39 U.vm ∧ U.heap = h0) (fun _ _ _ _ _ => True) (fun _ U o U' => ∃ v L, o = .returned v ∧ Qlaw0_4 Z pI1 pI2 pR3 pR5 h0 n0 v U'.heap L ∧ FrameEnd U o U' L room_1.cells room_1.slots) := by
  refine MetFree.of_bodySF (plainFor_of_name pn_0) hisR ?_
  intro p e s m args below meth c s₁ Bd hml0 hP hK
  obtain ⟨rfl, hZ, hh⟩ := hP
  have hx := Bd.exec
  have hby := Bd.bytes
  have hml : c.maxLocals = 7 := hml0
  have hown : s.vm.findClass "com/example/vaxwire/vaxwire/reply/OrderSegmentMayFollowPinLaw" = some m.cls := findClass_of_methodNamed Bd.named
  have hnm := (name_of_methodNamed Bd.named Bd.method).1
  have X0 : Stand p l e room_1 s m #[(.int pI1), (.int pI2)] below meth c s₁ [] 0 0 := Stand.of_body Bd
  have e0 : s₁.heap = h0 := by rw [← hh, Bd.state]; rfl
  have N0 := Fr.nil n0
  have pre0 : ∀ t, Steps p.tables e below (s₁.setTop (mkF m 0 #[.val (.int pI1), .val (.int pI2), .unset, .unset, .unset, .unset, .unset] [])) t → Steps p.tables e below (s₁.setTop (entryFrame m #[(.int pI1), (.int pI2)] maxLocals)) t := fun t k => castTop (ef_law0_4 m pI1 pI2) k
  obtain ⟨_, _, ⟨T4, L4, k4, n4⟩, -, X4, ⟨Lc4, hQ4, l4, y4, z4⟩, st4⟩ := Jvm.LawKit.callS X0 hx (y := yN0) hown (mvT hZ (ow hw 1 rfl)) (mvT hZ (ow hw 2 rfl)) (mvT hZ (ow hw 3 rfl)) (mvT hZ (ow hw 4 rfl)) (by decide) (backOf (W := 0) (pick0 l Z a0 hw [] pR3 h0 n0 Z0 S_OrderSegment_ORC) hZ (ow hw 4 rfl) (ow hw 3 rfl) (by decide) (by decide)) (g := (mkF m 15 #[.val (.int pI1), .val (.int pI2), .val (.int (0 : Int32)), .val (.int (4 : Int32)), .unset, .unset, .unset] [(.int (0 : Int32))])) rfl (by rw [hml]; rfl) (argsL := [(.int (0 : Int32))]) (rest := []) (lenOf pd_1 rfl) rfl (by show 2 * 0 + _ ≤ _; exact Nat.le_of_eq rfl) (hb hby at_15) (fun _ _ => ⟨rfl, e0, (by decide : 0 + 0 ≤ _), (by decide : 0 + 0 ≤ _)⟩)
  dsimp only [Pt.U, Pt.locs, Pt.cells, Pt.slots] at X4 l4 y4 z4 st4 hQ4
  subst l4 y4 z4
  obtain ⟨rfl, Nq4, e4⟩ := hQ4
  have N4 := Fr.app N0 Nq4
  obtain ⟨_, _, ⟨T6, L6, k6, n6⟩, -, X6, ⟨Lc6, hQ6, l6, y6, z6⟩, st6⟩ := Jvm.LawKit.callS X4 hx (y := yN0) hown (mvT hZ (ow hw 1 rfl)) (mvT hZ (ow hw 2 rfl)) (mvT hZ (ow hw 3 rfl)) (mvT hZ (ow hw 4 rfl)) (by decide) (backOf (W := 0) (pick4 l Z a0 hw [] pR5 h0 n0 Z0 S_OrderSegment_NTE) hZ (ow hw 4 rfl) (ow hw 3 rfl) (by decide) (by decide)) (g := (mkF m 21 #[.val (.int pI1), .val (.int pI2), .val (.int (0 : Int32)), .val (.int (4 : Int32)), .val (.ref pR3), .unset, .unset] [(.int (4 : Int32))])) rfl (by rw [hml]; rfl) (argsL := [(.int (4 : Int32))]) (rest := []) (lenOf pd_1 rfl) rfl (by show 2 * 0 + _ ≤ _; exact Nat.le_of_eq rfl) (hb hby at_21) (fun _ _ => ⟨rfl, e4, (by decide : 0 + 0 ≤ _), (by decide : 0 + 0 ≤ _)⟩)
  dsimp only [Pt.U, Pt.locs, Pt.cells, Pt.slots] at X6 l6 y6 z6 st6 hQ6
  subst l6 y6 z6
  obtain ⟨rfl, Nq6, e6⟩ := hQ6
  have N6 := Fr.app N4 Nq6
  obtain ⟨cq7, kq7, q7a, q7b, q7c⟩ := isOf hZ e6 E_pR3
  obtain ⟨_, _, ⟨T7, L7, k7, n7⟩, -, X7, ⟨Lc7, hQ7, l7, y7, z7⟩, st7⟩ := X6.virtualBack hx (y := yN3) (z := yN3) hown (mvT hZ (ow hw 10 rfl)) (mvT hZ (ow hw 11 rfl)) (notFace_of_selects (args := #[]) (mvT hZ (ow hw 13 rfl))) (mvT hZ (ow hw 13 rfl)) (mvT hZ (ow hw 12 rfl)) (by decide) (backOf (W := 0) (mf0 l Z a0 hw [] pR3 pR5 h0 n0 Z0 F_ordinal_pR3 E_pR3) hZ (ow hw 14 rfl) (ow hw 6 rfl) (by decide) (by decide)) q7a q7c (g := (mkF m 106 #[.val (.int pI1), .val (.int pI2), .val (.int (0 : Int32)), .val (.int (4 : Int32)), .val (.ref pR3), .val (.ref pR5), .val (.int (0 : Int32))] [(.ref pR5), (.ref pR3)])) rfl (by rw [hml]; rfl) (Steps.refl _) (argsL := [(.ref pR5)]) (rest := []) (lenOf pd_2 rfl) rfl (by show 2 * 0 + _ ≤ _; exact Nat.le_of_eq rfl) (hb hby at_106) (fun _ _ => ⟨rfl, e6, (by decide : 0 + 0 ≤ _), (by decide : 0 + 0 ≤ _)⟩)
  dsimp only [Pt.U, Pt.locs, Pt.cells, Pt.slots] at X7 l7 y7 z7 st7 hQ7
  subst l7 y7 z7
  obtain ⟨rfl, Nq7, e7⟩ := hQ7
  have N7 := Fr.app N6 Nq7
  obtain ⟨fs, hr, hrun, hended, hW, hsame⟩ := X7.leave (v := some (.int (1 : Int32))) (fun h => by rw [Bd.returns] at h; cases h)
  refine ⟨_, _, pre0 _ ?_, hrun, hended, _, _, rfl, ?_, ⟨_, rfl⟩, hW, hsame.mono (by decide) (by decide)⟩
  · show oS p e below s₁ m 0 #[.val (.int pI1), .val (.int pI2), .unset, .unset, .unset, .unset, .unset] [] _
    refine XS.iloadN X0.here hx rfl (hb hby at_0) rfl ?_
    show oS p e below s₁ m 1 #[.val (.int pI1), .val (.int pI2), .unset, .unset, .unset, .unset, .unset] [(.int pI1)] _
    refine X0.ldcInt hx hown (mvT hZ (ow hw 0 rfl)) (g := (mkF m 1 #[.val (.int pI1), .val (.int pI2), .unset, .unset, .unset, .unset, .unset] [(.int pI1)])) rfl (hb hby at_1) _ ?_
    show oS p e below s₁ m 3 #[.val (.int pI1), .val (.int pI2), .unset, .unset, .unset, .unset, .unset] [(.int (2147483647 : Int32)), (.int pI1)] _
    refine XS.iand X0.here hx rfl (hb hby at_3) rfl ?_
    show oS p e below s₁ m 4 #[.val (.int pI1), .val (.int pI2), .unset, .unset, .unset, .unset, .unset] [(.int (pI1 &&& (2147483647 : Int32)))] _
    refine XS.iconst X0.here hx rfl (hb hby at_4) ?_
    show oS p e below s₁ m 5 #[.val (.int pI1), .val (.int pI2), .unset, .unset, .unset, .unset, .unset] [(.int (5 : Int32)), (.int (pI1 &&& (2147483647 : Int32)))] _
    refine iremM (g := (mkF m 5 #[.val (.int pI1), .val (.int pI2), .unset, .unset, .unset, .unset, .unset] [(.int (5 : Int32)), (.int (pI1 &&& (2147483647 : Int32)))])) X0 hx rfl (hb hby at_5) rfl (by decide) ?_
    show Steps p.tables e below (s₁.setTop (mkF m 6 #[.val (.int pI1), .val (.int pI2), .unset, .unset, .unset, .unset, .unset] [(.int ((pI1 &&& (2147483647 : Int32)) % (5 : Int32)))])) _
    rw [hc5]
    show oS p e below s₁ m 6 #[.val (.int pI1), .val (.int pI2), .unset, .unset, .unset, .unset, .unset] [(.int (0 : Int32))] _
    refine XS.istoreN X0.here hx rfl (hb hby at_6) rfl (l' := #[.val (.int pI1), .val (.int pI2), .val (.int (0 : Int32)), .unset, .unset, .unset, .unset]) rfl ?_
    show oS p e below s₁ m 7 #[.val (.int pI1), .val (.int pI2), .val (.int (0 : Int32)), .unset, .unset, .unset, .unset] [] _
    refine XS.iloadN X0.here hx rfl (hb hby at_7) rfl ?_
    show oS p e below s₁ m 8 #[.val (.int pI1), .val (.int pI2), .val (.int (0 : Int32)), .unset, .unset, .unset, .unset] [(.int pI2)] _
    refine X0.ldcInt hx hown (mvT hZ (ow hw 0 rfl)) (g := (mkF m 8 #[.val (.int pI1), .val (.int pI2), .val (.int (0 : Int32)), .unset, .unset, .unset, .unset] [(.int pI2)])) rfl (hb hby at_8) _ ?_
    show oS p e below s₁ m 10 #[.val (.int pI1), .val (.int pI2), .val (.int (0 : Int32)), .unset, .unset, .unset, .unset] [(.int (2147483647 : Int32)), (.int pI2)] _
    refine XS.iand X0.here hx rfl (hb hby at_10) rfl ?_
    show oS p e below s₁ m 11 #[.val (.int pI1), .val (.int pI2), .val (.int (0 : Int32)), .unset, .unset, .unset, .unset] [(.int (pI2 &&& (2147483647 : Int32)))] _
    refine XS.iconst X0.here hx rfl (hb hby at_11) ?_
    show oS p e below s₁ m 12 #[.val (.int pI1), .val (.int pI2), .val (.int (0 : Int32)), .unset, .unset, .unset, .unset] [(.int (5 : Int32)), (.int (pI2 &&& (2147483647 : Int32)))] _
    refine iremM (g := (mkF m 12 #[.val (.int pI1), .val (.int pI2), .val (.int (0 : Int32)), .unset, .unset, .unset, .unset] [(.int (5 : Int32)), (.int (pI2 &&& (2147483647 : Int32)))])) X0 hx rfl (hb hby at_12) rfl (by decide) ?_
    show Steps p.tables e below (s₁.setTop (mkF m 13 #[.val (.int pI1), .val (.int pI2), .val (.int (0 : Int32)), .unset, .unset, .unset, .unset] [(.int ((pI2 &&& (2147483647 : Int32)) % (5 : Int32)))])) _
    rw [hc12]
    show oS p e below s₁ m 13 #[.val (.int pI1), .val (.int pI2), .val (.int (0 : Int32)), .unset, .unset, .unset, .unset] [(.int (4 : Int32))] _
    refine XS.istoreN X0.here hx rfl (hb hby at_13) rfl (l' := #[.val (.int pI1), .val (.int pI2), .val (.int (0 : Int32)), .val (.int (4 : Int32)), .unset, .unset, .unset]) rfl ?_
    show oS p e below s₁ m 14 #[.val (.int pI1), .val (.int pI2), .val (.int (0 : Int32)), .val (.int (4 : Int32)), .unset, .unset, .unset] [] _
    refine XS.iloadN X0.here hx rfl (hb hby at_14) rfl ?_
    show oS p e below s₁ m 15 #[.val (.int pI1), .val (.int pI2), .val (.int (0 : Int32)), .val (.int (4 : Int32)), .unset, .unset, .unset] [(.int (0 : Int32))] _
    refine st4 _ ?_
    show oS p e below T4 m 18 #[.val (.int pI1), .val (.int pI2), .val (.int (0 : Int32)), .val (.int (4 : Int32)), .unset, .unset, .unset] [(.ref pR3)] _
    refine XS.astore X4.here hx rfl (hb hby at_18) rfl rfl (l' := #[.val (.int pI1), .val (.int pI2), .val (.int (0 : Int32)), .val (.int (4 : Int32)), .val (.ref pR3), .unset, .unset]) rfl ?_
    show oS p e below T4 m 20 #[.val (.int pI1), .val (.int pI2), .val (.int (0 : Int32)), .val (.int (4 : Int32)), .val (.ref pR3), .unset, .unset] [] _
    refine XS.iloadN X4.here hx rfl (hb hby at_20) rfl ?_
    show oS p e below T4 m 21 #[.val (.int pI1), .val (.int pI2), .val (.int (0 : Int32)), .val (.int (4 : Int32)), .val (.ref pR3), .unset, .unset] [(.int (4 : Int32))] _
    refine st6 _ ?_
    show oS p e below T6 m 24 #[.val (.int pI1), .val (.int pI2), .val (.int (0 : Int32)), .val (.int (4 : Int32)), .val (.ref pR3), .unset, .unset] [(.ref pR5)] _
    refine XS.astore X6.here hx rfl (hb hby at_24) rfl rfl (l' := #[.val (.int pI1), .val (.int pI2), .val (.int (0 : Int32)), .val (.int (4 : Int32)), .val (.ref pR3), .val (.ref pR5), .unset]) rfl ?_
    show oS p e below T6 m 26 #[.val (.int pI1), .val (.int pI2), .val (.int (0 : Int32)), .val (.int (4 : Int32)), .val (.ref pR3), .val (.ref pR5), .unset] [] _
    refine XS.iloadN X6.here hx rfl (hb hby at_26) rfl ?_
    show oS p e below T6 m 27 #[.val (.int pI1), .val (.int pI2), .val (.int (0 : Int32)), .val (.int (4 : Int32)), .val (.ref pR3), .val (.ref pR5), .unset] [(.int (4 : Int32))] _
    refine XS.ifYes X6.here hx rfl (pc0 := 27) (pc' := 35) rfl (hb hby at_27) rfl ((if0 _ _).trans (feq (by decide : ¬ ((4 : Int32) = (0 : Int32)))).2) (by decide) (by decide) ?_
    show oS p e below T6 m 35 #[.val (.int pI1), .val (.int pI2), .val (.int (0 : Int32)), .val (.int (4 : Int32)), .val (.ref pR3), .val (.ref pR5), .unset] [] _
    refine XS.iloadN X6.here hx rfl (hb hby at_35) rfl ?_
    show oS p e below T6 m 36 #[.val (.int pI1), .val (.int pI2), .val (.int (0 : Int32)), .val (.int (4 : Int32)), .val (.ref pR3), .val (.ref pR5), .unset] [(.int (4 : Int32))] _
    refine XS.iconst X6.here hx rfl (hb hby at_36) ?_
    show oS p e below T6 m 37 #[.val (.int pI1), .val (.int pI2), .val (.int (0 : Int32)), .val (.int (4 : Int32)), .val (.ref pR3), .val (.ref pR5), .unset] [(.int (1 : Int32)), (.int (4 : Int32))] _
    refine XS.icmpYes X6.here hx rfl (pc0 := 37) (pc' := 45) rfl (hb hby at_37) rfl (feq (by decide : ¬ ((4 : Int32) = (1 : Int32)))).2 (by decide) (by decide) ?_
    show oS p e below T6 m 45 #[.val (.int pI1), .val (.int pI2), .val (.int (0 : Int32)), .val (.int (4 : Int32)), .val (.ref pR3), .val (.ref pR5), .unset] [] _
    refine XS.iloadN X6.here hx rfl (hb hby at_45) rfl ?_
    show oS p e below T6 m 46 #[.val (.int pI1), .val (.int pI2), .val (.int (0 : Int32)), .val (.int (4 : Int32)), .val (.ref pR3), .val (.ref pR5), .unset] [(.int (4 : Int32))] _
    refine XS.iconst X6.here hx rfl (hb hby at_46) ?_
    show oS p e below T6 m 47 #[.val (.int pI1), .val (.int pI2), .val (.int (0 : Int32)), .val (.int (4 : Int32)), .val (.ref pR3), .val (.ref pR5), .unset] [(.int (1 : Int32)), (.int (4 : Int32))] _
    refine XS.icmpYes X6.here hx rfl (pc0 := 47) (pc' := 55) rfl (hb hby at_47) rfl (feq (by decide : ¬ ((4 : Int32) = (1 : Int32)))).2 (by decide) (by decide) ?_
    show oS p e below T6 m 55 #[.val (.int pI1), .val (.int pI2), .val (.int (0 : Int32)), .val (.int (4 : Int32)), .val (.ref pR3), .val (.ref pR5), .unset] [] _
    refine XS.iloadN X6.here hx rfl (hb hby at_55) rfl ?_
    show oS p e below T6 m 56 #[.val (.int pI1), .val (.int pI2), .val (.int (0 : Int32)), .val (.int (4 : Int32)), .val (.ref pR3), .val (.ref pR5), .unset] [(.int (4 : Int32))] _
    refine XS.iconst X6.here hx rfl (hb hby at_56) ?_
    show oS p e below T6 m 57 #[.val (.int pI1), .val (.int pI2), .val (.int (0 : Int32)), .val (.int (4 : Int32)), .val (.ref pR3), .val (.ref pR5), .unset] [(.int (2 : Int32)), (.int (4 : Int32))] _
    refine XS.icmpYes X6.here hx rfl (pc0 := 57) (pc' := 65) rfl (hb hby at_57) rfl (feq (by decide : ¬ ((4 : Int32) = (2 : Int32)))).2 (by decide) (by decide) ?_
    show oS p e below T6 m 65 #[.val (.int pI1), .val (.int pI2), .val (.int (0 : Int32)), .val (.int (4 : Int32)), .val (.ref pR3), .val (.ref pR5), .unset] [] _
    refine XS.iloadN X6.here hx rfl (hb hby at_65) rfl ?_
    show oS p e below T6 m 66 #[.val (.int pI1), .val (.int pI2), .val (.int (0 : Int32)), .val (.int (4 : Int32)), .val (.ref pR3), .val (.ref pR5), .unset] [(.int (4 : Int32))] _
    refine XS.iconst X6.here hx rfl (hb hby at_66) ?_
    show oS p e below T6 m 67 #[.val (.int pI1), .val (.int pI2), .val (.int (0 : Int32)), .val (.int (4 : Int32)), .val (.ref pR3), .val (.ref pR5), .unset] [(.int (3 : Int32)), (.int (4 : Int32))] _
    refine XS.icmpYes X6.here hx rfl (pc0 := 67) (pc' := 75) rfl (hb hby at_67) rfl (feq (by decide : ¬ ((4 : Int32) = (3 : Int32)))).2 (by decide) (by decide) ?_
    show oS p e below T6 m 75 #[.val (.int pI1), .val (.int pI2), .val (.int (0 : Int32)), .val (.int (4 : Int32)), .val (.ref pR3), .val (.ref pR5), .unset] [] _
    refine XS.iloadN X6.here hx rfl (hb hby at_75) rfl ?_
    show oS p e below T6 m 76 #[.val (.int pI1), .val (.int pI2), .val (.int (0 : Int32)), .val (.int (4 : Int32)), .val (.ref pR3), .val (.ref pR5), .unset] [(.int (4 : Int32))] _
    refine XS.iconst X6.here hx rfl (hb hby at_76) ?_
    show oS p e below T6 m 77 #[.val (.int pI1), .val (.int pI2), .val (.int (0 : Int32)), .val (.int (4 : Int32)), .val (.ref pR3), .val (.ref pR5), .unset] [(.int (4 : Int32)), (.int (4 : Int32))] _
    refine XS.icmpNo X6.here hx rfl (hb hby at_77) rfl (teq (by decide : (4 : Int32) = (4 : Int32))).2 ?_
    show oS p e below T6 m 80 #[.val (.int pI1), .val (.int pI2), .val (.int (0 : Int32)), .val (.int (4 : Int32)), .val (.ref pR3), .val (.ref pR5), .unset] [] _
    refine XS.iloadN X6.here hx rfl (hb hby at_80) rfl ?_
    show oS p e below T6 m 81 #[.val (.int pI1), .val (.int pI2), .val (.int (0 : Int32)), .val (.int (4 : Int32)), .val (.ref pR3), .val (.ref pR5), .unset] [(.int (0 : Int32))] _
    refine XS.iconst X6.here hx rfl (hb hby at_81) ?_
    show oS p e below T6 m 82 #[.val (.int pI1), .val (.int pI2), .val (.int (0 : Int32)), .val (.int (4 : Int32)), .val (.ref pR3), .val (.ref pR5), .unset] [(.int (3 : Int32)), (.int (0 : Int32))] _
    refine XS.icmpNo X6.here hx rfl (hb hby at_82) rfl (feq (by decide : ¬ ((0 : Int32) = (3 : Int32)))).1 ?_
    show oS p e below T6 m 85 #[.val (.int pI1), .val (.int pI2), .val (.int (0 : Int32)), .val (.int (4 : Int32)), .val (.ref pR3), .val (.ref pR5), .unset] [] _
    refine XS.iloadN X6.here hx rfl (hb hby at_85) rfl ?_
    show oS p e below T6 m 86 #[.val (.int pI1), .val (.int pI2), .val (.int (0 : Int32)), .val (.int (4 : Int32)), .val (.ref pR3), .val (.ref pR5), .unset] [(.int (4 : Int32))] _
    refine XS.iconst X6.here hx rfl (hb hby at_86) ?_
    show oS p e below T6 m 87 #[.val (.int pI1), .val (.int pI2), .val (.int (0 : Int32)), .val (.int (4 : Int32)), .val (.ref pR3), .val (.ref pR5), .unset] [(.int (3 : Int32)), (.int (4 : Int32))] _
    refine XS.icmpYes X6.here hx rfl (pc0 := 87) (pc' := 99) rfl (hb hby at_87) rfl (feq (by decide : ¬ ((4 : Int32) = (3 : Int32)))).2 (by decide) (by decide) ?_
    show oS p e below T6 m 99 #[.val (.int pI1), .val (.int pI2), .val (.int (0 : Int32)), .val (.int (4 : Int32)), .val (.ref pR3), .val (.ref pR5), .unset] [] _
    refine XS.iconst X6.here hx rfl (hb hby at_99) ?_
    show oS p e below T6 m 100 #[.val (.int pI1), .val (.int pI2), .val (.int (0 : Int32)), .val (.int (4 : Int32)), .val (.ref pR3), .val (.ref pR5), .unset] [(.int (0 : Int32))] _
    refine XS.istore X6.here hx rfl (hb hby at_100) rfl (l' := #[.val (.int pI1), .val (.int pI2), .val (.int (0 : Int32)), .val (.int (4 : Int32)), .val (.ref pR3), .val (.ref pR5), .val (.int (0 : Int32))]) rfl ?_
    show oS p e below T6 m 102 #[.val (.int pI1), .val (.int pI2), .val (.int (0 : Int32)), .val (.int (4 : Int32)), .val (.ref pR3), .val (.ref pR5), .val (.int (0 : Int32))] [] _
    refine XS.aload X6.here hx rfl (hb hby at_102) rfl rfl ?_
    show oS p e below T6 m 104 #[.val (.int pI1), .val (.int pI2), .val (.int (0 : Int32)), .val (.int (4 : Int32)), .val (.ref pR3), .val (.ref pR5), .val (.int (0 : Int32))] [(.ref pR3)] _
    refine XS.aload X6.here hx rfl (hb hby at_104) rfl rfl ?_
    show oS p e below T6 m 106 #[.val (.int pI1), .val (.int pI2), .val (.int (0 : Int32)), .val (.int (4 : Int32)), .val (.ref pR3), .val (.ref pR5), .val (.int (0 : Int32))] [(.ref pR5), (.ref pR3)] _
    refine st7.trans ?_
    show oS p e below T7 m 109 #[.val (.int pI1), .val (.int pI2), .val (.int (0 : Int32)), .val (.int (4 : Int32)), .val (.ref pR3), .val (.ref pR5), .val (.int (0 : Int32))] [(.int (0 : Int32))] _
    refine XS.iload X7.here hx rfl (hb hby at_109) rfl ?_
    show oS p e below T7 m 111 #[.val (.int pI1), .val (.int pI2), .val (.int (0 : Int32)), .val (.int (4 : Int32)), .val (.ref pR3), .val (.ref pR5), .val (.int (0 : Int32))] [(.int (0 : Int32)), (.int (0 : Int32))] _
    refine XS.icmpNo X7.here hx rfl (hb hby at_111) rfl (teq (by decide : (0 : Int32) = (0 : Int32))).2 ?_
    show oS p e below T7 m 114 #[.val (.int pI1), .val (.int pI2), .val (.int (0 : Int32)), .val (.int (4 : Int32)), .val (.ref pR3), .val (.ref pR5), .val (.int (0 : Int32))] [] _
    refine XS.iconst X7.here hx rfl (hb hby at_114) ?_
    show oS p e below T7 m 115 #[.val (.int pI1), .val (.int pI2), .val (.int (0 : Int32)), .val (.int (4 : Int32)), .val (.ref pR3), .val (.ref pR5), .val (.int (0 : Int32))] [(.int (1 : Int32))] _
    refine XS.goto X7.here hx rfl (pc0 := 115) (pc' := 119) rfl (hb hby at_115) (by decide) (by decide) ?_
    show oS p e below T7 m 119 #[.val (.int pI1), .val (.int pI2), .val (.int (0 : Int32)), .val (.int (4 : Int32)), .val (.ref pR3), .val (.ref pR5), .val (.int (0 : Int32))] [(.int (1 : Int32))] _
    exact retN X7 hx (t := .boolean) Bd.returns (by simp) (hb hby at_119) hr
  · show Qlaw0_4 Z pI1 pI2 pR3 pR5 h0 n0 _ T7.heap _
    rw [e7]
    exact ⟨rfl, N7⟩
theorem ef_law1_0 (m : MethodId) (pI1 : Int32) (pI2 : Int32) : entryFrame m #[(.int pI1), (.int pI2)] maxLocals = mkF m 0 #[.val (.int pI1), .val (.int pI2), .unset, .unset, .unset, .unset, .unset] [] := by first | (simp [entryFrame, mkF, argsToLocals, Value.category, maxLocals]; done) | rfl
def Qlaw1_0 (Z : State) (pI1 : Int32) (pI2 : Int32) (pR3 : Addr) (pR5 : Addr) (h0 : Heap) (n0 : Nat) (v : Option Value) (h : Heap) (L : List Loc) : Prop := v = some (.int (1 : Int32)) ∧ Fr n0 L
set_option maxRecDepth 65536 in
set_option maxHeartbeats 40000000 in
theorem law1_0 (l : Launch) (Z : State) (a0 : Array Value) (hw : ∀ d ∈ tables_1, d.before a0 Z = true) (ws : List Jvm.Cond) (pI1 : Int32) (pI2 : Int32) (pR3 : Addr) (pR5 : Addr) (h0 : Heap) (n0 : Nat) (Z0 : n0 ≤ h0.size) (S_OrderSegment_RXA : Sta Z h0 "com/example/vaxwire/vaxwire/reply/OrderSegment" "RXA" "Lcom/example/vaxwire/vaxwire/reply/OrderSegment;" (.ref pR3)) (S_OrderSegment_ORC : Sta Z h0 "com/example/vaxwire/vaxwire/reply/OrderSegment" "ORC" "Lcom/example/vaxwire/vaxwire/reply/OrderSegment;" (.ref pR5)) (F_ordinal_pR3 : Fld Z h0 pR3 "java/lang/Enum" "ordinal" "I" (.int (1 : Int32))) (E_pR3 : Exa Z h0 pR3 "com/example/vaxwire/vaxwire/reply/OrderSegment") (hc5 : ((pI1 &&& (2147483647 : Int32)) % (5 : Int32)) = (1 : Int32)) (hc12 : ((pI2 &&& (2147483647 : Int32)) % (5 : Int32)) = (0 : Int32)) :
    MetFree l x (head1 (Jvm.Cond.code x code maxLocals ret :: ws) room_1) (fun a U => a = #[(.int pI1), (.int pI2)] ∧ Z.Warmed39 U.vm ∧ U.heap = h0) (fun _ _ _ _ _ => True) (fun _ U o U' => ∃ v L, o = .returned v ∧ Qlaw1_0 Z pI1 pI2 pR3 pR5 h0 n0 v U'.heap L ∧ FrameEnd U o U' L room_1.cells room_1.slots) := by
  refine MetFree.of_bodySF (plainFor_of_name pn_0) hisR ?_
  intro p e s m args below meth c s₁ Bd hml0 hP hK
  obtain ⟨rfl, hZ, hh⟩ := hP
  have hx := Bd.exec
  have hby := Bd.bytes
  have hml : c.maxLocals = 7 := hml0
  have hown : s.vm.findClass "com/example/vaxwire/vaxwire/reply/OrderSegmentMayFollowPinLaw" = some m.cls := findClass_of_methodNamed Bd.named
  have hnm := (name_of_methodNamed Bd.named Bd.method).1
  have X0 : Stand p l e room_1 s m #[(.int pI1), (.int pI2)] below meth c s₁ [] 0 0 := Stand.of_body Bd
  have e0 : s₁.heap = h0 := by rw [← hh, Bd.state]; rfl
  have N0 := Fr.nil n0
  have pre0 : ∀ t, Steps p.tables e below (s₁.setTop (mkF m 0 #[.val (.int pI1), .val (.int pI2), .unset, .unset, .unset, .unset, .unset] [])) t → Steps p.tables e below (s₁.setTop (entryFrame m #[(.int pI1), (.int pI2)] maxLocals)) t := fun t k => castTop (ef_law1_0 m pI1 pI2) k
  obtain ⟨_, _, ⟨T4, L4, k4, n4⟩, -, X4, ⟨Lc4, hQ4, l4, y4, z4⟩, st4⟩ := Jvm.LawKit.callS X0 hx (y := yN0) hown (mvT hZ (ow hw 1 rfl)) (mvT hZ (ow hw 2 rfl)) (mvT hZ (ow hw 3 rfl)) (mvT hZ (ow hw 4 rfl)) (by decide) (backOf (W := 0) (pick1 l Z a0 hw [] pR3 h0 n0 Z0 S_OrderSegment_RXA) hZ (ow hw 4 rfl) (ow hw 3 rfl) (by decide) (by decide)) (g := (mkF m 15 #[.val (.int pI1), .val (.int pI2), .val (.int (1 : Int32)), .val (.int (0 : Int32)), .unset, .unset, .unset] [(.int (1 : Int32))])) rfl (by rw [hml]; rfl) (argsL := [(.int (1 : Int32))]) (rest := []) (lenOf pd_1 rfl) rfl (by show 2 * 0 + _ ≤ _; exact Nat.le_of_eq rfl) (hb hby at_15) (fun _ _ => ⟨rfl, e0, (by decide : 0 + 0 ≤ _), (by decide : 0 + 0 ≤ _)⟩)
  dsimp only [Pt.U, Pt.locs, Pt.cells, Pt.slots] at X4 l4 y4 z4 st4 hQ4
  subst l4 y4 z4
  obtain ⟨rfl, Nq4, e4⟩ := hQ4
  have N4 := Fr.app N0 Nq4
  obtain ⟨_, _, ⟨T6, L6, k6, n6⟩, -, X6, ⟨Lc6, hQ6, l6, y6, z6⟩, st6⟩ := Jvm.LawKit.callS X4 hx (y := yN0) hown (mvT hZ (ow hw 1 rfl)) (mvT hZ (ow hw 2 rfl)) (mvT hZ (ow hw 3 rfl)) (mvT hZ (ow hw 4 rfl)) (by decide) (backOf (W := 0) (pick0 l Z a0 hw [] pR5 h0 n0 Z0 S_OrderSegment_ORC) hZ (ow hw 4 rfl) (ow hw 3 rfl) (by decide) (by decide)) (g := (mkF m 21 #[.val (.int pI1), .val (.int pI2), .val (.int (1 : Int32)), .val (.int (0 : Int32)), .val (.ref pR3), .unset, .unset] [(.int (0 : Int32))])) rfl (by rw [hml]; rfl) (argsL := [(.int (0 : Int32))]) (rest := []) (lenOf pd_1 rfl) rfl (by show 2 * 0 + _ ≤ _; exact Nat.le_of_eq rfl) (hb hby at_21) (fun _ _ => ⟨rfl, e4, (by decide : 0 + 0 ≤ _), (by decide : 0 + 0 ≤ _)⟩)
  dsimp only [Pt.U, Pt.locs, Pt.cells, Pt.slots] at X6 l6 y6 z6 st6 hQ6
  subst l6 y6 z6
  obtain ⟨rfl, Nq6, e6⟩ := hQ6
  have N6 := Fr.app N4 Nq6
  obtain ⟨cq7, kq7, q7a, q7b, q7c⟩ := isOf hZ e6 E_pR3
  obtain ⟨_, _, ⟨T7, L7, k7, n7⟩, -, X7, ⟨Lc7, hQ7, l7, y7, z7⟩, st7⟩ := X6.virtualBack hx (y := yN3) (z := yN3) hown (mvT hZ (ow hw 10 rfl)) (mvT hZ (ow hw 11 rfl)) (notFace_of_selects (args := #[]) (mvT hZ (ow hw 13 rfl))) (mvT hZ (ow hw 13 rfl)) (mvT hZ (ow hw 12 rfl)) (by decide) (backOf (W := 0) (mf1s l Z a0 hw [] pR3 pR5 pR5 h0 n0 Z0 F_ordinal_pR3 E_pR3 S_OrderSegment_ORC rfl) hZ (ow hw 14 rfl) (ow hw 6 rfl) (by decide) (by decide)) q7a q7c (g := (mkF m 106 #[.val (.int pI1), .val (.int pI2), .val (.int (1 : Int32)), .val (.int (0 : Int32)), .val (.ref pR3), .val (.ref pR5), .val (.int (1 : Int32))] [(.ref pR5), (.ref pR3)])) rfl (by rw [hml]; rfl) (Steps.refl _) (argsL := [(.ref pR5)]) (rest := []) (lenOf pd_2 rfl) rfl (by show 2 * 0 + _ ≤ _; exact Nat.le_of_eq rfl) (hb hby at_106) (fun _ _ => ⟨rfl, e6, (by decide : 0 + 0 ≤ _), (by decide : 0 + 0 ≤ _)⟩)
  dsimp only [Pt.U, Pt.locs, Pt.cells, Pt.slots] at X7 l7 y7 z7 st7 hQ7
  subst l7 y7 z7
  obtain ⟨rfl, Nq7, e7⟩ := hQ7
  have N7 := Fr.app N6 Nq7
  obtain ⟨fs, hr, hrun, hended, hW, hsame⟩ := X7.leave (v := some (.int (1 : Int32))) (fun h => by rw [Bd.returns] at h; cases h)
  refine ⟨_, _, pre0 _ ?_, hrun, hended, _, _, rfl, ?_, ⟨_, rfl⟩, hW, hsame.mono (by decide) (by decide)⟩
  · show oS p e below s₁ m 0 #[.val (.int pI1), .val (.int pI2), .unset, .unset, .unset, .unset, .unset] [] _
    refine XS.iloadN X0.here hx rfl (hb hby at_0) rfl ?_
    show oS p e below s₁ m 1 #[.val (.int pI1), .val (.int pI2), .unset, .unset, .unset, .unset, .unset] [(.int pI1)] _
    refine X0.ldcInt hx hown (mvT hZ (ow hw 0 rfl)) (g := (mkF m 1 #[.val (.int pI1), .val (.int pI2), .unset, .unset, .unset, .unset, .unset] [(.int pI1)])) rfl (hb hby at_1) _ ?_
    show oS p e below s₁ m 3 #[.val (.int pI1), .val (.int pI2), .unset, .unset, .unset, .unset, .unset] [(.int (2147483647 : Int32)), (.int pI1)] _
    refine XS.iand X0.here hx rfl (hb hby at_3) rfl ?_
    show oS p e below s₁ m 4 #[.val (.int pI1), .val (.int pI2), .unset, .unset, .unset, .unset, .unset] [(.int (pI1 &&& (2147483647 : Int32)))] _
    refine XS.iconst X0.here hx rfl (hb hby at_4) ?_
    show oS p e below s₁ m 5 #[.val (.int pI1), .val (.int pI2), .unset, .unset, .unset, .unset, .unset] [(.int (5 : Int32)), (.int (pI1 &&& (2147483647 : Int32)))] _
    refine iremM (g := (mkF m 5 #[.val (.int pI1), .val (.int pI2), .unset, .unset, .unset, .unset, .unset] [(.int (5 : Int32)), (.int (pI1 &&& (2147483647 : Int32)))])) X0 hx rfl (hb hby at_5) rfl (by decide) ?_
    show Steps p.tables e below (s₁.setTop (mkF m 6 #[.val (.int pI1), .val (.int pI2), .unset, .unset, .unset, .unset, .unset] [(.int ((pI1 &&& (2147483647 : Int32)) % (5 : Int32)))])) _
    rw [hc5]
    show oS p e below s₁ m 6 #[.val (.int pI1), .val (.int pI2), .unset, .unset, .unset, .unset, .unset] [(.int (1 : Int32))] _
    refine XS.istoreN X0.here hx rfl (hb hby at_6) rfl (l' := #[.val (.int pI1), .val (.int pI2), .val (.int (1 : Int32)), .unset, .unset, .unset, .unset]) rfl ?_
    show oS p e below s₁ m 7 #[.val (.int pI1), .val (.int pI2), .val (.int (1 : Int32)), .unset, .unset, .unset, .unset] [] _
    refine XS.iloadN X0.here hx rfl (hb hby at_7) rfl ?_
    show oS p e below s₁ m 8 #[.val (.int pI1), .val (.int pI2), .val (.int (1 : Int32)), .unset, .unset, .unset, .unset] [(.int pI2)] _
    refine X0.ldcInt hx hown (mvT hZ (ow hw 0 rfl)) (g := (mkF m 8 #[.val (.int pI1), .val (.int pI2), .val (.int (1 : Int32)), .unset, .unset, .unset, .unset] [(.int pI2)])) rfl (hb hby at_8) _ ?_
    show oS p e below s₁ m 10 #[.val (.int pI1), .val (.int pI2), .val (.int (1 : Int32)), .unset, .unset, .unset, .unset] [(.int (2147483647 : Int32)), (.int pI2)] _
    refine XS.iand X0.here hx rfl (hb hby at_10) rfl ?_
    show oS p e below s₁ m 11 #[.val (.int pI1), .val (.int pI2), .val (.int (1 : Int32)), .unset, .unset, .unset, .unset] [(.int (pI2 &&& (2147483647 : Int32)))] _
    refine XS.iconst X0.here hx rfl (hb hby at_11) ?_
    show oS p e below s₁ m 12 #[.val (.int pI1), .val (.int pI2), .val (.int (1 : Int32)), .unset, .unset, .unset, .unset] [(.int (5 : Int32)), (.int (pI2 &&& (2147483647 : Int32)))] _
    refine iremM (g := (mkF m 12 #[.val (.int pI1), .val (.int pI2), .val (.int (1 : Int32)), .unset, .unset, .unset, .unset] [(.int (5 : Int32)), (.int (pI2 &&& (2147483647 : Int32)))])) X0 hx rfl (hb hby at_12) rfl (by decide) ?_
    show Steps p.tables e below (s₁.setTop (mkF m 13 #[.val (.int pI1), .val (.int pI2), .val (.int (1 : Int32)), .unset, .unset, .unset, .unset] [(.int ((pI2 &&& (2147483647 : Int32)) % (5 : Int32)))])) _
    rw [hc12]
    show oS p e below s₁ m 13 #[.val (.int pI1), .val (.int pI2), .val (.int (1 : Int32)), .unset, .unset, .unset, .unset] [(.int (0 : Int32))] _
    refine XS.istoreN X0.here hx rfl (hb hby at_13) rfl (l' := #[.val (.int pI1), .val (.int pI2), .val (.int (1 : Int32)), .val (.int (0 : Int32)), .unset, .unset, .unset]) rfl ?_
    show oS p e below s₁ m 14 #[.val (.int pI1), .val (.int pI2), .val (.int (1 : Int32)), .val (.int (0 : Int32)), .unset, .unset, .unset] [] _
    refine XS.iloadN X0.here hx rfl (hb hby at_14) rfl ?_
    show oS p e below s₁ m 15 #[.val (.int pI1), .val (.int pI2), .val (.int (1 : Int32)), .val (.int (0 : Int32)), .unset, .unset, .unset] [(.int (1 : Int32))] _
    refine st4 _ ?_
    show oS p e below T4 m 18 #[.val (.int pI1), .val (.int pI2), .val (.int (1 : Int32)), .val (.int (0 : Int32)), .unset, .unset, .unset] [(.ref pR3)] _
    refine XS.astore X4.here hx rfl (hb hby at_18) rfl rfl (l' := #[.val (.int pI1), .val (.int pI2), .val (.int (1 : Int32)), .val (.int (0 : Int32)), .val (.ref pR3), .unset, .unset]) rfl ?_
    show oS p e below T4 m 20 #[.val (.int pI1), .val (.int pI2), .val (.int (1 : Int32)), .val (.int (0 : Int32)), .val (.ref pR3), .unset, .unset] [] _
    refine XS.iloadN X4.here hx rfl (hb hby at_20) rfl ?_
    show oS p e below T4 m 21 #[.val (.int pI1), .val (.int pI2), .val (.int (1 : Int32)), .val (.int (0 : Int32)), .val (.ref pR3), .unset, .unset] [(.int (0 : Int32))] _
    refine st6 _ ?_
    show oS p e below T6 m 24 #[.val (.int pI1), .val (.int pI2), .val (.int (1 : Int32)), .val (.int (0 : Int32)), .val (.ref pR3), .unset, .unset] [(.ref pR5)] _
    refine XS.astore X6.here hx rfl (hb hby at_24) rfl rfl (l' := #[.val (.int pI1), .val (.int pI2), .val (.int (1 : Int32)), .val (.int (0 : Int32)), .val (.ref pR3), .val (.ref pR5), .unset]) rfl ?_
    show oS p e below T6 m 26 #[.val (.int pI1), .val (.int pI2), .val (.int (1 : Int32)), .val (.int (0 : Int32)), .val (.ref pR3), .val (.ref pR5), .unset] [] _
    refine XS.iloadN X6.here hx rfl (hb hby at_26) rfl ?_
    show oS p e below T6 m 27 #[.val (.int pI1), .val (.int pI2), .val (.int (1 : Int32)), .val (.int (0 : Int32)), .val (.ref pR3), .val (.ref pR5), .unset] [(.int (0 : Int32))] _
    refine XS.ifNo X6.here hx rfl (hb hby at_27) rfl ((if0 _ _).trans (teq (by decide : (0 : Int32) = (0 : Int32))).2) ?_
    show oS p e below T6 m 30 #[.val (.int pI1), .val (.int pI2), .val (.int (1 : Int32)), .val (.int (0 : Int32)), .val (.ref pR3), .val (.ref pR5), .unset] [] _
    refine XS.iloadN X6.here hx rfl (hb hby at_30) rfl ?_
    show oS p e below T6 m 31 #[.val (.int pI1), .val (.int pI2), .val (.int (1 : Int32)), .val (.int (0 : Int32)), .val (.ref pR3), .val (.ref pR5), .unset] [(.int (1 : Int32))] _
    refine XS.iconst X6.here hx rfl (hb hby at_31) ?_
    show oS p e below T6 m 32 #[.val (.int pI1), .val (.int pI2), .val (.int (1 : Int32)), .val (.int (0 : Int32)), .val (.ref pR3), .val (.ref pR5), .unset] [(.int (1 : Int32)), (.int (1 : Int32))] _
    refine XS.icmpYes X6.here hx rfl (pc0 := 32) (pc' := 95) rfl (hb hby at_32) rfl (teq (by decide : (1 : Int32) = (1 : Int32))).1 (by decide) (by decide) ?_
    show oS p e below T6 m 95 #[.val (.int pI1), .val (.int pI2), .val (.int (1 : Int32)), .val (.int (0 : Int32)), .val (.ref pR3), .val (.ref pR5), .unset] [] _
    refine XS.iconst X6.here hx rfl (hb hby at_95) ?_
    show oS p e below T6 m 96 #[.val (.int pI1), .val (.int pI2), .val (.int (1 : Int32)), .val (.int (0 : Int32)), .val (.ref pR3), .val (.ref pR5), .unset] [(.int (1 : Int32))] _
    refine XS.goto X6.here hx rfl (pc0 := 96) (pc' := 100) rfl (hb hby at_96) (by decide) (by decide) ?_
    show oS p e below T6 m 100 #[.val (.int pI1), .val (.int pI2), .val (.int (1 : Int32)), .val (.int (0 : Int32)), .val (.ref pR3), .val (.ref pR5), .unset] [(.int (1 : Int32))] _
    refine XS.istore X6.here hx rfl (hb hby at_100) rfl (l' := #[.val (.int pI1), .val (.int pI2), .val (.int (1 : Int32)), .val (.int (0 : Int32)), .val (.ref pR3), .val (.ref pR5), .val (.int (1 : Int32))]) rfl ?_
    show oS p e below T6 m 102 #[.val (.int pI1), .val (.int pI2), .val (.int (1 : Int32)), .val (.int (0 : Int32)), .val (.ref pR3), .val (.ref pR5), .val (.int (1 : Int32))] [] _
    refine XS.aload X6.here hx rfl (hb hby at_102) rfl rfl ?_
    show oS p e below T6 m 104 #[.val (.int pI1), .val (.int pI2), .val (.int (1 : Int32)), .val (.int (0 : Int32)), .val (.ref pR3), .val (.ref pR5), .val (.int (1 : Int32))] [(.ref pR3)] _
    refine XS.aload X6.here hx rfl (hb hby at_104) rfl rfl ?_
    show oS p e below T6 m 106 #[.val (.int pI1), .val (.int pI2), .val (.int (1 : Int32)), .val (.int (0 : Int32)), .val (.ref pR3), .val (.ref pR5), .val (.int (1 : Int32))] [(.ref pR5), (.ref pR3)] _
    refine st7.trans ?_
    show oS p e below T7 m 109 #[.val (.int pI1), .val (.int pI2), .val (.int (1 : Int32)), .val (.int (0 : Int32)), .val (.ref pR3), .val (.ref pR5), .val (.int (1 : Int32))] [(.int (1 : Int32))] _
    refine XS.iload X7.here hx rfl (hb hby at_109) rfl ?_
    show oS p e below T7 m 111 #[.val (.int pI1), .val (.int pI2), .val (.int (1 : Int32)), .val (.int (0 : Int32)), .val (.ref pR3), .val (.ref pR5), .val (.int (1 : Int32))] [(.int (1 : Int32)), (.int (1 : Int32))] _
    refine XS.icmpNo X7.here hx rfl (hb hby at_111) rfl (teq (by decide : (1 : Int32) = (1 : Int32))).2 ?_
    show oS p e below T7 m 114 #[.val (.int pI1), .val (.int pI2), .val (.int (1 : Int32)), .val (.int (0 : Int32)), .val (.ref pR3), .val (.ref pR5), .val (.int (1 : Int32))] [] _
    refine XS.iconst X7.here hx rfl (hb hby at_114) ?_
    show oS p e below T7 m 115 #[.val (.int pI1), .val (.int pI2), .val (.int (1 : Int32)), .val (.int (0 : Int32)), .val (.ref pR3), .val (.ref pR5), .val (.int (1 : Int32))] [(.int (1 : Int32))] _
    refine XS.goto X7.here hx rfl (pc0 := 115) (pc' := 119) rfl (hb hby at_115) (by decide) (by decide) ?_
    show oS p e below T7 m 119 #[.val (.int pI1), .val (.int pI2), .val (.int (1 : Int32)), .val (.int (0 : Int32)), .val (.ref pR3), .val (.ref pR5), .val (.int (1 : Int32))] [(.int (1 : Int32))] _
    exact retN X7 hx (t := .boolean) Bd.returns (by simp) (hb hby at_119) hr
  · show Qlaw1_0 Z pI1 pI2 pR3 pR5 h0 n0 _ T7.heap _
    rw [e7]
    exact ⟨rfl, N7⟩
theorem ef_law1_1 (m : MethodId) (pI1 : Int32) (pI2 : Int32) : entryFrame m #[(.int pI1), (.int pI2)] maxLocals = mkF m 0 #[.val (.int pI1), .val (.int pI2), .unset, .unset, .unset, .unset, .unset] [] := by first | (simp [entryFrame, mkF, argsToLocals, Value.category, maxLocals]; done) | rfl
def Qlaw1_1 (Z : State) (pI1 : Int32) (pI2 : Int32) (pR3 : Addr) (pR6 : Addr) (h0 : Heap) (n0 : Nat) (v : Option Value) (h : Heap) (L : List Loc) : Prop := v = some (.int (1 : Int32)) ∧ Fr n0 L
set_option maxRecDepth 65536 in
set_option maxHeartbeats 40000000 in
theorem law1_1 (l : Launch) (Z : State) (a0 : Array Value) (hw : ∀ d ∈ tables_1, d.before a0 Z = true) (ws : List Jvm.Cond) (pI1 : Int32) (pI2 : Int32) (pR3 : Addr) (pR6 : Addr) (h0 : Heap) (n0 : Nat) (Z0 : n0 ≤ h0.size) (S_OrderSegment_RXA : Sta Z h0 "com/example/vaxwire/vaxwire/reply/OrderSegment" "RXA" "Lcom/example/vaxwire/vaxwire/reply/OrderSegment;" (.ref pR3)) (F_ordinal_pR3 : Fld Z h0 pR3 "java/lang/Enum" "ordinal" "I" (.int (1 : Int32))) (E_pR3 : Exa Z h0 pR3 "com/example/vaxwire/vaxwire/reply/OrderSegment") (S_OrderSegment_ORC : Sta Z h0 "com/example/vaxwire/vaxwire/reply/OrderSegment" "ORC" "Lcom/example/vaxwire/vaxwire/reply/OrderSegment;" (.ref pR6)) (ne_pR3_pR6 : pR3 ≠ pR6) (hc5 : ((pI1 &&& (2147483647 : Int32)) % (5 : Int32)) = (1 : Int32)) (hc12 : ((pI2 &&& (2147483647 : Int32)) % (5 : Int32)) = (1 : Int32)) :
    MetFree l x (head1 (Jvm.Cond.code x code maxLocals ret :: ws) room_1) (fun a U => a = #[(.int pI1), (.int pI2)] ∧ Z.Warmed39 U.vm ∧ U.heap = h0) (fun _ _ _ _ _ => True) (fun _ U o U' => ∃ v L, o = .returned v ∧ Qlaw1_1 Z pI1 pI2 pR3 pR6 h0 n0 v U'.heap L ∧ FrameEnd U o U' L room_1.cells room_1.slots) := by
  refine MetFree.of_bodySF (plainFor_of_name pn_0) hisR ?_
  intro p e s m args below meth c s₁ Bd hml0 hP hK
  obtain ⟨rfl, hZ, hh⟩ := hP
  have hx := Bd.exec
  have hby := Bd.bytes
  have hml : c.maxLocals = 7 := hml0
  have hown : s.vm.findClass "com/example/vaxwire/vaxwire/reply/OrderSegmentMayFollowPinLaw" = some m.cls := findClass_of_methodNamed Bd.named
  have hnm := (name_of_methodNamed Bd.named Bd.method).1
  have X0 : Stand p l e room_1 s m #[(.int pI1), (.int pI2)] below meth c s₁ [] 0 0 := Stand.of_body Bd
  have e0 : s₁.heap = h0 := by rw [← hh, Bd.state]; rfl
  have N0 := Fr.nil n0
  have pre0 : ∀ t, Steps p.tables e below (s₁.setTop (mkF m 0 #[.val (.int pI1), .val (.int pI2), .unset, .unset, .unset, .unset, .unset] [])) t → Steps p.tables e below (s₁.setTop (entryFrame m #[(.int pI1), (.int pI2)] maxLocals)) t := fun t k => castTop (ef_law1_1 m pI1 pI2) k
  obtain ⟨_, _, ⟨T4, L4, k4, n4⟩, -, X4, ⟨Lc4, hQ4, l4, y4, z4⟩, st4⟩ := Jvm.LawKit.callS X0 hx (y := yN0) hown (mvT hZ (ow hw 1 rfl)) (mvT hZ (ow hw 2 rfl)) (mvT hZ (ow hw 3 rfl)) (mvT hZ (ow hw 4 rfl)) (by decide) (backOf (W := 0) (pick1 l Z a0 hw [] pR3 h0 n0 Z0 S_OrderSegment_RXA) hZ (ow hw 4 rfl) (ow hw 3 rfl) (by decide) (by decide)) (g := (mkF m 15 #[.val (.int pI1), .val (.int pI2), .val (.int (1 : Int32)), .val (.int (1 : Int32)), .unset, .unset, .unset] [(.int (1 : Int32))])) rfl (by rw [hml]; rfl) (argsL := [(.int (1 : Int32))]) (rest := []) (lenOf pd_1 rfl) rfl (by show 2 * 0 + _ ≤ _; exact Nat.le_of_eq rfl) (hb hby at_15) (fun _ _ => ⟨rfl, e0, (by decide : 0 + 0 ≤ _), (by decide : 0 + 0 ≤ _)⟩)
  dsimp only [Pt.U, Pt.locs, Pt.cells, Pt.slots] at X4 l4 y4 z4 st4 hQ4
  subst l4 y4 z4
  obtain ⟨rfl, Nq4, e4⟩ := hQ4
  have N4 := Fr.app N0 Nq4
  obtain ⟨_, _, ⟨T5, L5, k5, n5⟩, -, X5, ⟨Lc5, hQ5, l5, y5, z5⟩, st5⟩ := Jvm.LawKit.callS X4 hx (y := yN0) hown (mvT hZ (ow hw 1 rfl)) (mvT hZ (ow hw 2 rfl)) (mvT hZ (ow hw 3 rfl)) (mvT hZ (ow hw 4 rfl)) (by decide) (backOf (W := 0) (pick1 l Z a0 hw [] pR3 h0 n0 Z0 S_OrderSegment_RXA) hZ (ow hw 4 rfl) (ow hw 3 rfl) (by decide) (by decide)) (g := (mkF m 21 #[.val (.int pI1), .val (.int pI2), .val (.int (1 : Int32)), .val (.int (1 : Int32)), .val (.ref pR3), .unset, .unset] [(.int (1 : Int32))])) rfl (by rw [hml]; rfl) (argsL := [(.int (1 : Int32))]) (rest := []) (lenOf pd_1 rfl) rfl (by show 2 * 0 + _ ≤ _; exact Nat.le_of_eq rfl) (hb hby at_21) (fun _ _ => ⟨rfl, e4, (by decide : 0 + 0 ≤ _), (by decide : 0 + 0 ≤ _)⟩)
  dsimp only [Pt.U, Pt.locs, Pt.cells, Pt.slots] at X5 l5 y5 z5 st5 hQ5
  subst l5 y5 z5
  obtain ⟨rfl, Nq5, e5⟩ := hQ5
  have N5 := Fr.app N4 Nq5
  obtain ⟨cq7, kq7, q7a, q7b, q7c⟩ := isOf hZ e5 E_pR3
  obtain ⟨_, _, ⟨T7, L7, k7, n7⟩, -, X7, ⟨Lc7, hQ7, l7, y7, z7⟩, st7⟩ := X5.virtualBack hx (y := yN3) (z := yN3) hown (mvT hZ (ow hw 10 rfl)) (mvT hZ (ow hw 11 rfl)) (notFace_of_selects (args := #[]) (mvT hZ (ow hw 13 rfl))) (mvT hZ (ow hw 13 rfl)) (mvT hZ (ow hw 12 rfl)) (by decide) (backOf (W := 0) (mf1d l Z a0 hw [] pR3 pR3 pR6 h0 n0 Z0 F_ordinal_pR3 E_pR3 S_OrderSegment_ORC ne_pR3_pR6) hZ (ow hw 14 rfl) (ow hw 6 rfl) (by decide) (by decide)) q7a q7c (g := (mkF m 106 #[.val (.int pI1), .val (.int pI2), .val (.int (1 : Int32)), .val (.int (1 : Int32)), .val (.ref pR3), .val (.ref pR3), .val (.int (0 : Int32))] [(.ref pR3), (.ref pR3)])) rfl (by rw [hml]; rfl) (Steps.refl _) (argsL := [(.ref pR3)]) (rest := []) (lenOf pd_2 rfl) rfl (by show 2 * 0 + _ ≤ _; exact Nat.le_of_eq rfl) (hb hby at_106) (fun _ _ => ⟨rfl, e5, (by decide : 0 + 0 ≤ _), (by decide : 0 + 0 ≤ _)⟩)
  dsimp only [Pt.U, Pt.locs, Pt.cells, Pt.slots] at X7 l7 y7 z7 st7 hQ7
  subst l7 y7 z7
  obtain ⟨rfl, Nq7, e7⟩ := hQ7
  have N7 := Fr.app N5 Nq7
  obtain ⟨fs, hr, hrun, hended, hW, hsame⟩ := X7.leave (v := some (.int (1 : Int32))) (fun h => by rw [Bd.returns] at h; cases h)
  refine ⟨_, _, pre0 _ ?_, hrun, hended, _, _, rfl, ?_, ⟨_, rfl⟩, hW, hsame.mono (by decide) (by decide)⟩
  · show oS p e below s₁ m 0 #[.val (.int pI1), .val (.int pI2), .unset, .unset, .unset, .unset, .unset] [] _
    refine XS.iloadN X0.here hx rfl (hb hby at_0) rfl ?_
    show oS p e below s₁ m 1 #[.val (.int pI1), .val (.int pI2), .unset, .unset, .unset, .unset, .unset] [(.int pI1)] _
    refine X0.ldcInt hx hown (mvT hZ (ow hw 0 rfl)) (g := (mkF m 1 #[.val (.int pI1), .val (.int pI2), .unset, .unset, .unset, .unset, .unset] [(.int pI1)])) rfl (hb hby at_1) _ ?_
    show oS p e below s₁ m 3 #[.val (.int pI1), .val (.int pI2), .unset, .unset, .unset, .unset, .unset] [(.int (2147483647 : Int32)), (.int pI1)] _
    refine XS.iand X0.here hx rfl (hb hby at_3) rfl ?_
    show oS p e below s₁ m 4 #[.val (.int pI1), .val (.int pI2), .unset, .unset, .unset, .unset, .unset] [(.int (pI1 &&& (2147483647 : Int32)))] _
    refine XS.iconst X0.here hx rfl (hb hby at_4) ?_
    show oS p e below s₁ m 5 #[.val (.int pI1), .val (.int pI2), .unset, .unset, .unset, .unset, .unset] [(.int (5 : Int32)), (.int (pI1 &&& (2147483647 : Int32)))] _
    refine iremM (g := (mkF m 5 #[.val (.int pI1), .val (.int pI2), .unset, .unset, .unset, .unset, .unset] [(.int (5 : Int32)), (.int (pI1 &&& (2147483647 : Int32)))])) X0 hx rfl (hb hby at_5) rfl (by decide) ?_
    show Steps p.tables e below (s₁.setTop (mkF m 6 #[.val (.int pI1), .val (.int pI2), .unset, .unset, .unset, .unset, .unset] [(.int ((pI1 &&& (2147483647 : Int32)) % (5 : Int32)))])) _
    rw [hc5]
    show oS p e below s₁ m 6 #[.val (.int pI1), .val (.int pI2), .unset, .unset, .unset, .unset, .unset] [(.int (1 : Int32))] _
    refine XS.istoreN X0.here hx rfl (hb hby at_6) rfl (l' := #[.val (.int pI1), .val (.int pI2), .val (.int (1 : Int32)), .unset, .unset, .unset, .unset]) rfl ?_
    show oS p e below s₁ m 7 #[.val (.int pI1), .val (.int pI2), .val (.int (1 : Int32)), .unset, .unset, .unset, .unset] [] _
    refine XS.iloadN X0.here hx rfl (hb hby at_7) rfl ?_
    show oS p e below s₁ m 8 #[.val (.int pI1), .val (.int pI2), .val (.int (1 : Int32)), .unset, .unset, .unset, .unset] [(.int pI2)] _
    refine X0.ldcInt hx hown (mvT hZ (ow hw 0 rfl)) (g := (mkF m 8 #[.val (.int pI1), .val (.int pI2), .val (.int (1 : Int32)), .unset, .unset, .unset, .unset] [(.int pI2)])) rfl (hb hby at_8) _ ?_
    show oS p e below s₁ m 10 #[.val (.int pI1), .val (.int pI2), .val (.int (1 : Int32)), .unset, .unset, .unset, .unset] [(.int (2147483647 : Int32)), (.int pI2)] _
    refine XS.iand X0.here hx rfl (hb hby at_10) rfl ?_
    show oS p e below s₁ m 11 #[.val (.int pI1), .val (.int pI2), .val (.int (1 : Int32)), .unset, .unset, .unset, .unset] [(.int (pI2 &&& (2147483647 : Int32)))] _
    refine XS.iconst X0.here hx rfl (hb hby at_11) ?_
    show oS p e below s₁ m 12 #[.val (.int pI1), .val (.int pI2), .val (.int (1 : Int32)), .unset, .unset, .unset, .unset] [(.int (5 : Int32)), (.int (pI2 &&& (2147483647 : Int32)))] _
    refine iremM (g := (mkF m 12 #[.val (.int pI1), .val (.int pI2), .val (.int (1 : Int32)), .unset, .unset, .unset, .unset] [(.int (5 : Int32)), (.int (pI2 &&& (2147483647 : Int32)))])) X0 hx rfl (hb hby at_12) rfl (by decide) ?_
    show Steps p.tables e below (s₁.setTop (mkF m 13 #[.val (.int pI1), .val (.int pI2), .val (.int (1 : Int32)), .unset, .unset, .unset, .unset] [(.int ((pI2 &&& (2147483647 : Int32)) % (5 : Int32)))])) _
    rw [hc12]
    show oS p e below s₁ m 13 #[.val (.int pI1), .val (.int pI2), .val (.int (1 : Int32)), .unset, .unset, .unset, .unset] [(.int (1 : Int32))] _
    refine XS.istoreN X0.here hx rfl (hb hby at_13) rfl (l' := #[.val (.int pI1), .val (.int pI2), .val (.int (1 : Int32)), .val (.int (1 : Int32)), .unset, .unset, .unset]) rfl ?_
    show oS p e below s₁ m 14 #[.val (.int pI1), .val (.int pI2), .val (.int (1 : Int32)), .val (.int (1 : Int32)), .unset, .unset, .unset] [] _
    refine XS.iloadN X0.here hx rfl (hb hby at_14) rfl ?_
    show oS p e below s₁ m 15 #[.val (.int pI1), .val (.int pI2), .val (.int (1 : Int32)), .val (.int (1 : Int32)), .unset, .unset, .unset] [(.int (1 : Int32))] _
    refine st4 _ ?_
    show oS p e below T4 m 18 #[.val (.int pI1), .val (.int pI2), .val (.int (1 : Int32)), .val (.int (1 : Int32)), .unset, .unset, .unset] [(.ref pR3)] _
    refine XS.astore X4.here hx rfl (hb hby at_18) rfl rfl (l' := #[.val (.int pI1), .val (.int pI2), .val (.int (1 : Int32)), .val (.int (1 : Int32)), .val (.ref pR3), .unset, .unset]) rfl ?_
    show oS p e below T4 m 20 #[.val (.int pI1), .val (.int pI2), .val (.int (1 : Int32)), .val (.int (1 : Int32)), .val (.ref pR3), .unset, .unset] [] _
    refine XS.iloadN X4.here hx rfl (hb hby at_20) rfl ?_
    show oS p e below T4 m 21 #[.val (.int pI1), .val (.int pI2), .val (.int (1 : Int32)), .val (.int (1 : Int32)), .val (.ref pR3), .unset, .unset] [(.int (1 : Int32))] _
    refine st5 _ ?_
    show oS p e below T5 m 24 #[.val (.int pI1), .val (.int pI2), .val (.int (1 : Int32)), .val (.int (1 : Int32)), .val (.ref pR3), .unset, .unset] [(.ref pR3)] _
    refine XS.astore X5.here hx rfl (hb hby at_24) rfl rfl (l' := #[.val (.int pI1), .val (.int pI2), .val (.int (1 : Int32)), .val (.int (1 : Int32)), .val (.ref pR3), .val (.ref pR3), .unset]) rfl ?_
    show oS p e below T5 m 26 #[.val (.int pI1), .val (.int pI2), .val (.int (1 : Int32)), .val (.int (1 : Int32)), .val (.ref pR3), .val (.ref pR3), .unset] [] _
    refine XS.iloadN X5.here hx rfl (hb hby at_26) rfl ?_
    show oS p e below T5 m 27 #[.val (.int pI1), .val (.int pI2), .val (.int (1 : Int32)), .val (.int (1 : Int32)), .val (.ref pR3), .val (.ref pR3), .unset] [(.int (1 : Int32))] _
    refine XS.ifYes X5.here hx rfl (pc0 := 27) (pc' := 35) rfl (hb hby at_27) rfl ((if0 _ _).trans (feq (by decide : ¬ ((1 : Int32) = (0 : Int32)))).2) (by decide) (by decide) ?_
    show oS p e below T5 m 35 #[.val (.int pI1), .val (.int pI2), .val (.int (1 : Int32)), .val (.int (1 : Int32)), .val (.ref pR3), .val (.ref pR3), .unset] [] _
    refine XS.iloadN X5.here hx rfl (hb hby at_35) rfl ?_
    show oS p e below T5 m 36 #[.val (.int pI1), .val (.int pI2), .val (.int (1 : Int32)), .val (.int (1 : Int32)), .val (.ref pR3), .val (.ref pR3), .unset] [(.int (1 : Int32))] _
    refine XS.iconst X5.here hx rfl (hb hby at_36) ?_
    show oS p e below T5 m 37 #[.val (.int pI1), .val (.int pI2), .val (.int (1 : Int32)), .val (.int (1 : Int32)), .val (.ref pR3), .val (.ref pR3), .unset] [(.int (1 : Int32)), (.int (1 : Int32))] _
    refine XS.icmpNo X5.here hx rfl (hb hby at_37) rfl (teq (by decide : (1 : Int32) = (1 : Int32))).2 ?_
    show oS p e below T5 m 40 #[.val (.int pI1), .val (.int pI2), .val (.int (1 : Int32)), .val (.int (1 : Int32)), .val (.ref pR3), .val (.ref pR3), .unset] [] _
    refine XS.iloadN X5.here hx rfl (hb hby at_40) rfl ?_
    show oS p e below T5 m 41 #[.val (.int pI1), .val (.int pI2), .val (.int (1 : Int32)), .val (.int (1 : Int32)), .val (.ref pR3), .val (.ref pR3), .unset] [(.int (1 : Int32))] _
    refine XS.iconst X5.here hx rfl (hb hby at_41) ?_
    show oS p e below T5 m 42 #[.val (.int pI1), .val (.int pI2), .val (.int (1 : Int32)), .val (.int (1 : Int32)), .val (.ref pR3), .val (.ref pR3), .unset] [(.int (2 : Int32)), (.int (1 : Int32))] _
    refine XS.icmpNo X5.here hx rfl (hb hby at_42) rfl (feq (by decide : ¬ ((1 : Int32) = (2 : Int32)))).1 ?_
    show oS p e below T5 m 45 #[.val (.int pI1), .val (.int pI2), .val (.int (1 : Int32)), .val (.int (1 : Int32)), .val (.ref pR3), .val (.ref pR3), .unset] [] _
    refine XS.iloadN X5.here hx rfl (hb hby at_45) rfl ?_
    show oS p e below T5 m 46 #[.val (.int pI1), .val (.int pI2), .val (.int (1 : Int32)), .val (.int (1 : Int32)), .val (.ref pR3), .val (.ref pR3), .unset] [(.int (1 : Int32))] _
    refine XS.iconst X5.here hx rfl (hb hby at_46) ?_
    show oS p e below T5 m 47 #[.val (.int pI1), .val (.int pI2), .val (.int (1 : Int32)), .val (.int (1 : Int32)), .val (.ref pR3), .val (.ref pR3), .unset] [(.int (1 : Int32)), (.int (1 : Int32))] _
    refine XS.icmpNo X5.here hx rfl (hb hby at_47) rfl (teq (by decide : (1 : Int32) = (1 : Int32))).2 ?_
    show oS p e below T5 m 50 #[.val (.int pI1), .val (.int pI2), .val (.int (1 : Int32)), .val (.int (1 : Int32)), .val (.ref pR3), .val (.ref pR3), .unset] [] _
    refine XS.iloadN X5.here hx rfl (hb hby at_50) rfl ?_
    show oS p e below T5 m 51 #[.val (.int pI1), .val (.int pI2), .val (.int (1 : Int32)), .val (.int (1 : Int32)), .val (.ref pR3), .val (.ref pR3), .unset] [(.int (1 : Int32))] _
    refine XS.iconst X5.here hx rfl (hb hby at_51) ?_
    show oS p e below T5 m 52 #[.val (.int pI1), .val (.int pI2), .val (.int (1 : Int32)), .val (.int (1 : Int32)), .val (.ref pR3), .val (.ref pR3), .unset] [(.int (3 : Int32)), (.int (1 : Int32))] _
    refine XS.icmpNo X5.here hx rfl (hb hby at_52) rfl (feq (by decide : ¬ ((1 : Int32) = (3 : Int32)))).1 ?_
    show oS p e below T5 m 55 #[.val (.int pI1), .val (.int pI2), .val (.int (1 : Int32)), .val (.int (1 : Int32)), .val (.ref pR3), .val (.ref pR3), .unset] [] _
    refine XS.iloadN X5.here hx rfl (hb hby at_55) rfl ?_
    show oS p e below T5 m 56 #[.val (.int pI1), .val (.int pI2), .val (.int (1 : Int32)), .val (.int (1 : Int32)), .val (.ref pR3), .val (.ref pR3), .unset] [(.int (1 : Int32))] _
    refine XS.iconst X5.here hx rfl (hb hby at_56) ?_
    show oS p e below T5 m 57 #[.val (.int pI1), .val (.int pI2), .val (.int (1 : Int32)), .val (.int (1 : Int32)), .val (.ref pR3), .val (.ref pR3), .unset] [(.int (2 : Int32)), (.int (1 : Int32))] _
    refine XS.icmpYes X5.here hx rfl (pc0 := 57) (pc' := 65) rfl (hb hby at_57) rfl (feq (by decide : ¬ ((1 : Int32) = (2 : Int32)))).2 (by decide) (by decide) ?_
    show oS p e below T5 m 65 #[.val (.int pI1), .val (.int pI2), .val (.int (1 : Int32)), .val (.int (1 : Int32)), .val (.ref pR3), .val (.ref pR3), .unset] [] _
    refine XS.iloadN X5.here hx rfl (hb hby at_65) rfl ?_
    show oS p e below T5 m 66 #[.val (.int pI1), .val (.int pI2), .val (.int (1 : Int32)), .val (.int (1 : Int32)), .val (.ref pR3), .val (.ref pR3), .unset] [(.int (1 : Int32))] _
    refine XS.iconst X5.here hx rfl (hb hby at_66) ?_
    show oS p e below T5 m 67 #[.val (.int pI1), .val (.int pI2), .val (.int (1 : Int32)), .val (.int (1 : Int32)), .val (.ref pR3), .val (.ref pR3), .unset] [(.int (3 : Int32)), (.int (1 : Int32))] _
    refine XS.icmpYes X5.here hx rfl (pc0 := 67) (pc' := 75) rfl (hb hby at_67) rfl (feq (by decide : ¬ ((1 : Int32) = (3 : Int32)))).2 (by decide) (by decide) ?_
    show oS p e below T5 m 75 #[.val (.int pI1), .val (.int pI2), .val (.int (1 : Int32)), .val (.int (1 : Int32)), .val (.ref pR3), .val (.ref pR3), .unset] [] _
    refine XS.iloadN X5.here hx rfl (hb hby at_75) rfl ?_
    show oS p e below T5 m 76 #[.val (.int pI1), .val (.int pI2), .val (.int (1 : Int32)), .val (.int (1 : Int32)), .val (.ref pR3), .val (.ref pR3), .unset] [(.int (1 : Int32))] _
    refine XS.iconst X5.here hx rfl (hb hby at_76) ?_
    show oS p e below T5 m 77 #[.val (.int pI1), .val (.int pI2), .val (.int (1 : Int32)), .val (.int (1 : Int32)), .val (.ref pR3), .val (.ref pR3), .unset] [(.int (4 : Int32)), (.int (1 : Int32))] _
    refine XS.icmpYes X5.here hx rfl (pc0 := 77) (pc' := 85) rfl (hb hby at_77) rfl (feq (by decide : ¬ ((1 : Int32) = (4 : Int32)))).2 (by decide) (by decide) ?_
    show oS p e below T5 m 85 #[.val (.int pI1), .val (.int pI2), .val (.int (1 : Int32)), .val (.int (1 : Int32)), .val (.ref pR3), .val (.ref pR3), .unset] [] _
    refine XS.iloadN X5.here hx rfl (hb hby at_85) rfl ?_
    show oS p e below T5 m 86 #[.val (.int pI1), .val (.int pI2), .val (.int (1 : Int32)), .val (.int (1 : Int32)), .val (.ref pR3), .val (.ref pR3), .unset] [(.int (1 : Int32))] _
    refine XS.iconst X5.here hx rfl (hb hby at_86) ?_
    show oS p e below T5 m 87 #[.val (.int pI1), .val (.int pI2), .val (.int (1 : Int32)), .val (.int (1 : Int32)), .val (.ref pR3), .val (.ref pR3), .unset] [(.int (3 : Int32)), (.int (1 : Int32))] _
    refine XS.icmpYes X5.here hx rfl (pc0 := 87) (pc' := 99) rfl (hb hby at_87) rfl (feq (by decide : ¬ ((1 : Int32) = (3 : Int32)))).2 (by decide) (by decide) ?_
    show oS p e below T5 m 99 #[.val (.int pI1), .val (.int pI2), .val (.int (1 : Int32)), .val (.int (1 : Int32)), .val (.ref pR3), .val (.ref pR3), .unset] [] _
    refine XS.iconst X5.here hx rfl (hb hby at_99) ?_
    show oS p e below T5 m 100 #[.val (.int pI1), .val (.int pI2), .val (.int (1 : Int32)), .val (.int (1 : Int32)), .val (.ref pR3), .val (.ref pR3), .unset] [(.int (0 : Int32))] _
    refine XS.istore X5.here hx rfl (hb hby at_100) rfl (l' := #[.val (.int pI1), .val (.int pI2), .val (.int (1 : Int32)), .val (.int (1 : Int32)), .val (.ref pR3), .val (.ref pR3), .val (.int (0 : Int32))]) rfl ?_
    show oS p e below T5 m 102 #[.val (.int pI1), .val (.int pI2), .val (.int (1 : Int32)), .val (.int (1 : Int32)), .val (.ref pR3), .val (.ref pR3), .val (.int (0 : Int32))] [] _
    refine XS.aload X5.here hx rfl (hb hby at_102) rfl rfl ?_
    show oS p e below T5 m 104 #[.val (.int pI1), .val (.int pI2), .val (.int (1 : Int32)), .val (.int (1 : Int32)), .val (.ref pR3), .val (.ref pR3), .val (.int (0 : Int32))] [(.ref pR3)] _
    refine XS.aload X5.here hx rfl (hb hby at_104) rfl rfl ?_
    show oS p e below T5 m 106 #[.val (.int pI1), .val (.int pI2), .val (.int (1 : Int32)), .val (.int (1 : Int32)), .val (.ref pR3), .val (.ref pR3), .val (.int (0 : Int32))] [(.ref pR3), (.ref pR3)] _
    refine st7.trans ?_
    show oS p e below T7 m 109 #[.val (.int pI1), .val (.int pI2), .val (.int (1 : Int32)), .val (.int (1 : Int32)), .val (.ref pR3), .val (.ref pR3), .val (.int (0 : Int32))] [(.int (0 : Int32))] _
    refine XS.iload X7.here hx rfl (hb hby at_109) rfl ?_
    show oS p e below T7 m 111 #[.val (.int pI1), .val (.int pI2), .val (.int (1 : Int32)), .val (.int (1 : Int32)), .val (.ref pR3), .val (.ref pR3), .val (.int (0 : Int32))] [(.int (0 : Int32)), (.int (0 : Int32))] _
    refine XS.icmpNo X7.here hx rfl (hb hby at_111) rfl (teq (by decide : (0 : Int32) = (0 : Int32))).2 ?_
    show oS p e below T7 m 114 #[.val (.int pI1), .val (.int pI2), .val (.int (1 : Int32)), .val (.int (1 : Int32)), .val (.ref pR3), .val (.ref pR3), .val (.int (0 : Int32))] [] _
    refine XS.iconst X7.here hx rfl (hb hby at_114) ?_
    show oS p e below T7 m 115 #[.val (.int pI1), .val (.int pI2), .val (.int (1 : Int32)), .val (.int (1 : Int32)), .val (.ref pR3), .val (.ref pR3), .val (.int (0 : Int32))] [(.int (1 : Int32))] _
    refine XS.goto X7.here hx rfl (pc0 := 115) (pc' := 119) rfl (hb hby at_115) (by decide) (by decide) ?_
    show oS p e below T7 m 119 #[.val (.int pI1), .val (.int pI2), .val (.int (1 : Int32)), .val (.int (1 : Int32)), .val (.ref pR3), .val (.ref pR3), .val (.int (0 : Int32))] [(.int (1 : Int32))] _
    exact retN X7 hx (t := .boolean) Bd.returns (by simp) (hb hby at_119) hr
  · show Qlaw1_1 Z pI1 pI2 pR3 pR6 h0 n0 _ T7.heap _
    rw [e7]
    exact ⟨rfl, N7⟩
theorem ef_law1_2 (m : MethodId) (pI1 : Int32) (pI2 : Int32) : entryFrame m #[(.int pI1), (.int pI2)] maxLocals = mkF m 0 #[.val (.int pI1), .val (.int pI2), .unset, .unset, .unset, .unset, .unset] [] := by first | (simp [entryFrame, mkF, argsToLocals, Value.category, maxLocals]; done) | rfl
def Qlaw1_2 (Z : State) (pI1 : Int32) (pI2 : Int32) (pR3 : Addr) (pR5 : Addr) (pR7 : Addr) (h0 : Heap) (n0 : Nat) (v : Option Value) (h : Heap) (L : List Loc) : Prop := v = some (.int (1 : Int32)) ∧ Fr n0 L
set_option maxRecDepth 65536 in
set_option maxHeartbeats 40000000 in
theorem law1_2 (l : Launch) (Z : State) (a0 : Array Value) (hw : ∀ d ∈ tables_1, d.before a0 Z = true) (ws : List Jvm.Cond) (pI1 : Int32) (pI2 : Int32) (pR3 : Addr) (pR5 : Addr) (pR7 : Addr) (h0 : Heap) (n0 : Nat) (Z0 : n0 ≤ h0.size) (S_OrderSegment_RXA : Sta Z h0 "com/example/vaxwire/vaxwire/reply/OrderSegment" "RXA" "Lcom/example/vaxwire/vaxwire/reply/OrderSegment;" (.ref pR3)) (S_OrderSegment_RXR : Sta Z h0 "com/example/vaxwire/vaxwire/reply/OrderSegment" "RXR" "Lcom/example/vaxwire/vaxwire/reply/OrderSegment;" (.ref pR5)) (F_ordinal_pR3 : Fld Z h0 pR3 "java/lang/Enum" "ordinal" "I" (.int (1 : Int32))) (E_pR3 : Exa Z h0 pR3 "com/example/vaxwire/vaxwire/reply/OrderSegment") (S_OrderSegment_ORC : Sta Z h0 "com/example/vaxwire/vaxwire/reply/OrderSegment" "ORC" "Lcom/example/vaxwire/vaxwire/reply/OrderSegment;" (.ref pR7)) (ne_pR5_pR7 : pR5 ≠ pR7) (hc5 : ((pI1 &&& (2147483647 : Int32)) % (5 : Int32)) = (1 : Int32)) (hc12 : ((pI2 &&& (2147483647 : Int32)) % (5 : Int32)) = (2 : Int32)) :
    MetFree l x (head1 (Jvm.Cond.code x code maxLocals ret :: ws) room_1) (fun a U => a = #[(.int pI1), (.int pI2)] ∧ Z.Warmed39 U.vm ∧ U.heap = h0) (fun _ _ _ _ _ => True) (fun _ U o U' => ∃ v L, o = .returned v ∧ Qlaw1_2 Z pI1 pI2 pR3 pR5 pR7 h0 n0 v U'.heap L ∧ FrameEnd U o U' L room_1.cells room_1.slots) := by
  refine MetFree.of_bodySF (plainFor_of_name pn_0) hisR ?_
  intro p e s m args below meth c s₁ Bd hml0 hP hK
  obtain ⟨rfl, hZ, hh⟩ := hP
  have hx := Bd.exec
  have hby := Bd.bytes
  have hml : c.maxLocals = 7 := hml0
  have hown : s.vm.findClass "com/example/vaxwire/vaxwire/reply/OrderSegmentMayFollowPinLaw" = some m.cls := findClass_of_methodNamed Bd.named
  have hnm := (name_of_methodNamed Bd.named Bd.method).1
  have X0 : Stand p l e room_1 s m #[(.int pI1), (.int pI2)] below meth c s₁ [] 0 0 := Stand.of_body Bd
  have e0 : s₁.heap = h0 := by rw [← hh, Bd.state]; rfl
  have N0 := Fr.nil n0
  have pre0 : ∀ t, Steps p.tables e below (s₁.setTop (mkF m 0 #[.val (.int pI1), .val (.int pI2), .unset, .unset, .unset, .unset, .unset] [])) t → Steps p.tables e below (s₁.setTop (entryFrame m #[(.int pI1), (.int pI2)] maxLocals)) t := fun t k => castTop (ef_law1_2 m pI1 pI2) k
  obtain ⟨_, _, ⟨T4, L4, k4, n4⟩, -, X4, ⟨Lc4, hQ4, l4, y4, z4⟩, st4⟩ := Jvm.LawKit.callS X0 hx (y := yN0) hown (mvT hZ (ow hw 1 rfl)) (mvT hZ (ow hw 2 rfl)) (mvT hZ (ow hw 3 rfl)) (mvT hZ (ow hw 4 rfl)) (by decide) (backOf (W := 0) (pick1 l Z a0 hw [] pR3 h0 n0 Z0 S_OrderSegment_RXA) hZ (ow hw 4 rfl) (ow hw 3 rfl) (by decide) (by decide)) (g := (mkF m 15 #[.val (.int pI1), .val (.int pI2), .val (.int (1 : Int32)), .val (.int (2 : Int32)), .unset, .unset, .unset] [(.int (1 : Int32))])) rfl (by rw [hml]; rfl) (argsL := [(.int (1 : Int32))]) (rest := []) (lenOf pd_1 rfl) rfl (by show 2 * 0 + _ ≤ _; exact Nat.le_of_eq rfl) (hb hby at_15) (fun _ _ => ⟨rfl, e0, (by decide : 0 + 0 ≤ _), (by decide : 0 + 0 ≤ _)⟩)
  dsimp only [Pt.U, Pt.locs, Pt.cells, Pt.slots] at X4 l4 y4 z4 st4 hQ4
  subst l4 y4 z4
  obtain ⟨rfl, Nq4, e4⟩ := hQ4
  have N4 := Fr.app N0 Nq4
  obtain ⟨_, _, ⟨T6, L6, k6, n6⟩, -, X6, ⟨Lc6, hQ6, l6, y6, z6⟩, st6⟩ := Jvm.LawKit.callS X4 hx (y := yN0) hown (mvT hZ (ow hw 1 rfl)) (mvT hZ (ow hw 2 rfl)) (mvT hZ (ow hw 3 rfl)) (mvT hZ (ow hw 4 rfl)) (by decide) (backOf (W := 0) (pick2 l Z a0 hw [] pR5 h0 n0 Z0 S_OrderSegment_RXR) hZ (ow hw 4 rfl) (ow hw 3 rfl) (by decide) (by decide)) (g := (mkF m 21 #[.val (.int pI1), .val (.int pI2), .val (.int (1 : Int32)), .val (.int (2 : Int32)), .val (.ref pR3), .unset, .unset] [(.int (2 : Int32))])) rfl (by rw [hml]; rfl) (argsL := [(.int (2 : Int32))]) (rest := []) (lenOf pd_1 rfl) rfl (by show 2 * 0 + _ ≤ _; exact Nat.le_of_eq rfl) (hb hby at_21) (fun _ _ => ⟨rfl, e4, (by decide : 0 + 0 ≤ _), (by decide : 0 + 0 ≤ _)⟩)
  dsimp only [Pt.U, Pt.locs, Pt.cells, Pt.slots] at X6 l6 y6 z6 st6 hQ6
  subst l6 y6 z6
  obtain ⟨rfl, Nq6, e6⟩ := hQ6
  have N6 := Fr.app N4 Nq6
  obtain ⟨cq8, kq8, q8a, q8b, q8c⟩ := isOf hZ e6 E_pR3
  obtain ⟨_, _, ⟨T8, L8, k8, n8⟩, -, X8, ⟨Lc8, hQ8, l8, y8, z8⟩, st8⟩ := X6.virtualBack hx (y := yN3) (z := yN3) hown (mvT hZ (ow hw 10 rfl)) (mvT hZ (ow hw 11 rfl)) (notFace_of_selects (args := #[]) (mvT hZ (ow hw 13 rfl))) (mvT hZ (ow hw 13 rfl)) (mvT hZ (ow hw 12 rfl)) (by decide) (backOf (W := 0) (mf1d l Z a0 hw [] pR3 pR5 pR7 h0 n0 Z0 F_ordinal_pR3 E_pR3 S_OrderSegment_ORC ne_pR5_pR7) hZ (ow hw 14 rfl) (ow hw 6 rfl) (by decide) (by decide)) q8a q8c (g := (mkF m 106 #[.val (.int pI1), .val (.int pI2), .val (.int (1 : Int32)), .val (.int (2 : Int32)), .val (.ref pR3), .val (.ref pR5), .val (.int (0 : Int32))] [(.ref pR5), (.ref pR3)])) rfl (by rw [hml]; rfl) (Steps.refl _) (argsL := [(.ref pR5)]) (rest := []) (lenOf pd_2 rfl) rfl (by show 2 * 0 + _ ≤ _; exact Nat.le_of_eq rfl) (hb hby at_106) (fun _ _ => ⟨rfl, e6, (by decide : 0 + 0 ≤ _), (by decide : 0 + 0 ≤ _)⟩)
  dsimp only [Pt.U, Pt.locs, Pt.cells, Pt.slots] at X8 l8 y8 z8 st8 hQ8
  subst l8 y8 z8
  obtain ⟨rfl, Nq8, e8⟩ := hQ8
  have N8 := Fr.app N6 Nq8
  obtain ⟨fs, hr, hrun, hended, hW, hsame⟩ := X8.leave (v := some (.int (1 : Int32))) (fun h => by rw [Bd.returns] at h; cases h)
  refine ⟨_, _, pre0 _ ?_, hrun, hended, _, _, rfl, ?_, ⟨_, rfl⟩, hW, hsame.mono (by decide) (by decide)⟩
  · show oS p e below s₁ m 0 #[.val (.int pI1), .val (.int pI2), .unset, .unset, .unset, .unset, .unset] [] _
    refine XS.iloadN X0.here hx rfl (hb hby at_0) rfl ?_
    show oS p e below s₁ m 1 #[.val (.int pI1), .val (.int pI2), .unset, .unset, .unset, .unset, .unset] [(.int pI1)] _
    refine X0.ldcInt hx hown (mvT hZ (ow hw 0 rfl)) (g := (mkF m 1 #[.val (.int pI1), .val (.int pI2), .unset, .unset, .unset, .unset, .unset] [(.int pI1)])) rfl (hb hby at_1) _ ?_
    show oS p e below s₁ m 3 #[.val (.int pI1), .val (.int pI2), .unset, .unset, .unset, .unset, .unset] [(.int (2147483647 : Int32)), (.int pI1)] _
    refine XS.iand X0.here hx rfl (hb hby at_3) rfl ?_
    show oS p e below s₁ m 4 #[.val (.int pI1), .val (.int pI2), .unset, .unset, .unset, .unset, .unset] [(.int (pI1 &&& (2147483647 : Int32)))] _
    refine XS.iconst X0.here hx rfl (hb hby at_4) ?_
    show oS p e below s₁ m 5 #[.val (.int pI1), .val (.int pI2), .unset, .unset, .unset, .unset, .unset] [(.int (5 : Int32)), (.int (pI1 &&& (2147483647 : Int32)))] _
    refine iremM (g := (mkF m 5 #[.val (.int pI1), .val (.int pI2), .unset, .unset, .unset, .unset, .unset] [(.int (5 : Int32)), (.int (pI1 &&& (2147483647 : Int32)))])) X0 hx rfl (hb hby at_5) rfl (by decide) ?_
    show Steps p.tables e below (s₁.setTop (mkF m 6 #[.val (.int pI1), .val (.int pI2), .unset, .unset, .unset, .unset, .unset] [(.int ((pI1 &&& (2147483647 : Int32)) % (5 : Int32)))])) _
    rw [hc5]
    show oS p e below s₁ m 6 #[.val (.int pI1), .val (.int pI2), .unset, .unset, .unset, .unset, .unset] [(.int (1 : Int32))] _
    refine XS.istoreN X0.here hx rfl (hb hby at_6) rfl (l' := #[.val (.int pI1), .val (.int pI2), .val (.int (1 : Int32)), .unset, .unset, .unset, .unset]) rfl ?_
    show oS p e below s₁ m 7 #[.val (.int pI1), .val (.int pI2), .val (.int (1 : Int32)), .unset, .unset, .unset, .unset] [] _
    refine XS.iloadN X0.here hx rfl (hb hby at_7) rfl ?_
    show oS p e below s₁ m 8 #[.val (.int pI1), .val (.int pI2), .val (.int (1 : Int32)), .unset, .unset, .unset, .unset] [(.int pI2)] _
    refine X0.ldcInt hx hown (mvT hZ (ow hw 0 rfl)) (g := (mkF m 8 #[.val (.int pI1), .val (.int pI2), .val (.int (1 : Int32)), .unset, .unset, .unset, .unset] [(.int pI2)])) rfl (hb hby at_8) _ ?_
    show oS p e below s₁ m 10 #[.val (.int pI1), .val (.int pI2), .val (.int (1 : Int32)), .unset, .unset, .unset, .unset] [(.int (2147483647 : Int32)), (.int pI2)] _
    refine XS.iand X0.here hx rfl (hb hby at_10) rfl ?_
    show oS p e below s₁ m 11 #[.val (.int pI1), .val (.int pI2), .val (.int (1 : Int32)), .unset, .unset, .unset, .unset] [(.int (pI2 &&& (2147483647 : Int32)))] _
    refine XS.iconst X0.here hx rfl (hb hby at_11) ?_
    show oS p e below s₁ m 12 #[.val (.int pI1), .val (.int pI2), .val (.int (1 : Int32)), .unset, .unset, .unset, .unset] [(.int (5 : Int32)), (.int (pI2 &&& (2147483647 : Int32)))] _
    refine iremM (g := (mkF m 12 #[.val (.int pI1), .val (.int pI2), .val (.int (1 : Int32)), .unset, .unset, .unset, .unset] [(.int (5 : Int32)), (.int (pI2 &&& (2147483647 : Int32)))])) X0 hx rfl (hb hby at_12) rfl (by decide) ?_
    show Steps p.tables e below (s₁.setTop (mkF m 13 #[.val (.int pI1), .val (.int pI2), .val (.int (1 : Int32)), .unset, .unset, .unset, .unset] [(.int ((pI2 &&& (2147483647 : Int32)) % (5 : Int32)))])) _
    rw [hc12]
    show oS p e below s₁ m 13 #[.val (.int pI1), .val (.int pI2), .val (.int (1 : Int32)), .unset, .unset, .unset, .unset] [(.int (2 : Int32))] _
    refine XS.istoreN X0.here hx rfl (hb hby at_13) rfl (l' := #[.val (.int pI1), .val (.int pI2), .val (.int (1 : Int32)), .val (.int (2 : Int32)), .unset, .unset, .unset]) rfl ?_
    show oS p e below s₁ m 14 #[.val (.int pI1), .val (.int pI2), .val (.int (1 : Int32)), .val (.int (2 : Int32)), .unset, .unset, .unset] [] _
    refine XS.iloadN X0.here hx rfl (hb hby at_14) rfl ?_
    show oS p e below s₁ m 15 #[.val (.int pI1), .val (.int pI2), .val (.int (1 : Int32)), .val (.int (2 : Int32)), .unset, .unset, .unset] [(.int (1 : Int32))] _
    refine st4 _ ?_
    show oS p e below T4 m 18 #[.val (.int pI1), .val (.int pI2), .val (.int (1 : Int32)), .val (.int (2 : Int32)), .unset, .unset, .unset] [(.ref pR3)] _
    refine XS.astore X4.here hx rfl (hb hby at_18) rfl rfl (l' := #[.val (.int pI1), .val (.int pI2), .val (.int (1 : Int32)), .val (.int (2 : Int32)), .val (.ref pR3), .unset, .unset]) rfl ?_
    show oS p e below T4 m 20 #[.val (.int pI1), .val (.int pI2), .val (.int (1 : Int32)), .val (.int (2 : Int32)), .val (.ref pR3), .unset, .unset] [] _
    refine XS.iloadN X4.here hx rfl (hb hby at_20) rfl ?_
    show oS p e below T4 m 21 #[.val (.int pI1), .val (.int pI2), .val (.int (1 : Int32)), .val (.int (2 : Int32)), .val (.ref pR3), .unset, .unset] [(.int (2 : Int32))] _
    refine st6 _ ?_
    show oS p e below T6 m 24 #[.val (.int pI1), .val (.int pI2), .val (.int (1 : Int32)), .val (.int (2 : Int32)), .val (.ref pR3), .unset, .unset] [(.ref pR5)] _
    refine XS.astore X6.here hx rfl (hb hby at_24) rfl rfl (l' := #[.val (.int pI1), .val (.int pI2), .val (.int (1 : Int32)), .val (.int (2 : Int32)), .val (.ref pR3), .val (.ref pR5), .unset]) rfl ?_
    show oS p e below T6 m 26 #[.val (.int pI1), .val (.int pI2), .val (.int (1 : Int32)), .val (.int (2 : Int32)), .val (.ref pR3), .val (.ref pR5), .unset] [] _
    refine XS.iloadN X6.here hx rfl (hb hby at_26) rfl ?_
    show oS p e below T6 m 27 #[.val (.int pI1), .val (.int pI2), .val (.int (1 : Int32)), .val (.int (2 : Int32)), .val (.ref pR3), .val (.ref pR5), .unset] [(.int (2 : Int32))] _
    refine XS.ifYes X6.here hx rfl (pc0 := 27) (pc' := 35) rfl (hb hby at_27) rfl ((if0 _ _).trans (feq (by decide : ¬ ((2 : Int32) = (0 : Int32)))).2) (by decide) (by decide) ?_
    show oS p e below T6 m 35 #[.val (.int pI1), .val (.int pI2), .val (.int (1 : Int32)), .val (.int (2 : Int32)), .val (.ref pR3), .val (.ref pR5), .unset] [] _
    refine XS.iloadN X6.here hx rfl (hb hby at_35) rfl ?_
    show oS p e below T6 m 36 #[.val (.int pI1), .val (.int pI2), .val (.int (1 : Int32)), .val (.int (2 : Int32)), .val (.ref pR3), .val (.ref pR5), .unset] [(.int (2 : Int32))] _
    refine XS.iconst X6.here hx rfl (hb hby at_36) ?_
    show oS p e below T6 m 37 #[.val (.int pI1), .val (.int pI2), .val (.int (1 : Int32)), .val (.int (2 : Int32)), .val (.ref pR3), .val (.ref pR5), .unset] [(.int (1 : Int32)), (.int (2 : Int32))] _
    refine XS.icmpYes X6.here hx rfl (pc0 := 37) (pc' := 45) rfl (hb hby at_37) rfl (feq (by decide : ¬ ((2 : Int32) = (1 : Int32)))).2 (by decide) (by decide) ?_
    show oS p e below T6 m 45 #[.val (.int pI1), .val (.int pI2), .val (.int (1 : Int32)), .val (.int (2 : Int32)), .val (.ref pR3), .val (.ref pR5), .unset] [] _
    refine XS.iloadN X6.here hx rfl (hb hby at_45) rfl ?_
    show oS p e below T6 m 46 #[.val (.int pI1), .val (.int pI2), .val (.int (1 : Int32)), .val (.int (2 : Int32)), .val (.ref pR3), .val (.ref pR5), .unset] [(.int (2 : Int32))] _
    refine XS.iconst X6.here hx rfl (hb hby at_46) ?_
    show oS p e below T6 m 47 #[.val (.int pI1), .val (.int pI2), .val (.int (1 : Int32)), .val (.int (2 : Int32)), .val (.ref pR3), .val (.ref pR5), .unset] [(.int (1 : Int32)), (.int (2 : Int32))] _
    refine XS.icmpYes X6.here hx rfl (pc0 := 47) (pc' := 55) rfl (hb hby at_47) rfl (feq (by decide : ¬ ((2 : Int32) = (1 : Int32)))).2 (by decide) (by decide) ?_
    show oS p e below T6 m 55 #[.val (.int pI1), .val (.int pI2), .val (.int (1 : Int32)), .val (.int (2 : Int32)), .val (.ref pR3), .val (.ref pR5), .unset] [] _
    refine XS.iloadN X6.here hx rfl (hb hby at_55) rfl ?_
    show oS p e below T6 m 56 #[.val (.int pI1), .val (.int pI2), .val (.int (1 : Int32)), .val (.int (2 : Int32)), .val (.ref pR3), .val (.ref pR5), .unset] [(.int (2 : Int32))] _
    refine XS.iconst X6.here hx rfl (hb hby at_56) ?_
    show oS p e below T6 m 57 #[.val (.int pI1), .val (.int pI2), .val (.int (1 : Int32)), .val (.int (2 : Int32)), .val (.ref pR3), .val (.ref pR5), .unset] [(.int (2 : Int32)), (.int (2 : Int32))] _
    refine XS.icmpNo X6.here hx rfl (hb hby at_57) rfl (teq (by decide : (2 : Int32) = (2 : Int32))).2 ?_
    show oS p e below T6 m 60 #[.val (.int pI1), .val (.int pI2), .val (.int (1 : Int32)), .val (.int (2 : Int32)), .val (.ref pR3), .val (.ref pR5), .unset] [] _
    refine XS.iloadN X6.here hx rfl (hb hby at_60) rfl ?_
    show oS p e below T6 m 61 #[.val (.int pI1), .val (.int pI2), .val (.int (1 : Int32)), .val (.int (2 : Int32)), .val (.ref pR3), .val (.ref pR5), .unset] [(.int (1 : Int32))] _
    refine XS.iconst X6.here hx rfl (hb hby at_61) ?_
    show oS p e below T6 m 62 #[.val (.int pI1), .val (.int pI2), .val (.int (1 : Int32)), .val (.int (2 : Int32)), .val (.ref pR3), .val (.ref pR5), .unset] [(.int (3 : Int32)), (.int (1 : Int32))] _
    refine XS.icmpNo X6.here hx rfl (hb hby at_62) rfl (feq (by decide : ¬ ((1 : Int32) = (3 : Int32)))).1 ?_
    show oS p e below T6 m 65 #[.val (.int pI1), .val (.int pI2), .val (.int (1 : Int32)), .val (.int (2 : Int32)), .val (.ref pR3), .val (.ref pR5), .unset] [] _
    refine XS.iloadN X6.here hx rfl (hb hby at_65) rfl ?_
    show oS p e below T6 m 66 #[.val (.int pI1), .val (.int pI2), .val (.int (1 : Int32)), .val (.int (2 : Int32)), .val (.ref pR3), .val (.ref pR5), .unset] [(.int (2 : Int32))] _
    refine XS.iconst X6.here hx rfl (hb hby at_66) ?_
    show oS p e below T6 m 67 #[.val (.int pI1), .val (.int pI2), .val (.int (1 : Int32)), .val (.int (2 : Int32)), .val (.ref pR3), .val (.ref pR5), .unset] [(.int (3 : Int32)), (.int (2 : Int32))] _
    refine XS.icmpYes X6.here hx rfl (pc0 := 67) (pc' := 75) rfl (hb hby at_67) rfl (feq (by decide : ¬ ((2 : Int32) = (3 : Int32)))).2 (by decide) (by decide) ?_
    show oS p e below T6 m 75 #[.val (.int pI1), .val (.int pI2), .val (.int (1 : Int32)), .val (.int (2 : Int32)), .val (.ref pR3), .val (.ref pR5), .unset] [] _
    refine XS.iloadN X6.here hx rfl (hb hby at_75) rfl ?_
    show oS p e below T6 m 76 #[.val (.int pI1), .val (.int pI2), .val (.int (1 : Int32)), .val (.int (2 : Int32)), .val (.ref pR3), .val (.ref pR5), .unset] [(.int (2 : Int32))] _
    refine XS.iconst X6.here hx rfl (hb hby at_76) ?_
    show oS p e below T6 m 77 #[.val (.int pI1), .val (.int pI2), .val (.int (1 : Int32)), .val (.int (2 : Int32)), .val (.ref pR3), .val (.ref pR5), .unset] [(.int (4 : Int32)), (.int (2 : Int32))] _
    refine XS.icmpYes X6.here hx rfl (pc0 := 77) (pc' := 85) rfl (hb hby at_77) rfl (feq (by decide : ¬ ((2 : Int32) = (4 : Int32)))).2 (by decide) (by decide) ?_
    show oS p e below T6 m 85 #[.val (.int pI1), .val (.int pI2), .val (.int (1 : Int32)), .val (.int (2 : Int32)), .val (.ref pR3), .val (.ref pR5), .unset] [] _
    refine XS.iloadN X6.here hx rfl (hb hby at_85) rfl ?_
    show oS p e below T6 m 86 #[.val (.int pI1), .val (.int pI2), .val (.int (1 : Int32)), .val (.int (2 : Int32)), .val (.ref pR3), .val (.ref pR5), .unset] [(.int (2 : Int32))] _
    refine XS.iconst X6.here hx rfl (hb hby at_86) ?_
    show oS p e below T6 m 87 #[.val (.int pI1), .val (.int pI2), .val (.int (1 : Int32)), .val (.int (2 : Int32)), .val (.ref pR3), .val (.ref pR5), .unset] [(.int (3 : Int32)), (.int (2 : Int32))] _
    refine XS.icmpYes X6.here hx rfl (pc0 := 87) (pc' := 99) rfl (hb hby at_87) rfl (feq (by decide : ¬ ((2 : Int32) = (3 : Int32)))).2 (by decide) (by decide) ?_
    show oS p e below T6 m 99 #[.val (.int pI1), .val (.int pI2), .val (.int (1 : Int32)), .val (.int (2 : Int32)), .val (.ref pR3), .val (.ref pR5), .unset] [] _
    refine XS.iconst X6.here hx rfl (hb hby at_99) ?_
    show oS p e below T6 m 100 #[.val (.int pI1), .val (.int pI2), .val (.int (1 : Int32)), .val (.int (2 : Int32)), .val (.ref pR3), .val (.ref pR5), .unset] [(.int (0 : Int32))] _
    refine XS.istore X6.here hx rfl (hb hby at_100) rfl (l' := #[.val (.int pI1), .val (.int pI2), .val (.int (1 : Int32)), .val (.int (2 : Int32)), .val (.ref pR3), .val (.ref pR5), .val (.int (0 : Int32))]) rfl ?_
    show oS p e below T6 m 102 #[.val (.int pI1), .val (.int pI2), .val (.int (1 : Int32)), .val (.int (2 : Int32)), .val (.ref pR3), .val (.ref pR5), .val (.int (0 : Int32))] [] _
    refine XS.aload X6.here hx rfl (hb hby at_102) rfl rfl ?_
    show oS p e below T6 m 104 #[.val (.int pI1), .val (.int pI2), .val (.int (1 : Int32)), .val (.int (2 : Int32)), .val (.ref pR3), .val (.ref pR5), .val (.int (0 : Int32))] [(.ref pR3)] _
    refine XS.aload X6.here hx rfl (hb hby at_104) rfl rfl ?_
    show oS p e below T6 m 106 #[.val (.int pI1), .val (.int pI2), .val (.int (1 : Int32)), .val (.int (2 : Int32)), .val (.ref pR3), .val (.ref pR5), .val (.int (0 : Int32))] [(.ref pR5), (.ref pR3)] _
    refine st8.trans ?_
    show oS p e below T8 m 109 #[.val (.int pI1), .val (.int pI2), .val (.int (1 : Int32)), .val (.int (2 : Int32)), .val (.ref pR3), .val (.ref pR5), .val (.int (0 : Int32))] [(.int (0 : Int32))] _
    refine XS.iload X8.here hx rfl (hb hby at_109) rfl ?_
    show oS p e below T8 m 111 #[.val (.int pI1), .val (.int pI2), .val (.int (1 : Int32)), .val (.int (2 : Int32)), .val (.ref pR3), .val (.ref pR5), .val (.int (0 : Int32))] [(.int (0 : Int32)), (.int (0 : Int32))] _
    refine XS.icmpNo X8.here hx rfl (hb hby at_111) rfl (teq (by decide : (0 : Int32) = (0 : Int32))).2 ?_
    show oS p e below T8 m 114 #[.val (.int pI1), .val (.int pI2), .val (.int (1 : Int32)), .val (.int (2 : Int32)), .val (.ref pR3), .val (.ref pR5), .val (.int (0 : Int32))] [] _
    refine XS.iconst X8.here hx rfl (hb hby at_114) ?_
    show oS p e below T8 m 115 #[.val (.int pI1), .val (.int pI2), .val (.int (1 : Int32)), .val (.int (2 : Int32)), .val (.ref pR3), .val (.ref pR5), .val (.int (0 : Int32))] [(.int (1 : Int32))] _
    refine XS.goto X8.here hx rfl (pc0 := 115) (pc' := 119) rfl (hb hby at_115) (by decide) (by decide) ?_
    show oS p e below T8 m 119 #[.val (.int pI1), .val (.int pI2), .val (.int (1 : Int32)), .val (.int (2 : Int32)), .val (.ref pR3), .val (.ref pR5), .val (.int (0 : Int32))] [(.int (1 : Int32))] _
    exact retN X8 hx (t := .boolean) Bd.returns (by simp) (hb hby at_119) hr
  · show Qlaw1_2 Z pI1 pI2 pR3 pR5 pR7 h0 n0 _ T8.heap _
    rw [e8]
    exact ⟨rfl, N8⟩
theorem ef_law1_3 (m : MethodId) (pI1 : Int32) (pI2 : Int32) : entryFrame m #[(.int pI1), (.int pI2)] maxLocals = mkF m 0 #[.val (.int pI1), .val (.int pI2), .unset, .unset, .unset, .unset, .unset] [] := by first | (simp [entryFrame, mkF, argsToLocals, Value.category, maxLocals]; done) | rfl
def Qlaw1_3 (Z : State) (pI1 : Int32) (pI2 : Int32) (pR3 : Addr) (pR5 : Addr) (pR7 : Addr) (h0 : Heap) (n0 : Nat) (v : Option Value) (h : Heap) (L : List Loc) : Prop := v = some (.int (1 : Int32)) ∧ Fr n0 L
set_option maxRecDepth 65536 in
set_option maxHeartbeats 40000000 in
theorem law1_3 (l : Launch) (Z : State) (a0 : Array Value) (hw : ∀ d ∈ tables_1, d.before a0 Z = true) (ws : List Jvm.Cond) (pI1 : Int32) (pI2 : Int32) (pR3 : Addr) (pR5 : Addr) (pR7 : Addr) (h0 : Heap) (n0 : Nat) (Z0 : n0 ≤ h0.size) (S_OrderSegment_RXA : Sta Z h0 "com/example/vaxwire/vaxwire/reply/OrderSegment" "RXA" "Lcom/example/vaxwire/vaxwire/reply/OrderSegment;" (.ref pR3)) (S_OrderSegment_OBX : Sta Z h0 "com/example/vaxwire/vaxwire/reply/OrderSegment" "OBX" "Lcom/example/vaxwire/vaxwire/reply/OrderSegment;" (.ref pR5)) (F_ordinal_pR3 : Fld Z h0 pR3 "java/lang/Enum" "ordinal" "I" (.int (1 : Int32))) (E_pR3 : Exa Z h0 pR3 "com/example/vaxwire/vaxwire/reply/OrderSegment") (S_OrderSegment_ORC : Sta Z h0 "com/example/vaxwire/vaxwire/reply/OrderSegment" "ORC" "Lcom/example/vaxwire/vaxwire/reply/OrderSegment;" (.ref pR7)) (ne_pR5_pR7 : pR5 ≠ pR7) (hc5 : ((pI1 &&& (2147483647 : Int32)) % (5 : Int32)) = (1 : Int32)) (hc12 : ((pI2 &&& (2147483647 : Int32)) % (5 : Int32)) = (3 : Int32)) :
    MetFree l x (head1 (Jvm.Cond.code x code maxLocals ret :: ws) room_1) (fun a U => a = #[(.int pI1), (.int pI2)] ∧ Z.Warmed39 U.vm ∧ U.heap = h0) (fun _ _ _ _ _ => True) (fun _ U o U' => ∃ v L, o = .returned v ∧ Qlaw1_3 Z pI1 pI2 pR3 pR5 pR7 h0 n0 v U'.heap L ∧ FrameEnd U o U' L room_1.cells room_1.slots) := by
  refine MetFree.of_bodySF (plainFor_of_name pn_0) hisR ?_
  intro p e s m args below meth c s₁ Bd hml0 hP hK
  obtain ⟨rfl, hZ, hh⟩ := hP
  have hx := Bd.exec
  have hby := Bd.bytes
  have hml : c.maxLocals = 7 := hml0
  have hown : s.vm.findClass "com/example/vaxwire/vaxwire/reply/OrderSegmentMayFollowPinLaw" = some m.cls := findClass_of_methodNamed Bd.named
  have hnm := (name_of_methodNamed Bd.named Bd.method).1
  have X0 : Stand p l e room_1 s m #[(.int pI1), (.int pI2)] below meth c s₁ [] 0 0 := Stand.of_body Bd
  have e0 : s₁.heap = h0 := by rw [← hh, Bd.state]; rfl
  have N0 := Fr.nil n0
  have pre0 : ∀ t, Steps p.tables e below (s₁.setTop (mkF m 0 #[.val (.int pI1), .val (.int pI2), .unset, .unset, .unset, .unset, .unset] [])) t → Steps p.tables e below (s₁.setTop (entryFrame m #[(.int pI1), (.int pI2)] maxLocals)) t := fun t k => castTop (ef_law1_3 m pI1 pI2) k
  obtain ⟨_, _, ⟨T4, L4, k4, n4⟩, -, X4, ⟨Lc4, hQ4, l4, y4, z4⟩, st4⟩ := Jvm.LawKit.callS X0 hx (y := yN0) hown (mvT hZ (ow hw 1 rfl)) (mvT hZ (ow hw 2 rfl)) (mvT hZ (ow hw 3 rfl)) (mvT hZ (ow hw 4 rfl)) (by decide) (backOf (W := 0) (pick1 l Z a0 hw [] pR3 h0 n0 Z0 S_OrderSegment_RXA) hZ (ow hw 4 rfl) (ow hw 3 rfl) (by decide) (by decide)) (g := (mkF m 15 #[.val (.int pI1), .val (.int pI2), .val (.int (1 : Int32)), .val (.int (3 : Int32)), .unset, .unset, .unset] [(.int (1 : Int32))])) rfl (by rw [hml]; rfl) (argsL := [(.int (1 : Int32))]) (rest := []) (lenOf pd_1 rfl) rfl (by show 2 * 0 + _ ≤ _; exact Nat.le_of_eq rfl) (hb hby at_15) (fun _ _ => ⟨rfl, e0, (by decide : 0 + 0 ≤ _), (by decide : 0 + 0 ≤ _)⟩)
  dsimp only [Pt.U, Pt.locs, Pt.cells, Pt.slots] at X4 l4 y4 z4 st4 hQ4
  subst l4 y4 z4
  obtain ⟨rfl, Nq4, e4⟩ := hQ4
  have N4 := Fr.app N0 Nq4
  obtain ⟨_, _, ⟨T6, L6, k6, n6⟩, -, X6, ⟨Lc6, hQ6, l6, y6, z6⟩, st6⟩ := Jvm.LawKit.callS X4 hx (y := yN0) hown (mvT hZ (ow hw 1 rfl)) (mvT hZ (ow hw 2 rfl)) (mvT hZ (ow hw 3 rfl)) (mvT hZ (ow hw 4 rfl)) (by decide) (backOf (W := 0) (pick3 l Z a0 hw [] pR5 h0 n0 Z0 S_OrderSegment_OBX) hZ (ow hw 4 rfl) (ow hw 3 rfl) (by decide) (by decide)) (g := (mkF m 21 #[.val (.int pI1), .val (.int pI2), .val (.int (1 : Int32)), .val (.int (3 : Int32)), .val (.ref pR3), .unset, .unset] [(.int (3 : Int32))])) rfl (by rw [hml]; rfl) (argsL := [(.int (3 : Int32))]) (rest := []) (lenOf pd_1 rfl) rfl (by show 2 * 0 + _ ≤ _; exact Nat.le_of_eq rfl) (hb hby at_21) (fun _ _ => ⟨rfl, e4, (by decide : 0 + 0 ≤ _), (by decide : 0 + 0 ≤ _)⟩)
  dsimp only [Pt.U, Pt.locs, Pt.cells, Pt.slots] at X6 l6 y6 z6 st6 hQ6
  subst l6 y6 z6
  obtain ⟨rfl, Nq6, e6⟩ := hQ6
  have N6 := Fr.app N4 Nq6
  obtain ⟨cq8, kq8, q8a, q8b, q8c⟩ := isOf hZ e6 E_pR3
  obtain ⟨_, _, ⟨T8, L8, k8, n8⟩, -, X8, ⟨Lc8, hQ8, l8, y8, z8⟩, st8⟩ := X6.virtualBack hx (y := yN3) (z := yN3) hown (mvT hZ (ow hw 10 rfl)) (mvT hZ (ow hw 11 rfl)) (notFace_of_selects (args := #[]) (mvT hZ (ow hw 13 rfl))) (mvT hZ (ow hw 13 rfl)) (mvT hZ (ow hw 12 rfl)) (by decide) (backOf (W := 0) (mf1d l Z a0 hw [] pR3 pR5 pR7 h0 n0 Z0 F_ordinal_pR3 E_pR3 S_OrderSegment_ORC ne_pR5_pR7) hZ (ow hw 14 rfl) (ow hw 6 rfl) (by decide) (by decide)) q8a q8c (g := (mkF m 106 #[.val (.int pI1), .val (.int pI2), .val (.int (1 : Int32)), .val (.int (3 : Int32)), .val (.ref pR3), .val (.ref pR5), .val (.int (0 : Int32))] [(.ref pR5), (.ref pR3)])) rfl (by rw [hml]; rfl) (Steps.refl _) (argsL := [(.ref pR5)]) (rest := []) (lenOf pd_2 rfl) rfl (by show 2 * 0 + _ ≤ _; exact Nat.le_of_eq rfl) (hb hby at_106) (fun _ _ => ⟨rfl, e6, (by decide : 0 + 0 ≤ _), (by decide : 0 + 0 ≤ _)⟩)
  dsimp only [Pt.U, Pt.locs, Pt.cells, Pt.slots] at X8 l8 y8 z8 st8 hQ8
  subst l8 y8 z8
  obtain ⟨rfl, Nq8, e8⟩ := hQ8
  have N8 := Fr.app N6 Nq8
  obtain ⟨fs, hr, hrun, hended, hW, hsame⟩ := X8.leave (v := some (.int (1 : Int32))) (fun h => by rw [Bd.returns] at h; cases h)
  refine ⟨_, _, pre0 _ ?_, hrun, hended, _, _, rfl, ?_, ⟨_, rfl⟩, hW, hsame.mono (by decide) (by decide)⟩
  · show oS p e below s₁ m 0 #[.val (.int pI1), .val (.int pI2), .unset, .unset, .unset, .unset, .unset] [] _
    refine XS.iloadN X0.here hx rfl (hb hby at_0) rfl ?_
    show oS p e below s₁ m 1 #[.val (.int pI1), .val (.int pI2), .unset, .unset, .unset, .unset, .unset] [(.int pI1)] _
    refine X0.ldcInt hx hown (mvT hZ (ow hw 0 rfl)) (g := (mkF m 1 #[.val (.int pI1), .val (.int pI2), .unset, .unset, .unset, .unset, .unset] [(.int pI1)])) rfl (hb hby at_1) _ ?_
    show oS p e below s₁ m 3 #[.val (.int pI1), .val (.int pI2), .unset, .unset, .unset, .unset, .unset] [(.int (2147483647 : Int32)), (.int pI1)] _
    refine XS.iand X0.here hx rfl (hb hby at_3) rfl ?_
    show oS p e below s₁ m 4 #[.val (.int pI1), .val (.int pI2), .unset, .unset, .unset, .unset, .unset] [(.int (pI1 &&& (2147483647 : Int32)))] _
    refine XS.iconst X0.here hx rfl (hb hby at_4) ?_
    show oS p e below s₁ m 5 #[.val (.int pI1), .val (.int pI2), .unset, .unset, .unset, .unset, .unset] [(.int (5 : Int32)), (.int (pI1 &&& (2147483647 : Int32)))] _
    refine iremM (g := (mkF m 5 #[.val (.int pI1), .val (.int pI2), .unset, .unset, .unset, .unset, .unset] [(.int (5 : Int32)), (.int (pI1 &&& (2147483647 : Int32)))])) X0 hx rfl (hb hby at_5) rfl (by decide) ?_
    show Steps p.tables e below (s₁.setTop (mkF m 6 #[.val (.int pI1), .val (.int pI2), .unset, .unset, .unset, .unset, .unset] [(.int ((pI1 &&& (2147483647 : Int32)) % (5 : Int32)))])) _
    rw [hc5]
    show oS p e below s₁ m 6 #[.val (.int pI1), .val (.int pI2), .unset, .unset, .unset, .unset, .unset] [(.int (1 : Int32))] _
    refine XS.istoreN X0.here hx rfl (hb hby at_6) rfl (l' := #[.val (.int pI1), .val (.int pI2), .val (.int (1 : Int32)), .unset, .unset, .unset, .unset]) rfl ?_
    show oS p e below s₁ m 7 #[.val (.int pI1), .val (.int pI2), .val (.int (1 : Int32)), .unset, .unset, .unset, .unset] [] _
    refine XS.iloadN X0.here hx rfl (hb hby at_7) rfl ?_
    show oS p e below s₁ m 8 #[.val (.int pI1), .val (.int pI2), .val (.int (1 : Int32)), .unset, .unset, .unset, .unset] [(.int pI2)] _
    refine X0.ldcInt hx hown (mvT hZ (ow hw 0 rfl)) (g := (mkF m 8 #[.val (.int pI1), .val (.int pI2), .val (.int (1 : Int32)), .unset, .unset, .unset, .unset] [(.int pI2)])) rfl (hb hby at_8) _ ?_
    show oS p e below s₁ m 10 #[.val (.int pI1), .val (.int pI2), .val (.int (1 : Int32)), .unset, .unset, .unset, .unset] [(.int (2147483647 : Int32)), (.int pI2)] _
    refine XS.iand X0.here hx rfl (hb hby at_10) rfl ?_
    show oS p e below s₁ m 11 #[.val (.int pI1), .val (.int pI2), .val (.int (1 : Int32)), .unset, .unset, .unset, .unset] [(.int (pI2 &&& (2147483647 : Int32)))] _
    refine XS.iconst X0.here hx rfl (hb hby at_11) ?_
    show oS p e below s₁ m 12 #[.val (.int pI1), .val (.int pI2), .val (.int (1 : Int32)), .unset, .unset, .unset, .unset] [(.int (5 : Int32)), (.int (pI2 &&& (2147483647 : Int32)))] _
    refine iremM (g := (mkF m 12 #[.val (.int pI1), .val (.int pI2), .val (.int (1 : Int32)), .unset, .unset, .unset, .unset] [(.int (5 : Int32)), (.int (pI2 &&& (2147483647 : Int32)))])) X0 hx rfl (hb hby at_12) rfl (by decide) ?_
    show Steps p.tables e below (s₁.setTop (mkF m 13 #[.val (.int pI1), .val (.int pI2), .val (.int (1 : Int32)), .unset, .unset, .unset, .unset] [(.int ((pI2 &&& (2147483647 : Int32)) % (5 : Int32)))])) _
    rw [hc12]
    show oS p e below s₁ m 13 #[.val (.int pI1), .val (.int pI2), .val (.int (1 : Int32)), .unset, .unset, .unset, .unset] [(.int (3 : Int32))] _
    refine XS.istoreN X0.here hx rfl (hb hby at_13) rfl (l' := #[.val (.int pI1), .val (.int pI2), .val (.int (1 : Int32)), .val (.int (3 : Int32)), .unset, .unset, .unset]) rfl ?_
    show oS p e below s₁ m 14 #[.val (.int pI1), .val (.int pI2), .val (.int (1 : Int32)), .val (.int (3 : Int32)), .unset, .unset, .unset] [] _
    refine XS.iloadN X0.here hx rfl (hb hby at_14) rfl ?_
    show oS p e below s₁ m 15 #[.val (.int pI1), .val (.int pI2), .val (.int (1 : Int32)), .val (.int (3 : Int32)), .unset, .unset, .unset] [(.int (1 : Int32))] _
    refine st4 _ ?_
    show oS p e below T4 m 18 #[.val (.int pI1), .val (.int pI2), .val (.int (1 : Int32)), .val (.int (3 : Int32)), .unset, .unset, .unset] [(.ref pR3)] _
    refine XS.astore X4.here hx rfl (hb hby at_18) rfl rfl (l' := #[.val (.int pI1), .val (.int pI2), .val (.int (1 : Int32)), .val (.int (3 : Int32)), .val (.ref pR3), .unset, .unset]) rfl ?_
    show oS p e below T4 m 20 #[.val (.int pI1), .val (.int pI2), .val (.int (1 : Int32)), .val (.int (3 : Int32)), .val (.ref pR3), .unset, .unset] [] _
    refine XS.iloadN X4.here hx rfl (hb hby at_20) rfl ?_
    show oS p e below T4 m 21 #[.val (.int pI1), .val (.int pI2), .val (.int (1 : Int32)), .val (.int (3 : Int32)), .val (.ref pR3), .unset, .unset] [(.int (3 : Int32))] _
    refine st6 _ ?_
    show oS p e below T6 m 24 #[.val (.int pI1), .val (.int pI2), .val (.int (1 : Int32)), .val (.int (3 : Int32)), .val (.ref pR3), .unset, .unset] [(.ref pR5)] _
    refine XS.astore X6.here hx rfl (hb hby at_24) rfl rfl (l' := #[.val (.int pI1), .val (.int pI2), .val (.int (1 : Int32)), .val (.int (3 : Int32)), .val (.ref pR3), .val (.ref pR5), .unset]) rfl ?_
    show oS p e below T6 m 26 #[.val (.int pI1), .val (.int pI2), .val (.int (1 : Int32)), .val (.int (3 : Int32)), .val (.ref pR3), .val (.ref pR5), .unset] [] _
    refine XS.iloadN X6.here hx rfl (hb hby at_26) rfl ?_
    show oS p e below T6 m 27 #[.val (.int pI1), .val (.int pI2), .val (.int (1 : Int32)), .val (.int (3 : Int32)), .val (.ref pR3), .val (.ref pR5), .unset] [(.int (3 : Int32))] _
    refine XS.ifYes X6.here hx rfl (pc0 := 27) (pc' := 35) rfl (hb hby at_27) rfl ((if0 _ _).trans (feq (by decide : ¬ ((3 : Int32) = (0 : Int32)))).2) (by decide) (by decide) ?_
    show oS p e below T6 m 35 #[.val (.int pI1), .val (.int pI2), .val (.int (1 : Int32)), .val (.int (3 : Int32)), .val (.ref pR3), .val (.ref pR5), .unset] [] _
    refine XS.iloadN X6.here hx rfl (hb hby at_35) rfl ?_
    show oS p e below T6 m 36 #[.val (.int pI1), .val (.int pI2), .val (.int (1 : Int32)), .val (.int (3 : Int32)), .val (.ref pR3), .val (.ref pR5), .unset] [(.int (3 : Int32))] _
    refine XS.iconst X6.here hx rfl (hb hby at_36) ?_
    show oS p e below T6 m 37 #[.val (.int pI1), .val (.int pI2), .val (.int (1 : Int32)), .val (.int (3 : Int32)), .val (.ref pR3), .val (.ref pR5), .unset] [(.int (1 : Int32)), (.int (3 : Int32))] _
    refine XS.icmpYes X6.here hx rfl (pc0 := 37) (pc' := 45) rfl (hb hby at_37) rfl (feq (by decide : ¬ ((3 : Int32) = (1 : Int32)))).2 (by decide) (by decide) ?_
    show oS p e below T6 m 45 #[.val (.int pI1), .val (.int pI2), .val (.int (1 : Int32)), .val (.int (3 : Int32)), .val (.ref pR3), .val (.ref pR5), .unset] [] _
    refine XS.iloadN X6.here hx rfl (hb hby at_45) rfl ?_
    show oS p e below T6 m 46 #[.val (.int pI1), .val (.int pI2), .val (.int (1 : Int32)), .val (.int (3 : Int32)), .val (.ref pR3), .val (.ref pR5), .unset] [(.int (3 : Int32))] _
    refine XS.iconst X6.here hx rfl (hb hby at_46) ?_
    show oS p e below T6 m 47 #[.val (.int pI1), .val (.int pI2), .val (.int (1 : Int32)), .val (.int (3 : Int32)), .val (.ref pR3), .val (.ref pR5), .unset] [(.int (1 : Int32)), (.int (3 : Int32))] _
    refine XS.icmpYes X6.here hx rfl (pc0 := 47) (pc' := 55) rfl (hb hby at_47) rfl (feq (by decide : ¬ ((3 : Int32) = (1 : Int32)))).2 (by decide) (by decide) ?_
    show oS p e below T6 m 55 #[.val (.int pI1), .val (.int pI2), .val (.int (1 : Int32)), .val (.int (3 : Int32)), .val (.ref pR3), .val (.ref pR5), .unset] [] _
    refine XS.iloadN X6.here hx rfl (hb hby at_55) rfl ?_
    show oS p e below T6 m 56 #[.val (.int pI1), .val (.int pI2), .val (.int (1 : Int32)), .val (.int (3 : Int32)), .val (.ref pR3), .val (.ref pR5), .unset] [(.int (3 : Int32))] _
    refine XS.iconst X6.here hx rfl (hb hby at_56) ?_
    show oS p e below T6 m 57 #[.val (.int pI1), .val (.int pI2), .val (.int (1 : Int32)), .val (.int (3 : Int32)), .val (.ref pR3), .val (.ref pR5), .unset] [(.int (2 : Int32)), (.int (3 : Int32))] _
    refine XS.icmpYes X6.here hx rfl (pc0 := 57) (pc' := 65) rfl (hb hby at_57) rfl (feq (by decide : ¬ ((3 : Int32) = (2 : Int32)))).2 (by decide) (by decide) ?_
    show oS p e below T6 m 65 #[.val (.int pI1), .val (.int pI2), .val (.int (1 : Int32)), .val (.int (3 : Int32)), .val (.ref pR3), .val (.ref pR5), .unset] [] _
    refine XS.iloadN X6.here hx rfl (hb hby at_65) rfl ?_
    show oS p e below T6 m 66 #[.val (.int pI1), .val (.int pI2), .val (.int (1 : Int32)), .val (.int (3 : Int32)), .val (.ref pR3), .val (.ref pR5), .unset] [(.int (3 : Int32))] _
    refine XS.iconst X6.here hx rfl (hb hby at_66) ?_
    show oS p e below T6 m 67 #[.val (.int pI1), .val (.int pI2), .val (.int (1 : Int32)), .val (.int (3 : Int32)), .val (.ref pR3), .val (.ref pR5), .unset] [(.int (3 : Int32)), (.int (3 : Int32))] _
    refine XS.icmpNo X6.here hx rfl (hb hby at_67) rfl (teq (by decide : (3 : Int32) = (3 : Int32))).2 ?_
    show oS p e below T6 m 70 #[.val (.int pI1), .val (.int pI2), .val (.int (1 : Int32)), .val (.int (3 : Int32)), .val (.ref pR3), .val (.ref pR5), .unset] [] _
    refine XS.iloadN X6.here hx rfl (hb hby at_70) rfl ?_
    show oS p e below T6 m 71 #[.val (.int pI1), .val (.int pI2), .val (.int (1 : Int32)), .val (.int (3 : Int32)), .val (.ref pR3), .val (.ref pR5), .unset] [(.int (1 : Int32))] _
    refine XS.iconst X6.here hx rfl (hb hby at_71) ?_
    show oS p e below T6 m 72 #[.val (.int pI1), .val (.int pI2), .val (.int (1 : Int32)), .val (.int (3 : Int32)), .val (.ref pR3), .val (.ref pR5), .unset] [(.int (3 : Int32)), (.int (1 : Int32))] _
    refine XS.icmpNo X6.here hx rfl (hb hby at_72) rfl (feq (by decide : ¬ ((1 : Int32) = (3 : Int32)))).1 ?_
    show oS p e below T6 m 75 #[.val (.int pI1), .val (.int pI2), .val (.int (1 : Int32)), .val (.int (3 : Int32)), .val (.ref pR3), .val (.ref pR5), .unset] [] _
    refine XS.iloadN X6.here hx rfl (hb hby at_75) rfl ?_
    show oS p e below T6 m 76 #[.val (.int pI1), .val (.int pI2), .val (.int (1 : Int32)), .val (.int (3 : Int32)), .val (.ref pR3), .val (.ref pR5), .unset] [(.int (3 : Int32))] _
    refine XS.iconst X6.here hx rfl (hb hby at_76) ?_
    show oS p e below T6 m 77 #[.val (.int pI1), .val (.int pI2), .val (.int (1 : Int32)), .val (.int (3 : Int32)), .val (.ref pR3), .val (.ref pR5), .unset] [(.int (4 : Int32)), (.int (3 : Int32))] _
    refine XS.icmpYes X6.here hx rfl (pc0 := 77) (pc' := 85) rfl (hb hby at_77) rfl (feq (by decide : ¬ ((3 : Int32) = (4 : Int32)))).2 (by decide) (by decide) ?_
    show oS p e below T6 m 85 #[.val (.int pI1), .val (.int pI2), .val (.int (1 : Int32)), .val (.int (3 : Int32)), .val (.ref pR3), .val (.ref pR5), .unset] [] _
    refine XS.iloadN X6.here hx rfl (hb hby at_85) rfl ?_
    show oS p e below T6 m 86 #[.val (.int pI1), .val (.int pI2), .val (.int (1 : Int32)), .val (.int (3 : Int32)), .val (.ref pR3), .val (.ref pR5), .unset] [(.int (3 : Int32))] _
    refine XS.iconst X6.here hx rfl (hb hby at_86) ?_
    show oS p e below T6 m 87 #[.val (.int pI1), .val (.int pI2), .val (.int (1 : Int32)), .val (.int (3 : Int32)), .val (.ref pR3), .val (.ref pR5), .unset] [(.int (3 : Int32)), (.int (3 : Int32))] _
    refine XS.icmpNo X6.here hx rfl (hb hby at_87) rfl (teq (by decide : (3 : Int32) = (3 : Int32))).2 ?_
    show oS p e below T6 m 90 #[.val (.int pI1), .val (.int pI2), .val (.int (1 : Int32)), .val (.int (3 : Int32)), .val (.ref pR3), .val (.ref pR5), .unset] [] _
    refine XS.iloadN X6.here hx rfl (hb hby at_90) rfl ?_
    show oS p e below T6 m 91 #[.val (.int pI1), .val (.int pI2), .val (.int (1 : Int32)), .val (.int (3 : Int32)), .val (.ref pR3), .val (.ref pR5), .unset] [(.int (1 : Int32))] _
    refine XS.iconst X6.here hx rfl (hb hby at_91) ?_
    show oS p e below T6 m 92 #[.val (.int pI1), .val (.int pI2), .val (.int (1 : Int32)), .val (.int (3 : Int32)), .val (.ref pR3), .val (.ref pR5), .unset] [(.int (4 : Int32)), (.int (1 : Int32))] _
    refine XS.icmpYes X6.here hx rfl (pc0 := 92) (pc' := 99) rfl (hb hby at_92) rfl (feq (by decide : ¬ ((1 : Int32) = (4 : Int32)))).2 (by decide) (by decide) ?_
    show oS p e below T6 m 99 #[.val (.int pI1), .val (.int pI2), .val (.int (1 : Int32)), .val (.int (3 : Int32)), .val (.ref pR3), .val (.ref pR5), .unset] [] _
    refine XS.iconst X6.here hx rfl (hb hby at_99) ?_
    show oS p e below T6 m 100 #[.val (.int pI1), .val (.int pI2), .val (.int (1 : Int32)), .val (.int (3 : Int32)), .val (.ref pR3), .val (.ref pR5), .unset] [(.int (0 : Int32))] _
    refine XS.istore X6.here hx rfl (hb hby at_100) rfl (l' := #[.val (.int pI1), .val (.int pI2), .val (.int (1 : Int32)), .val (.int (3 : Int32)), .val (.ref pR3), .val (.ref pR5), .val (.int (0 : Int32))]) rfl ?_
    show oS p e below T6 m 102 #[.val (.int pI1), .val (.int pI2), .val (.int (1 : Int32)), .val (.int (3 : Int32)), .val (.ref pR3), .val (.ref pR5), .val (.int (0 : Int32))] [] _
    refine XS.aload X6.here hx rfl (hb hby at_102) rfl rfl ?_
    show oS p e below T6 m 104 #[.val (.int pI1), .val (.int pI2), .val (.int (1 : Int32)), .val (.int (3 : Int32)), .val (.ref pR3), .val (.ref pR5), .val (.int (0 : Int32))] [(.ref pR3)] _
    refine XS.aload X6.here hx rfl (hb hby at_104) rfl rfl ?_
    show oS p e below T6 m 106 #[.val (.int pI1), .val (.int pI2), .val (.int (1 : Int32)), .val (.int (3 : Int32)), .val (.ref pR3), .val (.ref pR5), .val (.int (0 : Int32))] [(.ref pR5), (.ref pR3)] _
    refine st8.trans ?_
    show oS p e below T8 m 109 #[.val (.int pI1), .val (.int pI2), .val (.int (1 : Int32)), .val (.int (3 : Int32)), .val (.ref pR3), .val (.ref pR5), .val (.int (0 : Int32))] [(.int (0 : Int32))] _
    refine XS.iload X8.here hx rfl (hb hby at_109) rfl ?_
    show oS p e below T8 m 111 #[.val (.int pI1), .val (.int pI2), .val (.int (1 : Int32)), .val (.int (3 : Int32)), .val (.ref pR3), .val (.ref pR5), .val (.int (0 : Int32))] [(.int (0 : Int32)), (.int (0 : Int32))] _
    refine XS.icmpNo X8.here hx rfl (hb hby at_111) rfl (teq (by decide : (0 : Int32) = (0 : Int32))).2 ?_
    show oS p e below T8 m 114 #[.val (.int pI1), .val (.int pI2), .val (.int (1 : Int32)), .val (.int (3 : Int32)), .val (.ref pR3), .val (.ref pR5), .val (.int (0 : Int32))] [] _
    refine XS.iconst X8.here hx rfl (hb hby at_114) ?_
    show oS p e below T8 m 115 #[.val (.int pI1), .val (.int pI2), .val (.int (1 : Int32)), .val (.int (3 : Int32)), .val (.ref pR3), .val (.ref pR5), .val (.int (0 : Int32))] [(.int (1 : Int32))] _
    refine XS.goto X8.here hx rfl (pc0 := 115) (pc' := 119) rfl (hb hby at_115) (by decide) (by decide) ?_
    show oS p e below T8 m 119 #[.val (.int pI1), .val (.int pI2), .val (.int (1 : Int32)), .val (.int (3 : Int32)), .val (.ref pR3), .val (.ref pR5), .val (.int (0 : Int32))] [(.int (1 : Int32))] _
    exact retN X8 hx (t := .boolean) Bd.returns (by simp) (hb hby at_119) hr
  · show Qlaw1_3 Z pI1 pI2 pR3 pR5 pR7 h0 n0 _ T8.heap _
    rw [e8]
    exact ⟨rfl, N8⟩
theorem ef_law1_4 (m : MethodId) (pI1 : Int32) (pI2 : Int32) : entryFrame m #[(.int pI1), (.int pI2)] maxLocals = mkF m 0 #[.val (.int pI1), .val (.int pI2), .unset, .unset, .unset, .unset, .unset] [] := by first | (simp [entryFrame, mkF, argsToLocals, Value.category, maxLocals]; done) | rfl
def Qlaw1_4 (Z : State) (pI1 : Int32) (pI2 : Int32) (pR3 : Addr) (pR5 : Addr) (pR7 : Addr) (h0 : Heap) (n0 : Nat) (v : Option Value) (h : Heap) (L : List Loc) : Prop := v = some (.int (1 : Int32)) ∧ Fr n0 L
set_option maxRecDepth 65536 in
set_option maxHeartbeats 40000000 in
theorem law1_4 (l : Launch) (Z : State) (a0 : Array Value) (hw : ∀ d ∈ tables_1, d.before a0 Z = true) (ws : List Jvm.Cond) (pI1 : Int32) (pI2 : Int32) (pR3 : Addr) (pR5 : Addr) (pR7 : Addr) (h0 : Heap) (n0 : Nat) (Z0 : n0 ≤ h0.size) (S_OrderSegment_RXA : Sta Z h0 "com/example/vaxwire/vaxwire/reply/OrderSegment" "RXA" "Lcom/example/vaxwire/vaxwire/reply/OrderSegment;" (.ref pR3)) (S_OrderSegment_NTE : Sta Z h0 "com/example/vaxwire/vaxwire/reply/OrderSegment" "NTE" "Lcom/example/vaxwire/vaxwire/reply/OrderSegment;" (.ref pR5)) (F_ordinal_pR3 : Fld Z h0 pR3 "java/lang/Enum" "ordinal" "I" (.int (1 : Int32))) (E_pR3 : Exa Z h0 pR3 "com/example/vaxwire/vaxwire/reply/OrderSegment") (S_OrderSegment_ORC : Sta Z h0 "com/example/vaxwire/vaxwire/reply/OrderSegment" "ORC" "Lcom/example/vaxwire/vaxwire/reply/OrderSegment;" (.ref pR7)) (ne_pR5_pR7 : pR5 ≠ pR7) (hc5 : ((pI1 &&& (2147483647 : Int32)) % (5 : Int32)) = (1 : Int32)) (hc12 : ((pI2 &&& (2147483647 : Int32)) % (5 : Int32)) = (4 : Int32)) :
    MetFree l x (head1 (Jvm.Cond.code x code maxLocals ret :: ws) room_1) (fun a U => a = #[(.int pI1), (.int pI2)] ∧ Z.Warmed39 U.vm ∧ U.heap = h0) (fun _ _ _ _ _ => True) (fun _ U o U' => ∃ v L, o = .returned v ∧ Qlaw1_4 Z pI1 pI2 pR3 pR5 pR7 h0 n0 v U'.heap L ∧ FrameEnd U o U' L room_1.cells room_1.slots) := by
  refine MetFree.of_bodySF (plainFor_of_name pn_0) hisR ?_
  intro p e s m args below meth c s₁ Bd hml0 hP hK
  obtain ⟨rfl, hZ, hh⟩ := hP
  have hx := Bd.exec
  have hby := Bd.bytes
  have hml : c.maxLocals = 7 := hml0
  have hown : s.vm.findClass "com/example/vaxwire/vaxwire/reply/OrderSegmentMayFollowPinLaw" = some m.cls := findClass_of_methodNamed Bd.named
  have hnm := (name_of_methodNamed Bd.named Bd.method).1
  have X0 : Stand p l e room_1 s m #[(.int pI1), (.int pI2)] below meth c s₁ [] 0 0 := Stand.of_body Bd
  have e0 : s₁.heap = h0 := by rw [← hh, Bd.state]; rfl
  have N0 := Fr.nil n0
  have pre0 : ∀ t, Steps p.tables e below (s₁.setTop (mkF m 0 #[.val (.int pI1), .val (.int pI2), .unset, .unset, .unset, .unset, .unset] [])) t → Steps p.tables e below (s₁.setTop (entryFrame m #[(.int pI1), (.int pI2)] maxLocals)) t := fun t k => castTop (ef_law1_4 m pI1 pI2) k
  obtain ⟨_, _, ⟨T4, L4, k4, n4⟩, -, X4, ⟨Lc4, hQ4, l4, y4, z4⟩, st4⟩ := Jvm.LawKit.callS X0 hx (y := yN0) hown (mvT hZ (ow hw 1 rfl)) (mvT hZ (ow hw 2 rfl)) (mvT hZ (ow hw 3 rfl)) (mvT hZ (ow hw 4 rfl)) (by decide) (backOf (W := 0) (pick1 l Z a0 hw [] pR3 h0 n0 Z0 S_OrderSegment_RXA) hZ (ow hw 4 rfl) (ow hw 3 rfl) (by decide) (by decide)) (g := (mkF m 15 #[.val (.int pI1), .val (.int pI2), .val (.int (1 : Int32)), .val (.int (4 : Int32)), .unset, .unset, .unset] [(.int (1 : Int32))])) rfl (by rw [hml]; rfl) (argsL := [(.int (1 : Int32))]) (rest := []) (lenOf pd_1 rfl) rfl (by show 2 * 0 + _ ≤ _; exact Nat.le_of_eq rfl) (hb hby at_15) (fun _ _ => ⟨rfl, e0, (by decide : 0 + 0 ≤ _), (by decide : 0 + 0 ≤ _)⟩)
  dsimp only [Pt.U, Pt.locs, Pt.cells, Pt.slots] at X4 l4 y4 z4 st4 hQ4
  subst l4 y4 z4
  obtain ⟨rfl, Nq4, e4⟩ := hQ4
  have N4 := Fr.app N0 Nq4
  obtain ⟨_, _, ⟨T6, L6, k6, n6⟩, -, X6, ⟨Lc6, hQ6, l6, y6, z6⟩, st6⟩ := Jvm.LawKit.callS X4 hx (y := yN0) hown (mvT hZ (ow hw 1 rfl)) (mvT hZ (ow hw 2 rfl)) (mvT hZ (ow hw 3 rfl)) (mvT hZ (ow hw 4 rfl)) (by decide) (backOf (W := 0) (pick4 l Z a0 hw [] pR5 h0 n0 Z0 S_OrderSegment_NTE) hZ (ow hw 4 rfl) (ow hw 3 rfl) (by decide) (by decide)) (g := (mkF m 21 #[.val (.int pI1), .val (.int pI2), .val (.int (1 : Int32)), .val (.int (4 : Int32)), .val (.ref pR3), .unset, .unset] [(.int (4 : Int32))])) rfl (by rw [hml]; rfl) (argsL := [(.int (4 : Int32))]) (rest := []) (lenOf pd_1 rfl) rfl (by show 2 * 0 + _ ≤ _; exact Nat.le_of_eq rfl) (hb hby at_21) (fun _ _ => ⟨rfl, e4, (by decide : 0 + 0 ≤ _), (by decide : 0 + 0 ≤ _)⟩)
  dsimp only [Pt.U, Pt.locs, Pt.cells, Pt.slots] at X6 l6 y6 z6 st6 hQ6
  subst l6 y6 z6
  obtain ⟨rfl, Nq6, e6⟩ := hQ6
  have N6 := Fr.app N4 Nq6
  obtain ⟨cq8, kq8, q8a, q8b, q8c⟩ := isOf hZ e6 E_pR3
  obtain ⟨_, _, ⟨T8, L8, k8, n8⟩, -, X8, ⟨Lc8, hQ8, l8, y8, z8⟩, st8⟩ := X6.virtualBack hx (y := yN3) (z := yN3) hown (mvT hZ (ow hw 10 rfl)) (mvT hZ (ow hw 11 rfl)) (notFace_of_selects (args := #[]) (mvT hZ (ow hw 13 rfl))) (mvT hZ (ow hw 13 rfl)) (mvT hZ (ow hw 12 rfl)) (by decide) (backOf (W := 0) (mf1d l Z a0 hw [] pR3 pR5 pR7 h0 n0 Z0 F_ordinal_pR3 E_pR3 S_OrderSegment_ORC ne_pR5_pR7) hZ (ow hw 14 rfl) (ow hw 6 rfl) (by decide) (by decide)) q8a q8c (g := (mkF m 106 #[.val (.int pI1), .val (.int pI2), .val (.int (1 : Int32)), .val (.int (4 : Int32)), .val (.ref pR3), .val (.ref pR5), .val (.int (0 : Int32))] [(.ref pR5), (.ref pR3)])) rfl (by rw [hml]; rfl) (Steps.refl _) (argsL := [(.ref pR5)]) (rest := []) (lenOf pd_2 rfl) rfl (by show 2 * 0 + _ ≤ _; exact Nat.le_of_eq rfl) (hb hby at_106) (fun _ _ => ⟨rfl, e6, (by decide : 0 + 0 ≤ _), (by decide : 0 + 0 ≤ _)⟩)
  dsimp only [Pt.U, Pt.locs, Pt.cells, Pt.slots] at X8 l8 y8 z8 st8 hQ8
  subst l8 y8 z8
  obtain ⟨rfl, Nq8, e8⟩ := hQ8
  have N8 := Fr.app N6 Nq8
  obtain ⟨fs, hr, hrun, hended, hW, hsame⟩ := X8.leave (v := some (.int (1 : Int32))) (fun h => by rw [Bd.returns] at h; cases h)
  refine ⟨_, _, pre0 _ ?_, hrun, hended, _, _, rfl, ?_, ⟨_, rfl⟩, hW, hsame.mono (by decide) (by decide)⟩
  · show oS p e below s₁ m 0 #[.val (.int pI1), .val (.int pI2), .unset, .unset, .unset, .unset, .unset] [] _
    refine XS.iloadN X0.here hx rfl (hb hby at_0) rfl ?_
    show oS p e below s₁ m 1 #[.val (.int pI1), .val (.int pI2), .unset, .unset, .unset, .unset, .unset] [(.int pI1)] _
    refine X0.ldcInt hx hown (mvT hZ (ow hw 0 rfl)) (g := (mkF m 1 #[.val (.int pI1), .val (.int pI2), .unset, .unset, .unset, .unset, .unset] [(.int pI1)])) rfl (hb hby at_1) _ ?_
    show oS p e below s₁ m 3 #[.val (.int pI1), .val (.int pI2), .unset, .unset, .unset, .unset, .unset] [(.int (2147483647 : Int32)), (.int pI1)] _
    refine XS.iand X0.here hx rfl (hb hby at_3) rfl ?_
    show oS p e below s₁ m 4 #[.val (.int pI1), .val (.int pI2), .unset, .unset, .unset, .unset, .unset] [(.int (pI1 &&& (2147483647 : Int32)))] _
    refine XS.iconst X0.here hx rfl (hb hby at_4) ?_
    show oS p e below s₁ m 5 #[.val (.int pI1), .val (.int pI2), .unset, .unset, .unset, .unset, .unset] [(.int (5 : Int32)), (.int (pI1 &&& (2147483647 : Int32)))] _
    refine iremM (g := (mkF m 5 #[.val (.int pI1), .val (.int pI2), .unset, .unset, .unset, .unset, .unset] [(.int (5 : Int32)), (.int (pI1 &&& (2147483647 : Int32)))])) X0 hx rfl (hb hby at_5) rfl (by decide) ?_
    show Steps p.tables e below (s₁.setTop (mkF m 6 #[.val (.int pI1), .val (.int pI2), .unset, .unset, .unset, .unset, .unset] [(.int ((pI1 &&& (2147483647 : Int32)) % (5 : Int32)))])) _
    rw [hc5]
    show oS p e below s₁ m 6 #[.val (.int pI1), .val (.int pI2), .unset, .unset, .unset, .unset, .unset] [(.int (1 : Int32))] _
    refine XS.istoreN X0.here hx rfl (hb hby at_6) rfl (l' := #[.val (.int pI1), .val (.int pI2), .val (.int (1 : Int32)), .unset, .unset, .unset, .unset]) rfl ?_
    show oS p e below s₁ m 7 #[.val (.int pI1), .val (.int pI2), .val (.int (1 : Int32)), .unset, .unset, .unset, .unset] [] _
    refine XS.iloadN X0.here hx rfl (hb hby at_7) rfl ?_
    show oS p e below s₁ m 8 #[.val (.int pI1), .val (.int pI2), .val (.int (1 : Int32)), .unset, .unset, .unset, .unset] [(.int pI2)] _
    refine X0.ldcInt hx hown (mvT hZ (ow hw 0 rfl)) (g := (mkF m 8 #[.val (.int pI1), .val (.int pI2), .val (.int (1 : Int32)), .unset, .unset, .unset, .unset] [(.int pI2)])) rfl (hb hby at_8) _ ?_
    show oS p e below s₁ m 10 #[.val (.int pI1), .val (.int pI2), .val (.int (1 : Int32)), .unset, .unset, .unset, .unset] [(.int (2147483647 : Int32)), (.int pI2)] _
    refine XS.iand X0.here hx rfl (hb hby at_10) rfl ?_
    show oS p e below s₁ m 11 #[.val (.int pI1), .val (.int pI2), .val (.int (1 : Int32)), .unset, .unset, .unset, .unset] [(.int (pI2 &&& (2147483647 : Int32)))] _
    refine XS.iconst X0.here hx rfl (hb hby at_11) ?_
    show oS p e below s₁ m 12 #[.val (.int pI1), .val (.int pI2), .val (.int (1 : Int32)), .unset, .unset, .unset, .unset] [(.int (5 : Int32)), (.int (pI2 &&& (2147483647 : Int32)))] _
    refine iremM (g := (mkF m 12 #[.val (.int pI1), .val (.int pI2), .val (.int (1 : Int32)), .unset, .unset, .unset, .unset] [(.int (5 : Int32)), (.int (pI2 &&& (2147483647 : Int32)))])) X0 hx rfl (hb hby at_12) rfl (by decide) ?_
    show Steps p.tables e below (s₁.setTop (mkF m 13 #[.val (.int pI1), .val (.int pI2), .val (.int (1 : Int32)), .unset, .unset, .unset, .unset] [(.int ((pI2 &&& (2147483647 : Int32)) % (5 : Int32)))])) _
    rw [hc12]
    show oS p e below s₁ m 13 #[.val (.int pI1), .val (.int pI2), .val (.int (1 : Int32)), .unset, .unset, .unset, .unset] [(.int (4 : Int32))] _
    refine XS.istoreN X0.here hx rfl (hb hby at_13) rfl (l' := #[.val (.int pI1), .val (.int pI2), .val (.int (1 : Int32)), .val (.int (4 : Int32)), .unset, .unset, .unset]) rfl ?_
    show oS p e below s₁ m 14 #[.val (.int pI1), .val (.int pI2), .val (.int (1 : Int32)), .val (.int (4 : Int32)), .unset, .unset, .unset] [] _
    refine XS.iloadN X0.here hx rfl (hb hby at_14) rfl ?_
    show oS p e below s₁ m 15 #[.val (.int pI1), .val (.int pI2), .val (.int (1 : Int32)), .val (.int (4 : Int32)), .unset, .unset, .unset] [(.int (1 : Int32))] _
    refine st4 _ ?_
    show oS p e below T4 m 18 #[.val (.int pI1), .val (.int pI2), .val (.int (1 : Int32)), .val (.int (4 : Int32)), .unset, .unset, .unset] [(.ref pR3)] _
    refine XS.astore X4.here hx rfl (hb hby at_18) rfl rfl (l' := #[.val (.int pI1), .val (.int pI2), .val (.int (1 : Int32)), .val (.int (4 : Int32)), .val (.ref pR3), .unset, .unset]) rfl ?_
    show oS p e below T4 m 20 #[.val (.int pI1), .val (.int pI2), .val (.int (1 : Int32)), .val (.int (4 : Int32)), .val (.ref pR3), .unset, .unset] [] _
    refine XS.iloadN X4.here hx rfl (hb hby at_20) rfl ?_
    show oS p e below T4 m 21 #[.val (.int pI1), .val (.int pI2), .val (.int (1 : Int32)), .val (.int (4 : Int32)), .val (.ref pR3), .unset, .unset] [(.int (4 : Int32))] _
    refine st6 _ ?_
    show oS p e below T6 m 24 #[.val (.int pI1), .val (.int pI2), .val (.int (1 : Int32)), .val (.int (4 : Int32)), .val (.ref pR3), .unset, .unset] [(.ref pR5)] _
    refine XS.astore X6.here hx rfl (hb hby at_24) rfl rfl (l' := #[.val (.int pI1), .val (.int pI2), .val (.int (1 : Int32)), .val (.int (4 : Int32)), .val (.ref pR3), .val (.ref pR5), .unset]) rfl ?_
    show oS p e below T6 m 26 #[.val (.int pI1), .val (.int pI2), .val (.int (1 : Int32)), .val (.int (4 : Int32)), .val (.ref pR3), .val (.ref pR5), .unset] [] _
    refine XS.iloadN X6.here hx rfl (hb hby at_26) rfl ?_
    show oS p e below T6 m 27 #[.val (.int pI1), .val (.int pI2), .val (.int (1 : Int32)), .val (.int (4 : Int32)), .val (.ref pR3), .val (.ref pR5), .unset] [(.int (4 : Int32))] _
    refine XS.ifYes X6.here hx rfl (pc0 := 27) (pc' := 35) rfl (hb hby at_27) rfl ((if0 _ _).trans (feq (by decide : ¬ ((4 : Int32) = (0 : Int32)))).2) (by decide) (by decide) ?_
    show oS p e below T6 m 35 #[.val (.int pI1), .val (.int pI2), .val (.int (1 : Int32)), .val (.int (4 : Int32)), .val (.ref pR3), .val (.ref pR5), .unset] [] _
    refine XS.iloadN X6.here hx rfl (hb hby at_35) rfl ?_
    show oS p e below T6 m 36 #[.val (.int pI1), .val (.int pI2), .val (.int (1 : Int32)), .val (.int (4 : Int32)), .val (.ref pR3), .val (.ref pR5), .unset] [(.int (4 : Int32))] _
    refine XS.iconst X6.here hx rfl (hb hby at_36) ?_
    show oS p e below T6 m 37 #[.val (.int pI1), .val (.int pI2), .val (.int (1 : Int32)), .val (.int (4 : Int32)), .val (.ref pR3), .val (.ref pR5), .unset] [(.int (1 : Int32)), (.int (4 : Int32))] _
    refine XS.icmpYes X6.here hx rfl (pc0 := 37) (pc' := 45) rfl (hb hby at_37) rfl (feq (by decide : ¬ ((4 : Int32) = (1 : Int32)))).2 (by decide) (by decide) ?_
    show oS p e below T6 m 45 #[.val (.int pI1), .val (.int pI2), .val (.int (1 : Int32)), .val (.int (4 : Int32)), .val (.ref pR3), .val (.ref pR5), .unset] [] _
    refine XS.iloadN X6.here hx rfl (hb hby at_45) rfl ?_
    show oS p e below T6 m 46 #[.val (.int pI1), .val (.int pI2), .val (.int (1 : Int32)), .val (.int (4 : Int32)), .val (.ref pR3), .val (.ref pR5), .unset] [(.int (4 : Int32))] _
    refine XS.iconst X6.here hx rfl (hb hby at_46) ?_
    show oS p e below T6 m 47 #[.val (.int pI1), .val (.int pI2), .val (.int (1 : Int32)), .val (.int (4 : Int32)), .val (.ref pR3), .val (.ref pR5), .unset] [(.int (1 : Int32)), (.int (4 : Int32))] _
    refine XS.icmpYes X6.here hx rfl (pc0 := 47) (pc' := 55) rfl (hb hby at_47) rfl (feq (by decide : ¬ ((4 : Int32) = (1 : Int32)))).2 (by decide) (by decide) ?_
    show oS p e below T6 m 55 #[.val (.int pI1), .val (.int pI2), .val (.int (1 : Int32)), .val (.int (4 : Int32)), .val (.ref pR3), .val (.ref pR5), .unset] [] _
    refine XS.iloadN X6.here hx rfl (hb hby at_55) rfl ?_
    show oS p e below T6 m 56 #[.val (.int pI1), .val (.int pI2), .val (.int (1 : Int32)), .val (.int (4 : Int32)), .val (.ref pR3), .val (.ref pR5), .unset] [(.int (4 : Int32))] _
    refine XS.iconst X6.here hx rfl (hb hby at_56) ?_
    show oS p e below T6 m 57 #[.val (.int pI1), .val (.int pI2), .val (.int (1 : Int32)), .val (.int (4 : Int32)), .val (.ref pR3), .val (.ref pR5), .unset] [(.int (2 : Int32)), (.int (4 : Int32))] _
    refine XS.icmpYes X6.here hx rfl (pc0 := 57) (pc' := 65) rfl (hb hby at_57) rfl (feq (by decide : ¬ ((4 : Int32) = (2 : Int32)))).2 (by decide) (by decide) ?_
    show oS p e below T6 m 65 #[.val (.int pI1), .val (.int pI2), .val (.int (1 : Int32)), .val (.int (4 : Int32)), .val (.ref pR3), .val (.ref pR5), .unset] [] _
    refine XS.iloadN X6.here hx rfl (hb hby at_65) rfl ?_
    show oS p e below T6 m 66 #[.val (.int pI1), .val (.int pI2), .val (.int (1 : Int32)), .val (.int (4 : Int32)), .val (.ref pR3), .val (.ref pR5), .unset] [(.int (4 : Int32))] _
    refine XS.iconst X6.here hx rfl (hb hby at_66) ?_
    show oS p e below T6 m 67 #[.val (.int pI1), .val (.int pI2), .val (.int (1 : Int32)), .val (.int (4 : Int32)), .val (.ref pR3), .val (.ref pR5), .unset] [(.int (3 : Int32)), (.int (4 : Int32))] _
    refine XS.icmpYes X6.here hx rfl (pc0 := 67) (pc' := 75) rfl (hb hby at_67) rfl (feq (by decide : ¬ ((4 : Int32) = (3 : Int32)))).2 (by decide) (by decide) ?_
    show oS p e below T6 m 75 #[.val (.int pI1), .val (.int pI2), .val (.int (1 : Int32)), .val (.int (4 : Int32)), .val (.ref pR3), .val (.ref pR5), .unset] [] _
    refine XS.iloadN X6.here hx rfl (hb hby at_75) rfl ?_
    show oS p e below T6 m 76 #[.val (.int pI1), .val (.int pI2), .val (.int (1 : Int32)), .val (.int (4 : Int32)), .val (.ref pR3), .val (.ref pR5), .unset] [(.int (4 : Int32))] _
    refine XS.iconst X6.here hx rfl (hb hby at_76) ?_
    show oS p e below T6 m 77 #[.val (.int pI1), .val (.int pI2), .val (.int (1 : Int32)), .val (.int (4 : Int32)), .val (.ref pR3), .val (.ref pR5), .unset] [(.int (4 : Int32)), (.int (4 : Int32))] _
    refine XS.icmpNo X6.here hx rfl (hb hby at_77) rfl (teq (by decide : (4 : Int32) = (4 : Int32))).2 ?_
    show oS p e below T6 m 80 #[.val (.int pI1), .val (.int pI2), .val (.int (1 : Int32)), .val (.int (4 : Int32)), .val (.ref pR3), .val (.ref pR5), .unset] [] _
    refine XS.iloadN X6.here hx rfl (hb hby at_80) rfl ?_
    show oS p e below T6 m 81 #[.val (.int pI1), .val (.int pI2), .val (.int (1 : Int32)), .val (.int (4 : Int32)), .val (.ref pR3), .val (.ref pR5), .unset] [(.int (1 : Int32))] _
    refine XS.iconst X6.here hx rfl (hb hby at_81) ?_
    show oS p e below T6 m 82 #[.val (.int pI1), .val (.int pI2), .val (.int (1 : Int32)), .val (.int (4 : Int32)), .val (.ref pR3), .val (.ref pR5), .unset] [(.int (3 : Int32)), (.int (1 : Int32))] _
    refine XS.icmpNo X6.here hx rfl (hb hby at_82) rfl (feq (by decide : ¬ ((1 : Int32) = (3 : Int32)))).1 ?_
    show oS p e below T6 m 85 #[.val (.int pI1), .val (.int pI2), .val (.int (1 : Int32)), .val (.int (4 : Int32)), .val (.ref pR3), .val (.ref pR5), .unset] [] _
    refine XS.iloadN X6.here hx rfl (hb hby at_85) rfl ?_
    show oS p e below T6 m 86 #[.val (.int pI1), .val (.int pI2), .val (.int (1 : Int32)), .val (.int (4 : Int32)), .val (.ref pR3), .val (.ref pR5), .unset] [(.int (4 : Int32))] _
    refine XS.iconst X6.here hx rfl (hb hby at_86) ?_
    show oS p e below T6 m 87 #[.val (.int pI1), .val (.int pI2), .val (.int (1 : Int32)), .val (.int (4 : Int32)), .val (.ref pR3), .val (.ref pR5), .unset] [(.int (3 : Int32)), (.int (4 : Int32))] _
    refine XS.icmpYes X6.here hx rfl (pc0 := 87) (pc' := 99) rfl (hb hby at_87) rfl (feq (by decide : ¬ ((4 : Int32) = (3 : Int32)))).2 (by decide) (by decide) ?_
    show oS p e below T6 m 99 #[.val (.int pI1), .val (.int pI2), .val (.int (1 : Int32)), .val (.int (4 : Int32)), .val (.ref pR3), .val (.ref pR5), .unset] [] _
    refine XS.iconst X6.here hx rfl (hb hby at_99) ?_
    show oS p e below T6 m 100 #[.val (.int pI1), .val (.int pI2), .val (.int (1 : Int32)), .val (.int (4 : Int32)), .val (.ref pR3), .val (.ref pR5), .unset] [(.int (0 : Int32))] _
    refine XS.istore X6.here hx rfl (hb hby at_100) rfl (l' := #[.val (.int pI1), .val (.int pI2), .val (.int (1 : Int32)), .val (.int (4 : Int32)), .val (.ref pR3), .val (.ref pR5), .val (.int (0 : Int32))]) rfl ?_
    show oS p e below T6 m 102 #[.val (.int pI1), .val (.int pI2), .val (.int (1 : Int32)), .val (.int (4 : Int32)), .val (.ref pR3), .val (.ref pR5), .val (.int (0 : Int32))] [] _
    refine XS.aload X6.here hx rfl (hb hby at_102) rfl rfl ?_
    show oS p e below T6 m 104 #[.val (.int pI1), .val (.int pI2), .val (.int (1 : Int32)), .val (.int (4 : Int32)), .val (.ref pR3), .val (.ref pR5), .val (.int (0 : Int32))] [(.ref pR3)] _
    refine XS.aload X6.here hx rfl (hb hby at_104) rfl rfl ?_
    show oS p e below T6 m 106 #[.val (.int pI1), .val (.int pI2), .val (.int (1 : Int32)), .val (.int (4 : Int32)), .val (.ref pR3), .val (.ref pR5), .val (.int (0 : Int32))] [(.ref pR5), (.ref pR3)] _
    refine st8.trans ?_
    show oS p e below T8 m 109 #[.val (.int pI1), .val (.int pI2), .val (.int (1 : Int32)), .val (.int (4 : Int32)), .val (.ref pR3), .val (.ref pR5), .val (.int (0 : Int32))] [(.int (0 : Int32))] _
    refine XS.iload X8.here hx rfl (hb hby at_109) rfl ?_
    show oS p e below T8 m 111 #[.val (.int pI1), .val (.int pI2), .val (.int (1 : Int32)), .val (.int (4 : Int32)), .val (.ref pR3), .val (.ref pR5), .val (.int (0 : Int32))] [(.int (0 : Int32)), (.int (0 : Int32))] _
    refine XS.icmpNo X8.here hx rfl (hb hby at_111) rfl (teq (by decide : (0 : Int32) = (0 : Int32))).2 ?_
    show oS p e below T8 m 114 #[.val (.int pI1), .val (.int pI2), .val (.int (1 : Int32)), .val (.int (4 : Int32)), .val (.ref pR3), .val (.ref pR5), .val (.int (0 : Int32))] [] _
    refine XS.iconst X8.here hx rfl (hb hby at_114) ?_
    show oS p e below T8 m 115 #[.val (.int pI1), .val (.int pI2), .val (.int (1 : Int32)), .val (.int (4 : Int32)), .val (.ref pR3), .val (.ref pR5), .val (.int (0 : Int32))] [(.int (1 : Int32))] _
    refine XS.goto X8.here hx rfl (pc0 := 115) (pc' := 119) rfl (hb hby at_115) (by decide) (by decide) ?_
    show oS p e below T8 m 119 #[.val (.int pI1), .val (.int pI2), .val (.int (1 : Int32)), .val (.int (4 : Int32)), .val (.ref pR3), .val (.ref pR5), .val (.int (0 : Int32))] [(.int (1 : Int32))] _
    exact retN X8 hx (t := .boolean) Bd.returns (by simp) (hb hby at_119) hr
  · show Qlaw1_4 Z pI1 pI2 pR3 pR5 pR7 h0 n0 _ T8.heap _
    rw [e8]
    exact ⟨rfl, N8⟩
theorem ef_law2_0 (m : MethodId) (pI1 : Int32) (pI2 : Int32) : entryFrame m #[(.int pI1), (.int pI2)] maxLocals = mkF m 0 #[.val (.int pI1), .val (.int pI2), .unset, .unset, .unset, .unset, .unset] [] := by first | (simp [entryFrame, mkF, argsToLocals, Value.category, maxLocals]; done) | rfl
def Qlaw2_0 (Z : State) (pI1 : Int32) (pI2 : Int32) (pR3 : Addr) (pR5 : Addr) (pR7 : Addr) (h0 : Heap) (n0 : Nat) (v : Option Value) (h : Heap) (L : List Loc) : Prop := v = some (.int (1 : Int32)) ∧ Fr n0 L
set_option maxRecDepth 65536 in
set_option maxHeartbeats 40000000 in
theorem law2_0 (l : Launch) (Z : State) (a0 : Array Value) (hw : ∀ d ∈ tables_1, d.before a0 Z = true) (ws : List Jvm.Cond) (pI1 : Int32) (pI2 : Int32) (pR3 : Addr) (pR5 : Addr) (pR7 : Addr) (h0 : Heap) (n0 : Nat) (Z0 : n0 ≤ h0.size) (S_OrderSegment_RXR : Sta Z h0 "com/example/vaxwire/vaxwire/reply/OrderSegment" "RXR" "Lcom/example/vaxwire/vaxwire/reply/OrderSegment;" (.ref pR3)) (S_OrderSegment_ORC : Sta Z h0 "com/example/vaxwire/vaxwire/reply/OrderSegment" "ORC" "Lcom/example/vaxwire/vaxwire/reply/OrderSegment;" (.ref pR5)) (F_ordinal_pR3 : Fld Z h0 pR3 "java/lang/Enum" "ordinal" "I" (.int (2 : Int32))) (E_pR3 : Exa Z h0 pR3 "com/example/vaxwire/vaxwire/reply/OrderSegment") (S_OrderSegment_RXA : Sta Z h0 "com/example/vaxwire/vaxwire/reply/OrderSegment" "RXA" "Lcom/example/vaxwire/vaxwire/reply/OrderSegment;" (.ref pR7)) (ne_pR5_pR7 : pR5 ≠ pR7) (hc5 : ((pI1 &&& (2147483647 : Int32)) % (5 : Int32)) = (2 : Int32)) (hc12 : ((pI2 &&& (2147483647 : Int32)) % (5 : Int32)) = (0 : Int32)) :
    MetFree l x (head1 (Jvm.Cond.code x code maxLocals ret :: ws) room_1) (fun a U => a = #[(.int pI1), (.int pI2)] ∧ Z.Warmed39 U.vm ∧ U.heap = h0) (fun _ _ _ _ _ => True) (fun _ U o U' => ∃ v L, o = .returned v ∧ Qlaw2_0 Z pI1 pI2 pR3 pR5 pR7 h0 n0 v U'.heap L ∧ FrameEnd U o U' L room_1.cells room_1.slots) := by
  refine MetFree.of_bodySF (plainFor_of_name pn_0) hisR ?_
  intro p e s m args below meth c s₁ Bd hml0 hP hK
  obtain ⟨rfl, hZ, hh⟩ := hP
  have hx := Bd.exec
  have hby := Bd.bytes
  have hml : c.maxLocals = 7 := hml0
  have hown : s.vm.findClass "com/example/vaxwire/vaxwire/reply/OrderSegmentMayFollowPinLaw" = some m.cls := findClass_of_methodNamed Bd.named
  have hnm := (name_of_methodNamed Bd.named Bd.method).1
  have X0 : Stand p l e room_1 s m #[(.int pI1), (.int pI2)] below meth c s₁ [] 0 0 := Stand.of_body Bd
  have e0 : s₁.heap = h0 := by rw [← hh, Bd.state]; rfl
  have N0 := Fr.nil n0
  have pre0 : ∀ t, Steps p.tables e below (s₁.setTop (mkF m 0 #[.val (.int pI1), .val (.int pI2), .unset, .unset, .unset, .unset, .unset] [])) t → Steps p.tables e below (s₁.setTop (entryFrame m #[(.int pI1), (.int pI2)] maxLocals)) t := fun t k => castTop (ef_law2_0 m pI1 pI2) k
  obtain ⟨_, _, ⟨T4, L4, k4, n4⟩, -, X4, ⟨Lc4, hQ4, l4, y4, z4⟩, st4⟩ := Jvm.LawKit.callS X0 hx (y := yN0) hown (mvT hZ (ow hw 1 rfl)) (mvT hZ (ow hw 2 rfl)) (mvT hZ (ow hw 3 rfl)) (mvT hZ (ow hw 4 rfl)) (by decide) (backOf (W := 0) (pick2 l Z a0 hw [] pR3 h0 n0 Z0 S_OrderSegment_RXR) hZ (ow hw 4 rfl) (ow hw 3 rfl) (by decide) (by decide)) (g := (mkF m 15 #[.val (.int pI1), .val (.int pI2), .val (.int (2 : Int32)), .val (.int (0 : Int32)), .unset, .unset, .unset] [(.int (2 : Int32))])) rfl (by rw [hml]; rfl) (argsL := [(.int (2 : Int32))]) (rest := []) (lenOf pd_1 rfl) rfl (by show 2 * 0 + _ ≤ _; exact Nat.le_of_eq rfl) (hb hby at_15) (fun _ _ => ⟨rfl, e0, (by decide : 0 + 0 ≤ _), (by decide : 0 + 0 ≤ _)⟩)
  dsimp only [Pt.U, Pt.locs, Pt.cells, Pt.slots] at X4 l4 y4 z4 st4 hQ4
  subst l4 y4 z4
  obtain ⟨rfl, Nq4, e4⟩ := hQ4
  have N4 := Fr.app N0 Nq4
  obtain ⟨_, _, ⟨T6, L6, k6, n6⟩, -, X6, ⟨Lc6, hQ6, l6, y6, z6⟩, st6⟩ := Jvm.LawKit.callS X4 hx (y := yN0) hown (mvT hZ (ow hw 1 rfl)) (mvT hZ (ow hw 2 rfl)) (mvT hZ (ow hw 3 rfl)) (mvT hZ (ow hw 4 rfl)) (by decide) (backOf (W := 0) (pick0 l Z a0 hw [] pR5 h0 n0 Z0 S_OrderSegment_ORC) hZ (ow hw 4 rfl) (ow hw 3 rfl) (by decide) (by decide)) (g := (mkF m 21 #[.val (.int pI1), .val (.int pI2), .val (.int (2 : Int32)), .val (.int (0 : Int32)), .val (.ref pR3), .unset, .unset] [(.int (0 : Int32))])) rfl (by rw [hml]; rfl) (argsL := [(.int (0 : Int32))]) (rest := []) (lenOf pd_1 rfl) rfl (by show 2 * 0 + _ ≤ _; exact Nat.le_of_eq rfl) (hb hby at_21) (fun _ _ => ⟨rfl, e4, (by decide : 0 + 0 ≤ _), (by decide : 0 + 0 ≤ _)⟩)
  dsimp only [Pt.U, Pt.locs, Pt.cells, Pt.slots] at X6 l6 y6 z6 st6 hQ6
  subst l6 y6 z6
  obtain ⟨rfl, Nq6, e6⟩ := hQ6
  have N6 := Fr.app N4 Nq6
  obtain ⟨cq8, kq8, q8a, q8b, q8c⟩ := isOf hZ e6 E_pR3
  obtain ⟨_, _, ⟨T8, L8, k8, n8⟩, -, X8, ⟨Lc8, hQ8, l8, y8, z8⟩, st8⟩ := X6.virtualBack hx (y := yN3) (z := yN3) hown (mvT hZ (ow hw 10 rfl)) (mvT hZ (ow hw 11 rfl)) (notFace_of_selects (args := #[]) (mvT hZ (ow hw 13 rfl))) (mvT hZ (ow hw 13 rfl)) (mvT hZ (ow hw 12 rfl)) (by decide) (backOf (W := 0) (mf2d l Z a0 hw [] pR3 pR5 pR7 h0 n0 Z0 F_ordinal_pR3 E_pR3 S_OrderSegment_RXA ne_pR5_pR7) hZ (ow hw 14 rfl) (ow hw 6 rfl) (by decide) (by decide)) q8a q8c (g := (mkF m 106 #[.val (.int pI1), .val (.int pI2), .val (.int (2 : Int32)), .val (.int (0 : Int32)), .val (.ref pR3), .val (.ref pR5), .val (.int (0 : Int32))] [(.ref pR5), (.ref pR3)])) rfl (by rw [hml]; rfl) (Steps.refl _) (argsL := [(.ref pR5)]) (rest := []) (lenOf pd_2 rfl) rfl (by show 2 * 0 + _ ≤ _; exact Nat.le_of_eq rfl) (hb hby at_106) (fun _ _ => ⟨rfl, e6, (by decide : 0 + 0 ≤ _), (by decide : 0 + 0 ≤ _)⟩)
  dsimp only [Pt.U, Pt.locs, Pt.cells, Pt.slots] at X8 l8 y8 z8 st8 hQ8
  subst l8 y8 z8
  obtain ⟨rfl, Nq8, e8⟩ := hQ8
  have N8 := Fr.app N6 Nq8
  obtain ⟨fs, hr, hrun, hended, hW, hsame⟩ := X8.leave (v := some (.int (1 : Int32))) (fun h => by rw [Bd.returns] at h; cases h)
  refine ⟨_, _, pre0 _ ?_, hrun, hended, _, _, rfl, ?_, ⟨_, rfl⟩, hW, hsame.mono (by decide) (by decide)⟩
  · show oS p e below s₁ m 0 #[.val (.int pI1), .val (.int pI2), .unset, .unset, .unset, .unset, .unset] [] _
    refine XS.iloadN X0.here hx rfl (hb hby at_0) rfl ?_
    show oS p e below s₁ m 1 #[.val (.int pI1), .val (.int pI2), .unset, .unset, .unset, .unset, .unset] [(.int pI1)] _
    refine X0.ldcInt hx hown (mvT hZ (ow hw 0 rfl)) (g := (mkF m 1 #[.val (.int pI1), .val (.int pI2), .unset, .unset, .unset, .unset, .unset] [(.int pI1)])) rfl (hb hby at_1) _ ?_
    show oS p e below s₁ m 3 #[.val (.int pI1), .val (.int pI2), .unset, .unset, .unset, .unset, .unset] [(.int (2147483647 : Int32)), (.int pI1)] _
    refine XS.iand X0.here hx rfl (hb hby at_3) rfl ?_
    show oS p e below s₁ m 4 #[.val (.int pI1), .val (.int pI2), .unset, .unset, .unset, .unset, .unset] [(.int (pI1 &&& (2147483647 : Int32)))] _
    refine XS.iconst X0.here hx rfl (hb hby at_4) ?_
    show oS p e below s₁ m 5 #[.val (.int pI1), .val (.int pI2), .unset, .unset, .unset, .unset, .unset] [(.int (5 : Int32)), (.int (pI1 &&& (2147483647 : Int32)))] _
    refine iremM (g := (mkF m 5 #[.val (.int pI1), .val (.int pI2), .unset, .unset, .unset, .unset, .unset] [(.int (5 : Int32)), (.int (pI1 &&& (2147483647 : Int32)))])) X0 hx rfl (hb hby at_5) rfl (by decide) ?_
    show Steps p.tables e below (s₁.setTop (mkF m 6 #[.val (.int pI1), .val (.int pI2), .unset, .unset, .unset, .unset, .unset] [(.int ((pI1 &&& (2147483647 : Int32)) % (5 : Int32)))])) _
    rw [hc5]
    show oS p e below s₁ m 6 #[.val (.int pI1), .val (.int pI2), .unset, .unset, .unset, .unset, .unset] [(.int (2 : Int32))] _
    refine XS.istoreN X0.here hx rfl (hb hby at_6) rfl (l' := #[.val (.int pI1), .val (.int pI2), .val (.int (2 : Int32)), .unset, .unset, .unset, .unset]) rfl ?_
    show oS p e below s₁ m 7 #[.val (.int pI1), .val (.int pI2), .val (.int (2 : Int32)), .unset, .unset, .unset, .unset] [] _
    refine XS.iloadN X0.here hx rfl (hb hby at_7) rfl ?_
    show oS p e below s₁ m 8 #[.val (.int pI1), .val (.int pI2), .val (.int (2 : Int32)), .unset, .unset, .unset, .unset] [(.int pI2)] _
    refine X0.ldcInt hx hown (mvT hZ (ow hw 0 rfl)) (g := (mkF m 8 #[.val (.int pI1), .val (.int pI2), .val (.int (2 : Int32)), .unset, .unset, .unset, .unset] [(.int pI2)])) rfl (hb hby at_8) _ ?_
    show oS p e below s₁ m 10 #[.val (.int pI1), .val (.int pI2), .val (.int (2 : Int32)), .unset, .unset, .unset, .unset] [(.int (2147483647 : Int32)), (.int pI2)] _
    refine XS.iand X0.here hx rfl (hb hby at_10) rfl ?_
    show oS p e below s₁ m 11 #[.val (.int pI1), .val (.int pI2), .val (.int (2 : Int32)), .unset, .unset, .unset, .unset] [(.int (pI2 &&& (2147483647 : Int32)))] _
    refine XS.iconst X0.here hx rfl (hb hby at_11) ?_
    show oS p e below s₁ m 12 #[.val (.int pI1), .val (.int pI2), .val (.int (2 : Int32)), .unset, .unset, .unset, .unset] [(.int (5 : Int32)), (.int (pI2 &&& (2147483647 : Int32)))] _
    refine iremM (g := (mkF m 12 #[.val (.int pI1), .val (.int pI2), .val (.int (2 : Int32)), .unset, .unset, .unset, .unset] [(.int (5 : Int32)), (.int (pI2 &&& (2147483647 : Int32)))])) X0 hx rfl (hb hby at_12) rfl (by decide) ?_
    show Steps p.tables e below (s₁.setTop (mkF m 13 #[.val (.int pI1), .val (.int pI2), .val (.int (2 : Int32)), .unset, .unset, .unset, .unset] [(.int ((pI2 &&& (2147483647 : Int32)) % (5 : Int32)))])) _
    rw [hc12]
    show oS p e below s₁ m 13 #[.val (.int pI1), .val (.int pI2), .val (.int (2 : Int32)), .unset, .unset, .unset, .unset] [(.int (0 : Int32))] _
    refine XS.istoreN X0.here hx rfl (hb hby at_13) rfl (l' := #[.val (.int pI1), .val (.int pI2), .val (.int (2 : Int32)), .val (.int (0 : Int32)), .unset, .unset, .unset]) rfl ?_
    show oS p e below s₁ m 14 #[.val (.int pI1), .val (.int pI2), .val (.int (2 : Int32)), .val (.int (0 : Int32)), .unset, .unset, .unset] [] _
    refine XS.iloadN X0.here hx rfl (hb hby at_14) rfl ?_
    show oS p e below s₁ m 15 #[.val (.int pI1), .val (.int pI2), .val (.int (2 : Int32)), .val (.int (0 : Int32)), .unset, .unset, .unset] [(.int (2 : Int32))] _
    refine st4 _ ?_
    show oS p e below T4 m 18 #[.val (.int pI1), .val (.int pI2), .val (.int (2 : Int32)), .val (.int (0 : Int32)), .unset, .unset, .unset] [(.ref pR3)] _
    refine XS.astore X4.here hx rfl (hb hby at_18) rfl rfl (l' := #[.val (.int pI1), .val (.int pI2), .val (.int (2 : Int32)), .val (.int (0 : Int32)), .val (.ref pR3), .unset, .unset]) rfl ?_
    show oS p e below T4 m 20 #[.val (.int pI1), .val (.int pI2), .val (.int (2 : Int32)), .val (.int (0 : Int32)), .val (.ref pR3), .unset, .unset] [] _
    refine XS.iloadN X4.here hx rfl (hb hby at_20) rfl ?_
    show oS p e below T4 m 21 #[.val (.int pI1), .val (.int pI2), .val (.int (2 : Int32)), .val (.int (0 : Int32)), .val (.ref pR3), .unset, .unset] [(.int (0 : Int32))] _
    refine st6 _ ?_
    show oS p e below T6 m 24 #[.val (.int pI1), .val (.int pI2), .val (.int (2 : Int32)), .val (.int (0 : Int32)), .val (.ref pR3), .unset, .unset] [(.ref pR5)] _
    refine XS.astore X6.here hx rfl (hb hby at_24) rfl rfl (l' := #[.val (.int pI1), .val (.int pI2), .val (.int (2 : Int32)), .val (.int (0 : Int32)), .val (.ref pR3), .val (.ref pR5), .unset]) rfl ?_
    show oS p e below T6 m 26 #[.val (.int pI1), .val (.int pI2), .val (.int (2 : Int32)), .val (.int (0 : Int32)), .val (.ref pR3), .val (.ref pR5), .unset] [] _
    refine XS.iloadN X6.here hx rfl (hb hby at_26) rfl ?_
    show oS p e below T6 m 27 #[.val (.int pI1), .val (.int pI2), .val (.int (2 : Int32)), .val (.int (0 : Int32)), .val (.ref pR3), .val (.ref pR5), .unset] [(.int (0 : Int32))] _
    refine XS.ifNo X6.here hx rfl (hb hby at_27) rfl ((if0 _ _).trans (teq (by decide : (0 : Int32) = (0 : Int32))).2) ?_
    show oS p e below T6 m 30 #[.val (.int pI1), .val (.int pI2), .val (.int (2 : Int32)), .val (.int (0 : Int32)), .val (.ref pR3), .val (.ref pR5), .unset] [] _
    refine XS.iloadN X6.here hx rfl (hb hby at_30) rfl ?_
    show oS p e below T6 m 31 #[.val (.int pI1), .val (.int pI2), .val (.int (2 : Int32)), .val (.int (0 : Int32)), .val (.ref pR3), .val (.ref pR5), .unset] [(.int (2 : Int32))] _
    refine XS.iconst X6.here hx rfl (hb hby at_31) ?_
    show oS p e below T6 m 32 #[.val (.int pI1), .val (.int pI2), .val (.int (2 : Int32)), .val (.int (0 : Int32)), .val (.ref pR3), .val (.ref pR5), .unset] [(.int (1 : Int32)), (.int (2 : Int32))] _
    refine XS.icmpNo X6.here hx rfl (hb hby at_32) rfl (feq (by decide : ¬ ((2 : Int32) = (1 : Int32)))).1 ?_
    show oS p e below T6 m 35 #[.val (.int pI1), .val (.int pI2), .val (.int (2 : Int32)), .val (.int (0 : Int32)), .val (.ref pR3), .val (.ref pR5), .unset] [] _
    refine XS.iloadN X6.here hx rfl (hb hby at_35) rfl ?_
    show oS p e below T6 m 36 #[.val (.int pI1), .val (.int pI2), .val (.int (2 : Int32)), .val (.int (0 : Int32)), .val (.ref pR3), .val (.ref pR5), .unset] [(.int (0 : Int32))] _
    refine XS.iconst X6.here hx rfl (hb hby at_36) ?_
    show oS p e below T6 m 37 #[.val (.int pI1), .val (.int pI2), .val (.int (2 : Int32)), .val (.int (0 : Int32)), .val (.ref pR3), .val (.ref pR5), .unset] [(.int (1 : Int32)), (.int (0 : Int32))] _
    refine XS.icmpYes X6.here hx rfl (pc0 := 37) (pc' := 45) rfl (hb hby at_37) rfl (feq (by decide : ¬ ((0 : Int32) = (1 : Int32)))).2 (by decide) (by decide) ?_
    show oS p e below T6 m 45 #[.val (.int pI1), .val (.int pI2), .val (.int (2 : Int32)), .val (.int (0 : Int32)), .val (.ref pR3), .val (.ref pR5), .unset] [] _
    refine XS.iloadN X6.here hx rfl (hb hby at_45) rfl ?_
    show oS p e below T6 m 46 #[.val (.int pI1), .val (.int pI2), .val (.int (2 : Int32)), .val (.int (0 : Int32)), .val (.ref pR3), .val (.ref pR5), .unset] [(.int (0 : Int32))] _
    refine XS.iconst X6.here hx rfl (hb hby at_46) ?_
    show oS p e below T6 m 47 #[.val (.int pI1), .val (.int pI2), .val (.int (2 : Int32)), .val (.int (0 : Int32)), .val (.ref pR3), .val (.ref pR5), .unset] [(.int (1 : Int32)), (.int (0 : Int32))] _
    refine XS.icmpYes X6.here hx rfl (pc0 := 47) (pc' := 55) rfl (hb hby at_47) rfl (feq (by decide : ¬ ((0 : Int32) = (1 : Int32)))).2 (by decide) (by decide) ?_
    show oS p e below T6 m 55 #[.val (.int pI1), .val (.int pI2), .val (.int (2 : Int32)), .val (.int (0 : Int32)), .val (.ref pR3), .val (.ref pR5), .unset] [] _
    refine XS.iloadN X6.here hx rfl (hb hby at_55) rfl ?_
    show oS p e below T6 m 56 #[.val (.int pI1), .val (.int pI2), .val (.int (2 : Int32)), .val (.int (0 : Int32)), .val (.ref pR3), .val (.ref pR5), .unset] [(.int (0 : Int32))] _
    refine XS.iconst X6.here hx rfl (hb hby at_56) ?_
    show oS p e below T6 m 57 #[.val (.int pI1), .val (.int pI2), .val (.int (2 : Int32)), .val (.int (0 : Int32)), .val (.ref pR3), .val (.ref pR5), .unset] [(.int (2 : Int32)), (.int (0 : Int32))] _
    refine XS.icmpYes X6.here hx rfl (pc0 := 57) (pc' := 65) rfl (hb hby at_57) rfl (feq (by decide : ¬ ((0 : Int32) = (2 : Int32)))).2 (by decide) (by decide) ?_
    show oS p e below T6 m 65 #[.val (.int pI1), .val (.int pI2), .val (.int (2 : Int32)), .val (.int (0 : Int32)), .val (.ref pR3), .val (.ref pR5), .unset] [] _
    refine XS.iloadN X6.here hx rfl (hb hby at_65) rfl ?_
    show oS p e below T6 m 66 #[.val (.int pI1), .val (.int pI2), .val (.int (2 : Int32)), .val (.int (0 : Int32)), .val (.ref pR3), .val (.ref pR5), .unset] [(.int (0 : Int32))] _
    refine XS.iconst X6.here hx rfl (hb hby at_66) ?_
    show oS p e below T6 m 67 #[.val (.int pI1), .val (.int pI2), .val (.int (2 : Int32)), .val (.int (0 : Int32)), .val (.ref pR3), .val (.ref pR5), .unset] [(.int (3 : Int32)), (.int (0 : Int32))] _
    refine XS.icmpYes X6.here hx rfl (pc0 := 67) (pc' := 75) rfl (hb hby at_67) rfl (feq (by decide : ¬ ((0 : Int32) = (3 : Int32)))).2 (by decide) (by decide) ?_
    show oS p e below T6 m 75 #[.val (.int pI1), .val (.int pI2), .val (.int (2 : Int32)), .val (.int (0 : Int32)), .val (.ref pR3), .val (.ref pR5), .unset] [] _
    refine XS.iloadN X6.here hx rfl (hb hby at_75) rfl ?_
    show oS p e below T6 m 76 #[.val (.int pI1), .val (.int pI2), .val (.int (2 : Int32)), .val (.int (0 : Int32)), .val (.ref pR3), .val (.ref pR5), .unset] [(.int (0 : Int32))] _
    refine XS.iconst X6.here hx rfl (hb hby at_76) ?_
    show oS p e below T6 m 77 #[.val (.int pI1), .val (.int pI2), .val (.int (2 : Int32)), .val (.int (0 : Int32)), .val (.ref pR3), .val (.ref pR5), .unset] [(.int (4 : Int32)), (.int (0 : Int32))] _
    refine XS.icmpYes X6.here hx rfl (pc0 := 77) (pc' := 85) rfl (hb hby at_77) rfl (feq (by decide : ¬ ((0 : Int32) = (4 : Int32)))).2 (by decide) (by decide) ?_
    show oS p e below T6 m 85 #[.val (.int pI1), .val (.int pI2), .val (.int (2 : Int32)), .val (.int (0 : Int32)), .val (.ref pR3), .val (.ref pR5), .unset] [] _
    refine XS.iloadN X6.here hx rfl (hb hby at_85) rfl ?_
    show oS p e below T6 m 86 #[.val (.int pI1), .val (.int pI2), .val (.int (2 : Int32)), .val (.int (0 : Int32)), .val (.ref pR3), .val (.ref pR5), .unset] [(.int (0 : Int32))] _
    refine XS.iconst X6.here hx rfl (hb hby at_86) ?_
    show oS p e below T6 m 87 #[.val (.int pI1), .val (.int pI2), .val (.int (2 : Int32)), .val (.int (0 : Int32)), .val (.ref pR3), .val (.ref pR5), .unset] [(.int (3 : Int32)), (.int (0 : Int32))] _
    refine XS.icmpYes X6.here hx rfl (pc0 := 87) (pc' := 99) rfl (hb hby at_87) rfl (feq (by decide : ¬ ((0 : Int32) = (3 : Int32)))).2 (by decide) (by decide) ?_
    show oS p e below T6 m 99 #[.val (.int pI1), .val (.int pI2), .val (.int (2 : Int32)), .val (.int (0 : Int32)), .val (.ref pR3), .val (.ref pR5), .unset] [] _
    refine XS.iconst X6.here hx rfl (hb hby at_99) ?_
    show oS p e below T6 m 100 #[.val (.int pI1), .val (.int pI2), .val (.int (2 : Int32)), .val (.int (0 : Int32)), .val (.ref pR3), .val (.ref pR5), .unset] [(.int (0 : Int32))] _
    refine XS.istore X6.here hx rfl (hb hby at_100) rfl (l' := #[.val (.int pI1), .val (.int pI2), .val (.int (2 : Int32)), .val (.int (0 : Int32)), .val (.ref pR3), .val (.ref pR5), .val (.int (0 : Int32))]) rfl ?_
    show oS p e below T6 m 102 #[.val (.int pI1), .val (.int pI2), .val (.int (2 : Int32)), .val (.int (0 : Int32)), .val (.ref pR3), .val (.ref pR5), .val (.int (0 : Int32))] [] _
    refine XS.aload X6.here hx rfl (hb hby at_102) rfl rfl ?_
    show oS p e below T6 m 104 #[.val (.int pI1), .val (.int pI2), .val (.int (2 : Int32)), .val (.int (0 : Int32)), .val (.ref pR3), .val (.ref pR5), .val (.int (0 : Int32))] [(.ref pR3)] _
    refine XS.aload X6.here hx rfl (hb hby at_104) rfl rfl ?_
    show oS p e below T6 m 106 #[.val (.int pI1), .val (.int pI2), .val (.int (2 : Int32)), .val (.int (0 : Int32)), .val (.ref pR3), .val (.ref pR5), .val (.int (0 : Int32))] [(.ref pR5), (.ref pR3)] _
    refine st8.trans ?_
    show oS p e below T8 m 109 #[.val (.int pI1), .val (.int pI2), .val (.int (2 : Int32)), .val (.int (0 : Int32)), .val (.ref pR3), .val (.ref pR5), .val (.int (0 : Int32))] [(.int (0 : Int32))] _
    refine XS.iload X8.here hx rfl (hb hby at_109) rfl ?_
    show oS p e below T8 m 111 #[.val (.int pI1), .val (.int pI2), .val (.int (2 : Int32)), .val (.int (0 : Int32)), .val (.ref pR3), .val (.ref pR5), .val (.int (0 : Int32))] [(.int (0 : Int32)), (.int (0 : Int32))] _
    refine XS.icmpNo X8.here hx rfl (hb hby at_111) rfl (teq (by decide : (0 : Int32) = (0 : Int32))).2 ?_
    show oS p e below T8 m 114 #[.val (.int pI1), .val (.int pI2), .val (.int (2 : Int32)), .val (.int (0 : Int32)), .val (.ref pR3), .val (.ref pR5), .val (.int (0 : Int32))] [] _
    refine XS.iconst X8.here hx rfl (hb hby at_114) ?_
    show oS p e below T8 m 115 #[.val (.int pI1), .val (.int pI2), .val (.int (2 : Int32)), .val (.int (0 : Int32)), .val (.ref pR3), .val (.ref pR5), .val (.int (0 : Int32))] [(.int (1 : Int32))] _
    refine XS.goto X8.here hx rfl (pc0 := 115) (pc' := 119) rfl (hb hby at_115) (by decide) (by decide) ?_
    show oS p e below T8 m 119 #[.val (.int pI1), .val (.int pI2), .val (.int (2 : Int32)), .val (.int (0 : Int32)), .val (.ref pR3), .val (.ref pR5), .val (.int (0 : Int32))] [(.int (1 : Int32))] _
    exact retN X8 hx (t := .boolean) Bd.returns (by simp) (hb hby at_119) hr
  · show Qlaw2_0 Z pI1 pI2 pR3 pR5 pR7 h0 n0 _ T8.heap _
    rw [e8]
    exact ⟨rfl, N8⟩
theorem ef_law2_1 (m : MethodId) (pI1 : Int32) (pI2 : Int32) : entryFrame m #[(.int pI1), (.int pI2)] maxLocals = mkF m 0 #[.val (.int pI1), .val (.int pI2), .unset, .unset, .unset, .unset, .unset] [] := by first | (simp [entryFrame, mkF, argsToLocals, Value.category, maxLocals]; done) | rfl
def Qlaw2_1 (Z : State) (pI1 : Int32) (pI2 : Int32) (pR3 : Addr) (pR5 : Addr) (h0 : Heap) (n0 : Nat) (v : Option Value) (h : Heap) (L : List Loc) : Prop := v = some (.int (1 : Int32)) ∧ Fr n0 L
set_option maxRecDepth 65536 in
set_option maxHeartbeats 40000000 in
theorem law2_1 (l : Launch) (Z : State) (a0 : Array Value) (hw : ∀ d ∈ tables_1, d.before a0 Z = true) (ws : List Jvm.Cond) (pI1 : Int32) (pI2 : Int32) (pR3 : Addr) (pR5 : Addr) (h0 : Heap) (n0 : Nat) (Z0 : n0 ≤ h0.size) (S_OrderSegment_RXR : Sta Z h0 "com/example/vaxwire/vaxwire/reply/OrderSegment" "RXR" "Lcom/example/vaxwire/vaxwire/reply/OrderSegment;" (.ref pR3)) (S_OrderSegment_RXA : Sta Z h0 "com/example/vaxwire/vaxwire/reply/OrderSegment" "RXA" "Lcom/example/vaxwire/vaxwire/reply/OrderSegment;" (.ref pR5)) (F_ordinal_pR3 : Fld Z h0 pR3 "java/lang/Enum" "ordinal" "I" (.int (2 : Int32))) (E_pR3 : Exa Z h0 pR3 "com/example/vaxwire/vaxwire/reply/OrderSegment") (hc5 : ((pI1 &&& (2147483647 : Int32)) % (5 : Int32)) = (2 : Int32)) (hc12 : ((pI2 &&& (2147483647 : Int32)) % (5 : Int32)) = (1 : Int32)) :
    MetFree l x (head1 (Jvm.Cond.code x code maxLocals ret :: ws) room_1) (fun a U => a = #[(.int pI1), (.int pI2)] ∧ Z.Warmed39 U.vm ∧ U.heap = h0) (fun _ _ _ _ _ => True) (fun _ U o U' => ∃ v L, o = .returned v ∧ Qlaw2_1 Z pI1 pI2 pR3 pR5 h0 n0 v U'.heap L ∧ FrameEnd U o U' L room_1.cells room_1.slots) := by
  refine MetFree.of_bodySF (plainFor_of_name pn_0) hisR ?_
  intro p e s m args below meth c s₁ Bd hml0 hP hK
  obtain ⟨rfl, hZ, hh⟩ := hP
  have hx := Bd.exec
  have hby := Bd.bytes
  have hml : c.maxLocals = 7 := hml0
  have hown : s.vm.findClass "com/example/vaxwire/vaxwire/reply/OrderSegmentMayFollowPinLaw" = some m.cls := findClass_of_methodNamed Bd.named
  have hnm := (name_of_methodNamed Bd.named Bd.method).1
  have X0 : Stand p l e room_1 s m #[(.int pI1), (.int pI2)] below meth c s₁ [] 0 0 := Stand.of_body Bd
  have e0 : s₁.heap = h0 := by rw [← hh, Bd.state]; rfl
  have N0 := Fr.nil n0
  have pre0 : ∀ t, Steps p.tables e below (s₁.setTop (mkF m 0 #[.val (.int pI1), .val (.int pI2), .unset, .unset, .unset, .unset, .unset] [])) t → Steps p.tables e below (s₁.setTop (entryFrame m #[(.int pI1), (.int pI2)] maxLocals)) t := fun t k => castTop (ef_law2_1 m pI1 pI2) k
  obtain ⟨_, _, ⟨T4, L4, k4, n4⟩, -, X4, ⟨Lc4, hQ4, l4, y4, z4⟩, st4⟩ := Jvm.LawKit.callS X0 hx (y := yN0) hown (mvT hZ (ow hw 1 rfl)) (mvT hZ (ow hw 2 rfl)) (mvT hZ (ow hw 3 rfl)) (mvT hZ (ow hw 4 rfl)) (by decide) (backOf (W := 0) (pick2 l Z a0 hw [] pR3 h0 n0 Z0 S_OrderSegment_RXR) hZ (ow hw 4 rfl) (ow hw 3 rfl) (by decide) (by decide)) (g := (mkF m 15 #[.val (.int pI1), .val (.int pI2), .val (.int (2 : Int32)), .val (.int (1 : Int32)), .unset, .unset, .unset] [(.int (2 : Int32))])) rfl (by rw [hml]; rfl) (argsL := [(.int (2 : Int32))]) (rest := []) (lenOf pd_1 rfl) rfl (by show 2 * 0 + _ ≤ _; exact Nat.le_of_eq rfl) (hb hby at_15) (fun _ _ => ⟨rfl, e0, (by decide : 0 + 0 ≤ _), (by decide : 0 + 0 ≤ _)⟩)
  dsimp only [Pt.U, Pt.locs, Pt.cells, Pt.slots] at X4 l4 y4 z4 st4 hQ4
  subst l4 y4 z4
  obtain ⟨rfl, Nq4, e4⟩ := hQ4
  have N4 := Fr.app N0 Nq4
  obtain ⟨_, _, ⟨T6, L6, k6, n6⟩, -, X6, ⟨Lc6, hQ6, l6, y6, z6⟩, st6⟩ := Jvm.LawKit.callS X4 hx (y := yN0) hown (mvT hZ (ow hw 1 rfl)) (mvT hZ (ow hw 2 rfl)) (mvT hZ (ow hw 3 rfl)) (mvT hZ (ow hw 4 rfl)) (by decide) (backOf (W := 0) (pick1 l Z a0 hw [] pR5 h0 n0 Z0 S_OrderSegment_RXA) hZ (ow hw 4 rfl) (ow hw 3 rfl) (by decide) (by decide)) (g := (mkF m 21 #[.val (.int pI1), .val (.int pI2), .val (.int (2 : Int32)), .val (.int (1 : Int32)), .val (.ref pR3), .unset, .unset] [(.int (1 : Int32))])) rfl (by rw [hml]; rfl) (argsL := [(.int (1 : Int32))]) (rest := []) (lenOf pd_1 rfl) rfl (by show 2 * 0 + _ ≤ _; exact Nat.le_of_eq rfl) (hb hby at_21) (fun _ _ => ⟨rfl, e4, (by decide : 0 + 0 ≤ _), (by decide : 0 + 0 ≤ _)⟩)
  dsimp only [Pt.U, Pt.locs, Pt.cells, Pt.slots] at X6 l6 y6 z6 st6 hQ6
  subst l6 y6 z6
  obtain ⟨rfl, Nq6, e6⟩ := hQ6
  have N6 := Fr.app N4 Nq6
  obtain ⟨cq7, kq7, q7a, q7b, q7c⟩ := isOf hZ e6 E_pR3
  obtain ⟨_, _, ⟨T7, L7, k7, n7⟩, -, X7, ⟨Lc7, hQ7, l7, y7, z7⟩, st7⟩ := X6.virtualBack hx (y := yN3) (z := yN3) hown (mvT hZ (ow hw 10 rfl)) (mvT hZ (ow hw 11 rfl)) (notFace_of_selects (args := #[]) (mvT hZ (ow hw 13 rfl))) (mvT hZ (ow hw 13 rfl)) (mvT hZ (ow hw 12 rfl)) (by decide) (backOf (W := 0) (mf2s l Z a0 hw [] pR3 pR5 pR5 h0 n0 Z0 F_ordinal_pR3 E_pR3 S_OrderSegment_RXA rfl) hZ (ow hw 14 rfl) (ow hw 6 rfl) (by decide) (by decide)) q7a q7c (g := (mkF m 106 #[.val (.int pI1), .val (.int pI2), .val (.int (2 : Int32)), .val (.int (1 : Int32)), .val (.ref pR3), .val (.ref pR5), .val (.int (1 : Int32))] [(.ref pR5), (.ref pR3)])) rfl (by rw [hml]; rfl) (Steps.refl _) (argsL := [(.ref pR5)]) (rest := []) (lenOf pd_2 rfl) rfl (by show 2 * 0 + _ ≤ _; exact Nat.le_of_eq rfl) (hb hby at_106) (fun _ _ => ⟨rfl, e6, (by decide : 0 + 0 ≤ _), (by decide : 0 + 0 ≤ _)⟩)
  dsimp only [Pt.U, Pt.locs, Pt.cells, Pt.slots] at X7 l7 y7 z7 st7 hQ7
  subst l7 y7 z7
  obtain ⟨rfl, Nq7, e7⟩ := hQ7
  have N7 := Fr.app N6 Nq7
  obtain ⟨fs, hr, hrun, hended, hW, hsame⟩ := X7.leave (v := some (.int (1 : Int32))) (fun h => by rw [Bd.returns] at h; cases h)
  refine ⟨_, _, pre0 _ ?_, hrun, hended, _, _, rfl, ?_, ⟨_, rfl⟩, hW, hsame.mono (by decide) (by decide)⟩
  · show oS p e below s₁ m 0 #[.val (.int pI1), .val (.int pI2), .unset, .unset, .unset, .unset, .unset] [] _
    refine XS.iloadN X0.here hx rfl (hb hby at_0) rfl ?_
    show oS p e below s₁ m 1 #[.val (.int pI1), .val (.int pI2), .unset, .unset, .unset, .unset, .unset] [(.int pI1)] _
    refine X0.ldcInt hx hown (mvT hZ (ow hw 0 rfl)) (g := (mkF m 1 #[.val (.int pI1), .val (.int pI2), .unset, .unset, .unset, .unset, .unset] [(.int pI1)])) rfl (hb hby at_1) _ ?_
    show oS p e below s₁ m 3 #[.val (.int pI1), .val (.int pI2), .unset, .unset, .unset, .unset, .unset] [(.int (2147483647 : Int32)), (.int pI1)] _
    refine XS.iand X0.here hx rfl (hb hby at_3) rfl ?_
    show oS p e below s₁ m 4 #[.val (.int pI1), .val (.int pI2), .unset, .unset, .unset, .unset, .unset] [(.int (pI1 &&& (2147483647 : Int32)))] _
    refine XS.iconst X0.here hx rfl (hb hby at_4) ?_
    show oS p e below s₁ m 5 #[.val (.int pI1), .val (.int pI2), .unset, .unset, .unset, .unset, .unset] [(.int (5 : Int32)), (.int (pI1 &&& (2147483647 : Int32)))] _
    refine iremM (g := (mkF m 5 #[.val (.int pI1), .val (.int pI2), .unset, .unset, .unset, .unset, .unset] [(.int (5 : Int32)), (.int (pI1 &&& (2147483647 : Int32)))])) X0 hx rfl (hb hby at_5) rfl (by decide) ?_
    show Steps p.tables e below (s₁.setTop (mkF m 6 #[.val (.int pI1), .val (.int pI2), .unset, .unset, .unset, .unset, .unset] [(.int ((pI1 &&& (2147483647 : Int32)) % (5 : Int32)))])) _
    rw [hc5]
    show oS p e below s₁ m 6 #[.val (.int pI1), .val (.int pI2), .unset, .unset, .unset, .unset, .unset] [(.int (2 : Int32))] _
    refine XS.istoreN X0.here hx rfl (hb hby at_6) rfl (l' := #[.val (.int pI1), .val (.int pI2), .val (.int (2 : Int32)), .unset, .unset, .unset, .unset]) rfl ?_
    show oS p e below s₁ m 7 #[.val (.int pI1), .val (.int pI2), .val (.int (2 : Int32)), .unset, .unset, .unset, .unset] [] _
    refine XS.iloadN X0.here hx rfl (hb hby at_7) rfl ?_
    show oS p e below s₁ m 8 #[.val (.int pI1), .val (.int pI2), .val (.int (2 : Int32)), .unset, .unset, .unset, .unset] [(.int pI2)] _
    refine X0.ldcInt hx hown (mvT hZ (ow hw 0 rfl)) (g := (mkF m 8 #[.val (.int pI1), .val (.int pI2), .val (.int (2 : Int32)), .unset, .unset, .unset, .unset] [(.int pI2)])) rfl (hb hby at_8) _ ?_
    show oS p e below s₁ m 10 #[.val (.int pI1), .val (.int pI2), .val (.int (2 : Int32)), .unset, .unset, .unset, .unset] [(.int (2147483647 : Int32)), (.int pI2)] _
    refine XS.iand X0.here hx rfl (hb hby at_10) rfl ?_
    show oS p e below s₁ m 11 #[.val (.int pI1), .val (.int pI2), .val (.int (2 : Int32)), .unset, .unset, .unset, .unset] [(.int (pI2 &&& (2147483647 : Int32)))] _
    refine XS.iconst X0.here hx rfl (hb hby at_11) ?_
    show oS p e below s₁ m 12 #[.val (.int pI1), .val (.int pI2), .val (.int (2 : Int32)), .unset, .unset, .unset, .unset] [(.int (5 : Int32)), (.int (pI2 &&& (2147483647 : Int32)))] _
    refine iremM (g := (mkF m 12 #[.val (.int pI1), .val (.int pI2), .val (.int (2 : Int32)), .unset, .unset, .unset, .unset] [(.int (5 : Int32)), (.int (pI2 &&& (2147483647 : Int32)))])) X0 hx rfl (hb hby at_12) rfl (by decide) ?_
    show Steps p.tables e below (s₁.setTop (mkF m 13 #[.val (.int pI1), .val (.int pI2), .val (.int (2 : Int32)), .unset, .unset, .unset, .unset] [(.int ((pI2 &&& (2147483647 : Int32)) % (5 : Int32)))])) _
    rw [hc12]
    show oS p e below s₁ m 13 #[.val (.int pI1), .val (.int pI2), .val (.int (2 : Int32)), .unset, .unset, .unset, .unset] [(.int (1 : Int32))] _
    refine XS.istoreN X0.here hx rfl (hb hby at_13) rfl (l' := #[.val (.int pI1), .val (.int pI2), .val (.int (2 : Int32)), .val (.int (1 : Int32)), .unset, .unset, .unset]) rfl ?_
    show oS p e below s₁ m 14 #[.val (.int pI1), .val (.int pI2), .val (.int (2 : Int32)), .val (.int (1 : Int32)), .unset, .unset, .unset] [] _
    refine XS.iloadN X0.here hx rfl (hb hby at_14) rfl ?_
    show oS p e below s₁ m 15 #[.val (.int pI1), .val (.int pI2), .val (.int (2 : Int32)), .val (.int (1 : Int32)), .unset, .unset, .unset] [(.int (2 : Int32))] _
    refine st4 _ ?_
    show oS p e below T4 m 18 #[.val (.int pI1), .val (.int pI2), .val (.int (2 : Int32)), .val (.int (1 : Int32)), .unset, .unset, .unset] [(.ref pR3)] _
    refine XS.astore X4.here hx rfl (hb hby at_18) rfl rfl (l' := #[.val (.int pI1), .val (.int pI2), .val (.int (2 : Int32)), .val (.int (1 : Int32)), .val (.ref pR3), .unset, .unset]) rfl ?_
    show oS p e below T4 m 20 #[.val (.int pI1), .val (.int pI2), .val (.int (2 : Int32)), .val (.int (1 : Int32)), .val (.ref pR3), .unset, .unset] [] _
    refine XS.iloadN X4.here hx rfl (hb hby at_20) rfl ?_
    show oS p e below T4 m 21 #[.val (.int pI1), .val (.int pI2), .val (.int (2 : Int32)), .val (.int (1 : Int32)), .val (.ref pR3), .unset, .unset] [(.int (1 : Int32))] _
    refine st6 _ ?_
    show oS p e below T6 m 24 #[.val (.int pI1), .val (.int pI2), .val (.int (2 : Int32)), .val (.int (1 : Int32)), .val (.ref pR3), .unset, .unset] [(.ref pR5)] _
    refine XS.astore X6.here hx rfl (hb hby at_24) rfl rfl (l' := #[.val (.int pI1), .val (.int pI2), .val (.int (2 : Int32)), .val (.int (1 : Int32)), .val (.ref pR3), .val (.ref pR5), .unset]) rfl ?_
    show oS p e below T6 m 26 #[.val (.int pI1), .val (.int pI2), .val (.int (2 : Int32)), .val (.int (1 : Int32)), .val (.ref pR3), .val (.ref pR5), .unset] [] _
    refine XS.iloadN X6.here hx rfl (hb hby at_26) rfl ?_
    show oS p e below T6 m 27 #[.val (.int pI1), .val (.int pI2), .val (.int (2 : Int32)), .val (.int (1 : Int32)), .val (.ref pR3), .val (.ref pR5), .unset] [(.int (1 : Int32))] _
    refine XS.ifYes X6.here hx rfl (pc0 := 27) (pc' := 35) rfl (hb hby at_27) rfl ((if0 _ _).trans (feq (by decide : ¬ ((1 : Int32) = (0 : Int32)))).2) (by decide) (by decide) ?_
    show oS p e below T6 m 35 #[.val (.int pI1), .val (.int pI2), .val (.int (2 : Int32)), .val (.int (1 : Int32)), .val (.ref pR3), .val (.ref pR5), .unset] [] _
    refine XS.iloadN X6.here hx rfl (hb hby at_35) rfl ?_
    show oS p e below T6 m 36 #[.val (.int pI1), .val (.int pI2), .val (.int (2 : Int32)), .val (.int (1 : Int32)), .val (.ref pR3), .val (.ref pR5), .unset] [(.int (1 : Int32))] _
    refine XS.iconst X6.here hx rfl (hb hby at_36) ?_
    show oS p e below T6 m 37 #[.val (.int pI1), .val (.int pI2), .val (.int (2 : Int32)), .val (.int (1 : Int32)), .val (.ref pR3), .val (.ref pR5), .unset] [(.int (1 : Int32)), (.int (1 : Int32))] _
    refine XS.icmpNo X6.here hx rfl (hb hby at_37) rfl (teq (by decide : (1 : Int32) = (1 : Int32))).2 ?_
    show oS p e below T6 m 40 #[.val (.int pI1), .val (.int pI2), .val (.int (2 : Int32)), .val (.int (1 : Int32)), .val (.ref pR3), .val (.ref pR5), .unset] [] _
    refine XS.iloadN X6.here hx rfl (hb hby at_40) rfl ?_
    show oS p e below T6 m 41 #[.val (.int pI1), .val (.int pI2), .val (.int (2 : Int32)), .val (.int (1 : Int32)), .val (.ref pR3), .val (.ref pR5), .unset] [(.int (2 : Int32))] _
    refine XS.iconst X6.here hx rfl (hb hby at_41) ?_
    show oS p e below T6 m 42 #[.val (.int pI1), .val (.int pI2), .val (.int (2 : Int32)), .val (.int (1 : Int32)), .val (.ref pR3), .val (.ref pR5), .unset] [(.int (2 : Int32)), (.int (2 : Int32))] _
    refine XS.icmpYes X6.here hx rfl (pc0 := 42) (pc' := 95) rfl (hb hby at_42) rfl (teq (by decide : (2 : Int32) = (2 : Int32))).1 (by decide) (by decide) ?_
    show oS p e below T6 m 95 #[.val (.int pI1), .val (.int pI2), .val (.int (2 : Int32)), .val (.int (1 : Int32)), .val (.ref pR3), .val (.ref pR5), .unset] [] _
    refine XS.iconst X6.here hx rfl (hb hby at_95) ?_
    show oS p e below T6 m 96 #[.val (.int pI1), .val (.int pI2), .val (.int (2 : Int32)), .val (.int (1 : Int32)), .val (.ref pR3), .val (.ref pR5), .unset] [(.int (1 : Int32))] _
    refine XS.goto X6.here hx rfl (pc0 := 96) (pc' := 100) rfl (hb hby at_96) (by decide) (by decide) ?_
    show oS p e below T6 m 100 #[.val (.int pI1), .val (.int pI2), .val (.int (2 : Int32)), .val (.int (1 : Int32)), .val (.ref pR3), .val (.ref pR5), .unset] [(.int (1 : Int32))] _
    refine XS.istore X6.here hx rfl (hb hby at_100) rfl (l' := #[.val (.int pI1), .val (.int pI2), .val (.int (2 : Int32)), .val (.int (1 : Int32)), .val (.ref pR3), .val (.ref pR5), .val (.int (1 : Int32))]) rfl ?_
    show oS p e below T6 m 102 #[.val (.int pI1), .val (.int pI2), .val (.int (2 : Int32)), .val (.int (1 : Int32)), .val (.ref pR3), .val (.ref pR5), .val (.int (1 : Int32))] [] _
    refine XS.aload X6.here hx rfl (hb hby at_102) rfl rfl ?_
    show oS p e below T6 m 104 #[.val (.int pI1), .val (.int pI2), .val (.int (2 : Int32)), .val (.int (1 : Int32)), .val (.ref pR3), .val (.ref pR5), .val (.int (1 : Int32))] [(.ref pR3)] _
    refine XS.aload X6.here hx rfl (hb hby at_104) rfl rfl ?_
    show oS p e below T6 m 106 #[.val (.int pI1), .val (.int pI2), .val (.int (2 : Int32)), .val (.int (1 : Int32)), .val (.ref pR3), .val (.ref pR5), .val (.int (1 : Int32))] [(.ref pR5), (.ref pR3)] _
    refine st7.trans ?_
    show oS p e below T7 m 109 #[.val (.int pI1), .val (.int pI2), .val (.int (2 : Int32)), .val (.int (1 : Int32)), .val (.ref pR3), .val (.ref pR5), .val (.int (1 : Int32))] [(.int (1 : Int32))] _
    refine XS.iload X7.here hx rfl (hb hby at_109) rfl ?_
    show oS p e below T7 m 111 #[.val (.int pI1), .val (.int pI2), .val (.int (2 : Int32)), .val (.int (1 : Int32)), .val (.ref pR3), .val (.ref pR5), .val (.int (1 : Int32))] [(.int (1 : Int32)), (.int (1 : Int32))] _
    refine XS.icmpNo X7.here hx rfl (hb hby at_111) rfl (teq (by decide : (1 : Int32) = (1 : Int32))).2 ?_
    show oS p e below T7 m 114 #[.val (.int pI1), .val (.int pI2), .val (.int (2 : Int32)), .val (.int (1 : Int32)), .val (.ref pR3), .val (.ref pR5), .val (.int (1 : Int32))] [] _
    refine XS.iconst X7.here hx rfl (hb hby at_114) ?_
    show oS p e below T7 m 115 #[.val (.int pI1), .val (.int pI2), .val (.int (2 : Int32)), .val (.int (1 : Int32)), .val (.ref pR3), .val (.ref pR5), .val (.int (1 : Int32))] [(.int (1 : Int32))] _
    refine XS.goto X7.here hx rfl (pc0 := 115) (pc' := 119) rfl (hb hby at_115) (by decide) (by decide) ?_
    show oS p e below T7 m 119 #[.val (.int pI1), .val (.int pI2), .val (.int (2 : Int32)), .val (.int (1 : Int32)), .val (.ref pR3), .val (.ref pR5), .val (.int (1 : Int32))] [(.int (1 : Int32))] _
    exact retN X7 hx (t := .boolean) Bd.returns (by simp) (hb hby at_119) hr
  · show Qlaw2_1 Z pI1 pI2 pR3 pR5 h0 n0 _ T7.heap _
    rw [e7]
    exact ⟨rfl, N7⟩
theorem ef_law2_2 (m : MethodId) (pI1 : Int32) (pI2 : Int32) : entryFrame m #[(.int pI1), (.int pI2)] maxLocals = mkF m 0 #[.val (.int pI1), .val (.int pI2), .unset, .unset, .unset, .unset, .unset] [] := by first | (simp [entryFrame, mkF, argsToLocals, Value.category, maxLocals]; done) | rfl
def Qlaw2_2 (Z : State) (pI1 : Int32) (pI2 : Int32) (pR3 : Addr) (pR6 : Addr) (h0 : Heap) (n0 : Nat) (v : Option Value) (h : Heap) (L : List Loc) : Prop := v = some (.int (1 : Int32)) ∧ Fr n0 L
set_option maxRecDepth 65536 in
set_option maxHeartbeats 40000000 in
theorem law2_2 (l : Launch) (Z : State) (a0 : Array Value) (hw : ∀ d ∈ tables_1, d.before a0 Z = true) (ws : List Jvm.Cond) (pI1 : Int32) (pI2 : Int32) (pR3 : Addr) (pR6 : Addr) (h0 : Heap) (n0 : Nat) (Z0 : n0 ≤ h0.size) (S_OrderSegment_RXR : Sta Z h0 "com/example/vaxwire/vaxwire/reply/OrderSegment" "RXR" "Lcom/example/vaxwire/vaxwire/reply/OrderSegment;" (.ref pR3)) (F_ordinal_pR3 : Fld Z h0 pR3 "java/lang/Enum" "ordinal" "I" (.int (2 : Int32))) (E_pR3 : Exa Z h0 pR3 "com/example/vaxwire/vaxwire/reply/OrderSegment") (S_OrderSegment_RXA : Sta Z h0 "com/example/vaxwire/vaxwire/reply/OrderSegment" "RXA" "Lcom/example/vaxwire/vaxwire/reply/OrderSegment;" (.ref pR6)) (ne_pR3_pR6 : pR3 ≠ pR6) (hc5 : ((pI1 &&& (2147483647 : Int32)) % (5 : Int32)) = (2 : Int32)) (hc12 : ((pI2 &&& (2147483647 : Int32)) % (5 : Int32)) = (2 : Int32)) :
    MetFree l x (head1 (Jvm.Cond.code x code maxLocals ret :: ws) room_1) (fun a U => a = #[(.int pI1), (.int pI2)] ∧ Z.Warmed39 U.vm ∧ U.heap = h0) (fun _ _ _ _ _ => True) (fun _ U o U' => ∃ v L, o = .returned v ∧ Qlaw2_2 Z pI1 pI2 pR3 pR6 h0 n0 v U'.heap L ∧ FrameEnd U o U' L room_1.cells room_1.slots) := by
  refine MetFree.of_bodySF (plainFor_of_name pn_0) hisR ?_
  intro p e s m args below meth c s₁ Bd hml0 hP hK
  obtain ⟨rfl, hZ, hh⟩ := hP
  have hx := Bd.exec
  have hby := Bd.bytes
  have hml : c.maxLocals = 7 := hml0
  have hown : s.vm.findClass "com/example/vaxwire/vaxwire/reply/OrderSegmentMayFollowPinLaw" = some m.cls := findClass_of_methodNamed Bd.named
  have hnm := (name_of_methodNamed Bd.named Bd.method).1
  have X0 : Stand p l e room_1 s m #[(.int pI1), (.int pI2)] below meth c s₁ [] 0 0 := Stand.of_body Bd
  have e0 : s₁.heap = h0 := by rw [← hh, Bd.state]; rfl
  have N0 := Fr.nil n0
  have pre0 : ∀ t, Steps p.tables e below (s₁.setTop (mkF m 0 #[.val (.int pI1), .val (.int pI2), .unset, .unset, .unset, .unset, .unset] [])) t → Steps p.tables e below (s₁.setTop (entryFrame m #[(.int pI1), (.int pI2)] maxLocals)) t := fun t k => castTop (ef_law2_2 m pI1 pI2) k
  obtain ⟨_, _, ⟨T4, L4, k4, n4⟩, -, X4, ⟨Lc4, hQ4, l4, y4, z4⟩, st4⟩ := Jvm.LawKit.callS X0 hx (y := yN0) hown (mvT hZ (ow hw 1 rfl)) (mvT hZ (ow hw 2 rfl)) (mvT hZ (ow hw 3 rfl)) (mvT hZ (ow hw 4 rfl)) (by decide) (backOf (W := 0) (pick2 l Z a0 hw [] pR3 h0 n0 Z0 S_OrderSegment_RXR) hZ (ow hw 4 rfl) (ow hw 3 rfl) (by decide) (by decide)) (g := (mkF m 15 #[.val (.int pI1), .val (.int pI2), .val (.int (2 : Int32)), .val (.int (2 : Int32)), .unset, .unset, .unset] [(.int (2 : Int32))])) rfl (by rw [hml]; rfl) (argsL := [(.int (2 : Int32))]) (rest := []) (lenOf pd_1 rfl) rfl (by show 2 * 0 + _ ≤ _; exact Nat.le_of_eq rfl) (hb hby at_15) (fun _ _ => ⟨rfl, e0, (by decide : 0 + 0 ≤ _), (by decide : 0 + 0 ≤ _)⟩)
  dsimp only [Pt.U, Pt.locs, Pt.cells, Pt.slots] at X4 l4 y4 z4 st4 hQ4
  subst l4 y4 z4
  obtain ⟨rfl, Nq4, e4⟩ := hQ4
  have N4 := Fr.app N0 Nq4
  obtain ⟨_, _, ⟨T5, L5, k5, n5⟩, -, X5, ⟨Lc5, hQ5, l5, y5, z5⟩, st5⟩ := Jvm.LawKit.callS X4 hx (y := yN0) hown (mvT hZ (ow hw 1 rfl)) (mvT hZ (ow hw 2 rfl)) (mvT hZ (ow hw 3 rfl)) (mvT hZ (ow hw 4 rfl)) (by decide) (backOf (W := 0) (pick2 l Z a0 hw [] pR3 h0 n0 Z0 S_OrderSegment_RXR) hZ (ow hw 4 rfl) (ow hw 3 rfl) (by decide) (by decide)) (g := (mkF m 21 #[.val (.int pI1), .val (.int pI2), .val (.int (2 : Int32)), .val (.int (2 : Int32)), .val (.ref pR3), .unset, .unset] [(.int (2 : Int32))])) rfl (by rw [hml]; rfl) (argsL := [(.int (2 : Int32))]) (rest := []) (lenOf pd_1 rfl) rfl (by show 2 * 0 + _ ≤ _; exact Nat.le_of_eq rfl) (hb hby at_21) (fun _ _ => ⟨rfl, e4, (by decide : 0 + 0 ≤ _), (by decide : 0 + 0 ≤ _)⟩)
  dsimp only [Pt.U, Pt.locs, Pt.cells, Pt.slots] at X5 l5 y5 z5 st5 hQ5
  subst l5 y5 z5
  obtain ⟨rfl, Nq5, e5⟩ := hQ5
  have N5 := Fr.app N4 Nq5
  obtain ⟨cq7, kq7, q7a, q7b, q7c⟩ := isOf hZ e5 E_pR3
  obtain ⟨_, _, ⟨T7, L7, k7, n7⟩, -, X7, ⟨Lc7, hQ7, l7, y7, z7⟩, st7⟩ := X5.virtualBack hx (y := yN3) (z := yN3) hown (mvT hZ (ow hw 10 rfl)) (mvT hZ (ow hw 11 rfl)) (notFace_of_selects (args := #[]) (mvT hZ (ow hw 13 rfl))) (mvT hZ (ow hw 13 rfl)) (mvT hZ (ow hw 12 rfl)) (by decide) (backOf (W := 0) (mf2d l Z a0 hw [] pR3 pR3 pR6 h0 n0 Z0 F_ordinal_pR3 E_pR3 S_OrderSegment_RXA ne_pR3_pR6) hZ (ow hw 14 rfl) (ow hw 6 rfl) (by decide) (by decide)) q7a q7c (g := (mkF m 106 #[.val (.int pI1), .val (.int pI2), .val (.int (2 : Int32)), .val (.int (2 : Int32)), .val (.ref pR3), .val (.ref pR3), .val (.int (0 : Int32))] [(.ref pR3), (.ref pR3)])) rfl (by rw [hml]; rfl) (Steps.refl _) (argsL := [(.ref pR3)]) (rest := []) (lenOf pd_2 rfl) rfl (by show 2 * 0 + _ ≤ _; exact Nat.le_of_eq rfl) (hb hby at_106) (fun _ _ => ⟨rfl, e5, (by decide : 0 + 0 ≤ _), (by decide : 0 + 0 ≤ _)⟩)
  dsimp only [Pt.U, Pt.locs, Pt.cells, Pt.slots] at X7 l7 y7 z7 st7 hQ7
  subst l7 y7 z7
  obtain ⟨rfl, Nq7, e7⟩ := hQ7
  have N7 := Fr.app N5 Nq7
  obtain ⟨fs, hr, hrun, hended, hW, hsame⟩ := X7.leave (v := some (.int (1 : Int32))) (fun h => by rw [Bd.returns] at h; cases h)
  refine ⟨_, _, pre0 _ ?_, hrun, hended, _, _, rfl, ?_, ⟨_, rfl⟩, hW, hsame.mono (by decide) (by decide)⟩
  · show oS p e below s₁ m 0 #[.val (.int pI1), .val (.int pI2), .unset, .unset, .unset, .unset, .unset] [] _
    refine XS.iloadN X0.here hx rfl (hb hby at_0) rfl ?_
    show oS p e below s₁ m 1 #[.val (.int pI1), .val (.int pI2), .unset, .unset, .unset, .unset, .unset] [(.int pI1)] _
    refine X0.ldcInt hx hown (mvT hZ (ow hw 0 rfl)) (g := (mkF m 1 #[.val (.int pI1), .val (.int pI2), .unset, .unset, .unset, .unset, .unset] [(.int pI1)])) rfl (hb hby at_1) _ ?_
    show oS p e below s₁ m 3 #[.val (.int pI1), .val (.int pI2), .unset, .unset, .unset, .unset, .unset] [(.int (2147483647 : Int32)), (.int pI1)] _
    refine XS.iand X0.here hx rfl (hb hby at_3) rfl ?_
    show oS p e below s₁ m 4 #[.val (.int pI1), .val (.int pI2), .unset, .unset, .unset, .unset, .unset] [(.int (pI1 &&& (2147483647 : Int32)))] _
    refine XS.iconst X0.here hx rfl (hb hby at_4) ?_
    show oS p e below s₁ m 5 #[.val (.int pI1), .val (.int pI2), .unset, .unset, .unset, .unset, .unset] [(.int (5 : Int32)), (.int (pI1 &&& (2147483647 : Int32)))] _
    refine iremM (g := (mkF m 5 #[.val (.int pI1), .val (.int pI2), .unset, .unset, .unset, .unset, .unset] [(.int (5 : Int32)), (.int (pI1 &&& (2147483647 : Int32)))])) X0 hx rfl (hb hby at_5) rfl (by decide) ?_
    show Steps p.tables e below (s₁.setTop (mkF m 6 #[.val (.int pI1), .val (.int pI2), .unset, .unset, .unset, .unset, .unset] [(.int ((pI1 &&& (2147483647 : Int32)) % (5 : Int32)))])) _
    rw [hc5]
    show oS p e below s₁ m 6 #[.val (.int pI1), .val (.int pI2), .unset, .unset, .unset, .unset, .unset] [(.int (2 : Int32))] _
    refine XS.istoreN X0.here hx rfl (hb hby at_6) rfl (l' := #[.val (.int pI1), .val (.int pI2), .val (.int (2 : Int32)), .unset, .unset, .unset, .unset]) rfl ?_
    show oS p e below s₁ m 7 #[.val (.int pI1), .val (.int pI2), .val (.int (2 : Int32)), .unset, .unset, .unset, .unset] [] _
    refine XS.iloadN X0.here hx rfl (hb hby at_7) rfl ?_
    show oS p e below s₁ m 8 #[.val (.int pI1), .val (.int pI2), .val (.int (2 : Int32)), .unset, .unset, .unset, .unset] [(.int pI2)] _
    refine X0.ldcInt hx hown (mvT hZ (ow hw 0 rfl)) (g := (mkF m 8 #[.val (.int pI1), .val (.int pI2), .val (.int (2 : Int32)), .unset, .unset, .unset, .unset] [(.int pI2)])) rfl (hb hby at_8) _ ?_
    show oS p e below s₁ m 10 #[.val (.int pI1), .val (.int pI2), .val (.int (2 : Int32)), .unset, .unset, .unset, .unset] [(.int (2147483647 : Int32)), (.int pI2)] _
    refine XS.iand X0.here hx rfl (hb hby at_10) rfl ?_
    show oS p e below s₁ m 11 #[.val (.int pI1), .val (.int pI2), .val (.int (2 : Int32)), .unset, .unset, .unset, .unset] [(.int (pI2 &&& (2147483647 : Int32)))] _
    refine XS.iconst X0.here hx rfl (hb hby at_11) ?_
    show oS p e below s₁ m 12 #[.val (.int pI1), .val (.int pI2), .val (.int (2 : Int32)), .unset, .unset, .unset, .unset] [(.int (5 : Int32)), (.int (pI2 &&& (2147483647 : Int32)))] _
    refine iremM (g := (mkF m 12 #[.val (.int pI1), .val (.int pI2), .val (.int (2 : Int32)), .unset, .unset, .unset, .unset] [(.int (5 : Int32)), (.int (pI2 &&& (2147483647 : Int32)))])) X0 hx rfl (hb hby at_12) rfl (by decide) ?_
    show Steps p.tables e below (s₁.setTop (mkF m 13 #[.val (.int pI1), .val (.int pI2), .val (.int (2 : Int32)), .unset, .unset, .unset, .unset] [(.int ((pI2 &&& (2147483647 : Int32)) % (5 : Int32)))])) _
    rw [hc12]
    show oS p e below s₁ m 13 #[.val (.int pI1), .val (.int pI2), .val (.int (2 : Int32)), .unset, .unset, .unset, .unset] [(.int (2 : Int32))] _
    refine XS.istoreN X0.here hx rfl (hb hby at_13) rfl (l' := #[.val (.int pI1), .val (.int pI2), .val (.int (2 : Int32)), .val (.int (2 : Int32)), .unset, .unset, .unset]) rfl ?_
    show oS p e below s₁ m 14 #[.val (.int pI1), .val (.int pI2), .val (.int (2 : Int32)), .val (.int (2 : Int32)), .unset, .unset, .unset] [] _
    refine XS.iloadN X0.here hx rfl (hb hby at_14) rfl ?_
    show oS p e below s₁ m 15 #[.val (.int pI1), .val (.int pI2), .val (.int (2 : Int32)), .val (.int (2 : Int32)), .unset, .unset, .unset] [(.int (2 : Int32))] _
    refine st4 _ ?_
    show oS p e below T4 m 18 #[.val (.int pI1), .val (.int pI2), .val (.int (2 : Int32)), .val (.int (2 : Int32)), .unset, .unset, .unset] [(.ref pR3)] _
    refine XS.astore X4.here hx rfl (hb hby at_18) rfl rfl (l' := #[.val (.int pI1), .val (.int pI2), .val (.int (2 : Int32)), .val (.int (2 : Int32)), .val (.ref pR3), .unset, .unset]) rfl ?_
    show oS p e below T4 m 20 #[.val (.int pI1), .val (.int pI2), .val (.int (2 : Int32)), .val (.int (2 : Int32)), .val (.ref pR3), .unset, .unset] [] _
    refine XS.iloadN X4.here hx rfl (hb hby at_20) rfl ?_
    show oS p e below T4 m 21 #[.val (.int pI1), .val (.int pI2), .val (.int (2 : Int32)), .val (.int (2 : Int32)), .val (.ref pR3), .unset, .unset] [(.int (2 : Int32))] _
    refine st5 _ ?_
    show oS p e below T5 m 24 #[.val (.int pI1), .val (.int pI2), .val (.int (2 : Int32)), .val (.int (2 : Int32)), .val (.ref pR3), .unset, .unset] [(.ref pR3)] _
    refine XS.astore X5.here hx rfl (hb hby at_24) rfl rfl (l' := #[.val (.int pI1), .val (.int pI2), .val (.int (2 : Int32)), .val (.int (2 : Int32)), .val (.ref pR3), .val (.ref pR3), .unset]) rfl ?_
    show oS p e below T5 m 26 #[.val (.int pI1), .val (.int pI2), .val (.int (2 : Int32)), .val (.int (2 : Int32)), .val (.ref pR3), .val (.ref pR3), .unset] [] _
    refine XS.iloadN X5.here hx rfl (hb hby at_26) rfl ?_
    show oS p e below T5 m 27 #[.val (.int pI1), .val (.int pI2), .val (.int (2 : Int32)), .val (.int (2 : Int32)), .val (.ref pR3), .val (.ref pR3), .unset] [(.int (2 : Int32))] _
    refine XS.ifYes X5.here hx rfl (pc0 := 27) (pc' := 35) rfl (hb hby at_27) rfl ((if0 _ _).trans (feq (by decide : ¬ ((2 : Int32) = (0 : Int32)))).2) (by decide) (by decide) ?_
    show oS p e below T5 m 35 #[.val (.int pI1), .val (.int pI2), .val (.int (2 : Int32)), .val (.int (2 : Int32)), .val (.ref pR3), .val (.ref pR3), .unset] [] _
    refine XS.iloadN X5.here hx rfl (hb hby at_35) rfl ?_
    show oS p e below T5 m 36 #[.val (.int pI1), .val (.int pI2), .val (.int (2 : Int32)), .val (.int (2 : Int32)), .val (.ref pR3), .val (.ref pR3), .unset] [(.int (2 : Int32))] _
    refine XS.iconst X5.here hx rfl (hb hby at_36) ?_
    show oS p e below T5 m 37 #[.val (.int pI1), .val (.int pI2), .val (.int (2 : Int32)), .val (.int (2 : Int32)), .val (.ref pR3), .val (.ref pR3), .unset] [(.int (1 : Int32)), (.int (2 : Int32))] _
    refine XS.icmpYes X5.here hx rfl (pc0 := 37) (pc' := 45) rfl (hb hby at_37) rfl (feq (by decide : ¬ ((2 : Int32) = (1 : Int32)))).2 (by decide) (by decide) ?_
    show oS p e below T5 m 45 #[.val (.int pI1), .val (.int pI2), .val (.int (2 : Int32)), .val (.int (2 : Int32)), .val (.ref pR3), .val (.ref pR3), .unset] [] _
    refine XS.iloadN X5.here hx rfl (hb hby at_45) rfl ?_
    show oS p e below T5 m 46 #[.val (.int pI1), .val (.int pI2), .val (.int (2 : Int32)), .val (.int (2 : Int32)), .val (.ref pR3), .val (.ref pR3), .unset] [(.int (2 : Int32))] _
    refine XS.iconst X5.here hx rfl (hb hby at_46) ?_
    show oS p e below T5 m 47 #[.val (.int pI1), .val (.int pI2), .val (.int (2 : Int32)), .val (.int (2 : Int32)), .val (.ref pR3), .val (.ref pR3), .unset] [(.int (1 : Int32)), (.int (2 : Int32))] _
    refine XS.icmpYes X5.here hx rfl (pc0 := 47) (pc' := 55) rfl (hb hby at_47) rfl (feq (by decide : ¬ ((2 : Int32) = (1 : Int32)))).2 (by decide) (by decide) ?_
    show oS p e below T5 m 55 #[.val (.int pI1), .val (.int pI2), .val (.int (2 : Int32)), .val (.int (2 : Int32)), .val (.ref pR3), .val (.ref pR3), .unset] [] _
    refine XS.iloadN X5.here hx rfl (hb hby at_55) rfl ?_
    show oS p e below T5 m 56 #[.val (.int pI1), .val (.int pI2), .val (.int (2 : Int32)), .val (.int (2 : Int32)), .val (.ref pR3), .val (.ref pR3), .unset] [(.int (2 : Int32))] _
    refine XS.iconst X5.here hx rfl (hb hby at_56) ?_
    show oS p e below T5 m 57 #[.val (.int pI1), .val (.int pI2), .val (.int (2 : Int32)), .val (.int (2 : Int32)), .val (.ref pR3), .val (.ref pR3), .unset] [(.int (2 : Int32)), (.int (2 : Int32))] _
    refine XS.icmpNo X5.here hx rfl (hb hby at_57) rfl (teq (by decide : (2 : Int32) = (2 : Int32))).2 ?_
    show oS p e below T5 m 60 #[.val (.int pI1), .val (.int pI2), .val (.int (2 : Int32)), .val (.int (2 : Int32)), .val (.ref pR3), .val (.ref pR3), .unset] [] _
    refine XS.iloadN X5.here hx rfl (hb hby at_60) rfl ?_
    show oS p e below T5 m 61 #[.val (.int pI1), .val (.int pI2), .val (.int (2 : Int32)), .val (.int (2 : Int32)), .val (.ref pR3), .val (.ref pR3), .unset] [(.int (2 : Int32))] _
    refine XS.iconst X5.here hx rfl (hb hby at_61) ?_
    show oS p e below T5 m 62 #[.val (.int pI1), .val (.int pI2), .val (.int (2 : Int32)), .val (.int (2 : Int32)), .val (.ref pR3), .val (.ref pR3), .unset] [(.int (3 : Int32)), (.int (2 : Int32))] _
    refine XS.icmpNo X5.here hx rfl (hb hby at_62) rfl (feq (by decide : ¬ ((2 : Int32) = (3 : Int32)))).1 ?_
    show oS p e below T5 m 65 #[.val (.int pI1), .val (.int pI2), .val (.int (2 : Int32)), .val (.int (2 : Int32)), .val (.ref pR3), .val (.ref pR3), .unset] [] _
    refine XS.iloadN X5.here hx rfl (hb hby at_65) rfl ?_
    show oS p e below T5 m 66 #[.val (.int pI1), .val (.int pI2), .val (.int (2 : Int32)), .val (.int (2 : Int32)), .val (.ref pR3), .val (.ref pR3), .unset] [(.int (2 : Int32))] _
    refine XS.iconst X5.here hx rfl (hb hby at_66) ?_
    show oS p e below T5 m 67 #[.val (.int pI1), .val (.int pI2), .val (.int (2 : Int32)), .val (.int (2 : Int32)), .val (.ref pR3), .val (.ref pR3), .unset] [(.int (3 : Int32)), (.int (2 : Int32))] _
    refine XS.icmpYes X5.here hx rfl (pc0 := 67) (pc' := 75) rfl (hb hby at_67) rfl (feq (by decide : ¬ ((2 : Int32) = (3 : Int32)))).2 (by decide) (by decide) ?_
    show oS p e below T5 m 75 #[.val (.int pI1), .val (.int pI2), .val (.int (2 : Int32)), .val (.int (2 : Int32)), .val (.ref pR3), .val (.ref pR3), .unset] [] _
    refine XS.iloadN X5.here hx rfl (hb hby at_75) rfl ?_
    show oS p e below T5 m 76 #[.val (.int pI1), .val (.int pI2), .val (.int (2 : Int32)), .val (.int (2 : Int32)), .val (.ref pR3), .val (.ref pR3), .unset] [(.int (2 : Int32))] _
    refine XS.iconst X5.here hx rfl (hb hby at_76) ?_
    show oS p e below T5 m 77 #[.val (.int pI1), .val (.int pI2), .val (.int (2 : Int32)), .val (.int (2 : Int32)), .val (.ref pR3), .val (.ref pR3), .unset] [(.int (4 : Int32)), (.int (2 : Int32))] _
    refine XS.icmpYes X5.here hx rfl (pc0 := 77) (pc' := 85) rfl (hb hby at_77) rfl (feq (by decide : ¬ ((2 : Int32) = (4 : Int32)))).2 (by decide) (by decide) ?_
    show oS p e below T5 m 85 #[.val (.int pI1), .val (.int pI2), .val (.int (2 : Int32)), .val (.int (2 : Int32)), .val (.ref pR3), .val (.ref pR3), .unset] [] _
    refine XS.iloadN X5.here hx rfl (hb hby at_85) rfl ?_
    show oS p e below T5 m 86 #[.val (.int pI1), .val (.int pI2), .val (.int (2 : Int32)), .val (.int (2 : Int32)), .val (.ref pR3), .val (.ref pR3), .unset] [(.int (2 : Int32))] _
    refine XS.iconst X5.here hx rfl (hb hby at_86) ?_
    show oS p e below T5 m 87 #[.val (.int pI1), .val (.int pI2), .val (.int (2 : Int32)), .val (.int (2 : Int32)), .val (.ref pR3), .val (.ref pR3), .unset] [(.int (3 : Int32)), (.int (2 : Int32))] _
    refine XS.icmpYes X5.here hx rfl (pc0 := 87) (pc' := 99) rfl (hb hby at_87) rfl (feq (by decide : ¬ ((2 : Int32) = (3 : Int32)))).2 (by decide) (by decide) ?_
    show oS p e below T5 m 99 #[.val (.int pI1), .val (.int pI2), .val (.int (2 : Int32)), .val (.int (2 : Int32)), .val (.ref pR3), .val (.ref pR3), .unset] [] _
    refine XS.iconst X5.here hx rfl (hb hby at_99) ?_
    show oS p e below T5 m 100 #[.val (.int pI1), .val (.int pI2), .val (.int (2 : Int32)), .val (.int (2 : Int32)), .val (.ref pR3), .val (.ref pR3), .unset] [(.int (0 : Int32))] _
    refine XS.istore X5.here hx rfl (hb hby at_100) rfl (l' := #[.val (.int pI1), .val (.int pI2), .val (.int (2 : Int32)), .val (.int (2 : Int32)), .val (.ref pR3), .val (.ref pR3), .val (.int (0 : Int32))]) rfl ?_
    show oS p e below T5 m 102 #[.val (.int pI1), .val (.int pI2), .val (.int (2 : Int32)), .val (.int (2 : Int32)), .val (.ref pR3), .val (.ref pR3), .val (.int (0 : Int32))] [] _
    refine XS.aload X5.here hx rfl (hb hby at_102) rfl rfl ?_
    show oS p e below T5 m 104 #[.val (.int pI1), .val (.int pI2), .val (.int (2 : Int32)), .val (.int (2 : Int32)), .val (.ref pR3), .val (.ref pR3), .val (.int (0 : Int32))] [(.ref pR3)] _
    refine XS.aload X5.here hx rfl (hb hby at_104) rfl rfl ?_
    show oS p e below T5 m 106 #[.val (.int pI1), .val (.int pI2), .val (.int (2 : Int32)), .val (.int (2 : Int32)), .val (.ref pR3), .val (.ref pR3), .val (.int (0 : Int32))] [(.ref pR3), (.ref pR3)] _
    refine st7.trans ?_
    show oS p e below T7 m 109 #[.val (.int pI1), .val (.int pI2), .val (.int (2 : Int32)), .val (.int (2 : Int32)), .val (.ref pR3), .val (.ref pR3), .val (.int (0 : Int32))] [(.int (0 : Int32))] _
    refine XS.iload X7.here hx rfl (hb hby at_109) rfl ?_
    show oS p e below T7 m 111 #[.val (.int pI1), .val (.int pI2), .val (.int (2 : Int32)), .val (.int (2 : Int32)), .val (.ref pR3), .val (.ref pR3), .val (.int (0 : Int32))] [(.int (0 : Int32)), (.int (0 : Int32))] _
    refine XS.icmpNo X7.here hx rfl (hb hby at_111) rfl (teq (by decide : (0 : Int32) = (0 : Int32))).2 ?_
    show oS p e below T7 m 114 #[.val (.int pI1), .val (.int pI2), .val (.int (2 : Int32)), .val (.int (2 : Int32)), .val (.ref pR3), .val (.ref pR3), .val (.int (0 : Int32))] [] _
    refine XS.iconst X7.here hx rfl (hb hby at_114) ?_
    show oS p e below T7 m 115 #[.val (.int pI1), .val (.int pI2), .val (.int (2 : Int32)), .val (.int (2 : Int32)), .val (.ref pR3), .val (.ref pR3), .val (.int (0 : Int32))] [(.int (1 : Int32))] _
    refine XS.goto X7.here hx rfl (pc0 := 115) (pc' := 119) rfl (hb hby at_115) (by decide) (by decide) ?_
    show oS p e below T7 m 119 #[.val (.int pI1), .val (.int pI2), .val (.int (2 : Int32)), .val (.int (2 : Int32)), .val (.ref pR3), .val (.ref pR3), .val (.int (0 : Int32))] [(.int (1 : Int32))] _
    exact retN X7 hx (t := .boolean) Bd.returns (by simp) (hb hby at_119) hr
  · show Qlaw2_2 Z pI1 pI2 pR3 pR6 h0 n0 _ T7.heap _
    rw [e7]
    exact ⟨rfl, N7⟩
theorem ef_law2_3 (m : MethodId) (pI1 : Int32) (pI2 : Int32) : entryFrame m #[(.int pI1), (.int pI2)] maxLocals = mkF m 0 #[.val (.int pI1), .val (.int pI2), .unset, .unset, .unset, .unset, .unset] [] := by first | (simp [entryFrame, mkF, argsToLocals, Value.category, maxLocals]; done) | rfl
def Qlaw2_3 (Z : State) (pI1 : Int32) (pI2 : Int32) (pR3 : Addr) (pR5 : Addr) (pR7 : Addr) (h0 : Heap) (n0 : Nat) (v : Option Value) (h : Heap) (L : List Loc) : Prop := v = some (.int (1 : Int32)) ∧ Fr n0 L
set_option maxRecDepth 65536 in
set_option maxHeartbeats 40000000 in
theorem law2_3 (l : Launch) (Z : State) (a0 : Array Value) (hw : ∀ d ∈ tables_1, d.before a0 Z = true) (ws : List Jvm.Cond) (pI1 : Int32) (pI2 : Int32) (pR3 : Addr) (pR5 : Addr) (pR7 : Addr) (h0 : Heap) (n0 : Nat) (Z0 : n0 ≤ h0.size) (S_OrderSegment_RXR : Sta Z h0 "com/example/vaxwire/vaxwire/reply/OrderSegment" "RXR" "Lcom/example/vaxwire/vaxwire/reply/OrderSegment;" (.ref pR3)) (S_OrderSegment_OBX : Sta Z h0 "com/example/vaxwire/vaxwire/reply/OrderSegment" "OBX" "Lcom/example/vaxwire/vaxwire/reply/OrderSegment;" (.ref pR5)) (F_ordinal_pR3 : Fld Z h0 pR3 "java/lang/Enum" "ordinal" "I" (.int (2 : Int32))) (E_pR3 : Exa Z h0 pR3 "com/example/vaxwire/vaxwire/reply/OrderSegment") (S_OrderSegment_RXA : Sta Z h0 "com/example/vaxwire/vaxwire/reply/OrderSegment" "RXA" "Lcom/example/vaxwire/vaxwire/reply/OrderSegment;" (.ref pR7)) (ne_pR5_pR7 : pR5 ≠ pR7) (hc5 : ((pI1 &&& (2147483647 : Int32)) % (5 : Int32)) = (2 : Int32)) (hc12 : ((pI2 &&& (2147483647 : Int32)) % (5 : Int32)) = (3 : Int32)) :
    MetFree l x (head1 (Jvm.Cond.code x code maxLocals ret :: ws) room_1) (fun a U => a = #[(.int pI1), (.int pI2)] ∧ Z.Warmed39 U.vm ∧ U.heap = h0) (fun _ _ _ _ _ => True) (fun _ U o U' => ∃ v L, o = .returned v ∧ Qlaw2_3 Z pI1 pI2 pR3 pR5 pR7 h0 n0 v U'.heap L ∧ FrameEnd U o U' L room_1.cells room_1.slots) := by
  refine MetFree.of_bodySF (plainFor_of_name pn_0) hisR ?_
  intro p e s m args below meth c s₁ Bd hml0 hP hK
  obtain ⟨rfl, hZ, hh⟩ := hP
  have hx := Bd.exec
  have hby := Bd.bytes
  have hml : c.maxLocals = 7 := hml0
  have hown : s.vm.findClass "com/example/vaxwire/vaxwire/reply/OrderSegmentMayFollowPinLaw" = some m.cls := findClass_of_methodNamed Bd.named
  have hnm := (name_of_methodNamed Bd.named Bd.method).1
  have X0 : Stand p l e room_1 s m #[(.int pI1), (.int pI2)] below meth c s₁ [] 0 0 := Stand.of_body Bd
  have e0 : s₁.heap = h0 := by rw [← hh, Bd.state]; rfl
  have N0 := Fr.nil n0
  have pre0 : ∀ t, Steps p.tables e below (s₁.setTop (mkF m 0 #[.val (.int pI1), .val (.int pI2), .unset, .unset, .unset, .unset, .unset] [])) t → Steps p.tables e below (s₁.setTop (entryFrame m #[(.int pI1), (.int pI2)] maxLocals)) t := fun t k => castTop (ef_law2_3 m pI1 pI2) k
  obtain ⟨_, _, ⟨T4, L4, k4, n4⟩, -, X4, ⟨Lc4, hQ4, l4, y4, z4⟩, st4⟩ := Jvm.LawKit.callS X0 hx (y := yN0) hown (mvT hZ (ow hw 1 rfl)) (mvT hZ (ow hw 2 rfl)) (mvT hZ (ow hw 3 rfl)) (mvT hZ (ow hw 4 rfl)) (by decide) (backOf (W := 0) (pick2 l Z a0 hw [] pR3 h0 n0 Z0 S_OrderSegment_RXR) hZ (ow hw 4 rfl) (ow hw 3 rfl) (by decide) (by decide)) (g := (mkF m 15 #[.val (.int pI1), .val (.int pI2), .val (.int (2 : Int32)), .val (.int (3 : Int32)), .unset, .unset, .unset] [(.int (2 : Int32))])) rfl (by rw [hml]; rfl) (argsL := [(.int (2 : Int32))]) (rest := []) (lenOf pd_1 rfl) rfl (by show 2 * 0 + _ ≤ _; exact Nat.le_of_eq rfl) (hb hby at_15) (fun _ _ => ⟨rfl, e0, (by decide : 0 + 0 ≤ _), (by decide : 0 + 0 ≤ _)⟩)
  dsimp only [Pt.U, Pt.locs, Pt.cells, Pt.slots] at X4 l4 y4 z4 st4 hQ4
  subst l4 y4 z4
  obtain ⟨rfl, Nq4, e4⟩ := hQ4
  have N4 := Fr.app N0 Nq4
  obtain ⟨_, _, ⟨T6, L6, k6, n6⟩, -, X6, ⟨Lc6, hQ6, l6, y6, z6⟩, st6⟩ := Jvm.LawKit.callS X4 hx (y := yN0) hown (mvT hZ (ow hw 1 rfl)) (mvT hZ (ow hw 2 rfl)) (mvT hZ (ow hw 3 rfl)) (mvT hZ (ow hw 4 rfl)) (by decide) (backOf (W := 0) (pick3 l Z a0 hw [] pR5 h0 n0 Z0 S_OrderSegment_OBX) hZ (ow hw 4 rfl) (ow hw 3 rfl) (by decide) (by decide)) (g := (mkF m 21 #[.val (.int pI1), .val (.int pI2), .val (.int (2 : Int32)), .val (.int (3 : Int32)), .val (.ref pR3), .unset, .unset] [(.int (3 : Int32))])) rfl (by rw [hml]; rfl) (argsL := [(.int (3 : Int32))]) (rest := []) (lenOf pd_1 rfl) rfl (by show 2 * 0 + _ ≤ _; exact Nat.le_of_eq rfl) (hb hby at_21) (fun _ _ => ⟨rfl, e4, (by decide : 0 + 0 ≤ _), (by decide : 0 + 0 ≤ _)⟩)
  dsimp only [Pt.U, Pt.locs, Pt.cells, Pt.slots] at X6 l6 y6 z6 st6 hQ6
  subst l6 y6 z6
  obtain ⟨rfl, Nq6, e6⟩ := hQ6
  have N6 := Fr.app N4 Nq6
  obtain ⟨cq8, kq8, q8a, q8b, q8c⟩ := isOf hZ e6 E_pR3
  obtain ⟨_, _, ⟨T8, L8, k8, n8⟩, -, X8, ⟨Lc8, hQ8, l8, y8, z8⟩, st8⟩ := X6.virtualBack hx (y := yN3) (z := yN3) hown (mvT hZ (ow hw 10 rfl)) (mvT hZ (ow hw 11 rfl)) (notFace_of_selects (args := #[]) (mvT hZ (ow hw 13 rfl))) (mvT hZ (ow hw 13 rfl)) (mvT hZ (ow hw 12 rfl)) (by decide) (backOf (W := 0) (mf2d l Z a0 hw [] pR3 pR5 pR7 h0 n0 Z0 F_ordinal_pR3 E_pR3 S_OrderSegment_RXA ne_pR5_pR7) hZ (ow hw 14 rfl) (ow hw 6 rfl) (by decide) (by decide)) q8a q8c (g := (mkF m 106 #[.val (.int pI1), .val (.int pI2), .val (.int (2 : Int32)), .val (.int (3 : Int32)), .val (.ref pR3), .val (.ref pR5), .val (.int (0 : Int32))] [(.ref pR5), (.ref pR3)])) rfl (by rw [hml]; rfl) (Steps.refl _) (argsL := [(.ref pR5)]) (rest := []) (lenOf pd_2 rfl) rfl (by show 2 * 0 + _ ≤ _; exact Nat.le_of_eq rfl) (hb hby at_106) (fun _ _ => ⟨rfl, e6, (by decide : 0 + 0 ≤ _), (by decide : 0 + 0 ≤ _)⟩)
  dsimp only [Pt.U, Pt.locs, Pt.cells, Pt.slots] at X8 l8 y8 z8 st8 hQ8
  subst l8 y8 z8
  obtain ⟨rfl, Nq8, e8⟩ := hQ8
  have N8 := Fr.app N6 Nq8
  obtain ⟨fs, hr, hrun, hended, hW, hsame⟩ := X8.leave (v := some (.int (1 : Int32))) (fun h => by rw [Bd.returns] at h; cases h)
  refine ⟨_, _, pre0 _ ?_, hrun, hended, _, _, rfl, ?_, ⟨_, rfl⟩, hW, hsame.mono (by decide) (by decide)⟩
  · show oS p e below s₁ m 0 #[.val (.int pI1), .val (.int pI2), .unset, .unset, .unset, .unset, .unset] [] _
    refine XS.iloadN X0.here hx rfl (hb hby at_0) rfl ?_
    show oS p e below s₁ m 1 #[.val (.int pI1), .val (.int pI2), .unset, .unset, .unset, .unset, .unset] [(.int pI1)] _
    refine X0.ldcInt hx hown (mvT hZ (ow hw 0 rfl)) (g := (mkF m 1 #[.val (.int pI1), .val (.int pI2), .unset, .unset, .unset, .unset, .unset] [(.int pI1)])) rfl (hb hby at_1) _ ?_
    show oS p e below s₁ m 3 #[.val (.int pI1), .val (.int pI2), .unset, .unset, .unset, .unset, .unset] [(.int (2147483647 : Int32)), (.int pI1)] _
    refine XS.iand X0.here hx rfl (hb hby at_3) rfl ?_
    show oS p e below s₁ m 4 #[.val (.int pI1), .val (.int pI2), .unset, .unset, .unset, .unset, .unset] [(.int (pI1 &&& (2147483647 : Int32)))] _
    refine XS.iconst X0.here hx rfl (hb hby at_4) ?_
    show oS p e below s₁ m 5 #[.val (.int pI1), .val (.int pI2), .unset, .unset, .unset, .unset, .unset] [(.int (5 : Int32)), (.int (pI1 &&& (2147483647 : Int32)))] _
    refine iremM (g := (mkF m 5 #[.val (.int pI1), .val (.int pI2), .unset, .unset, .unset, .unset, .unset] [(.int (5 : Int32)), (.int (pI1 &&& (2147483647 : Int32)))])) X0 hx rfl (hb hby at_5) rfl (by decide) ?_
    show Steps p.tables e below (s₁.setTop (mkF m 6 #[.val (.int pI1), .val (.int pI2), .unset, .unset, .unset, .unset, .unset] [(.int ((pI1 &&& (2147483647 : Int32)) % (5 : Int32)))])) _
    rw [hc5]
    show oS p e below s₁ m 6 #[.val (.int pI1), .val (.int pI2), .unset, .unset, .unset, .unset, .unset] [(.int (2 : Int32))] _
    refine XS.istoreN X0.here hx rfl (hb hby at_6) rfl (l' := #[.val (.int pI1), .val (.int pI2), .val (.int (2 : Int32)), .unset, .unset, .unset, .unset]) rfl ?_
    show oS p e below s₁ m 7 #[.val (.int pI1), .val (.int pI2), .val (.int (2 : Int32)), .unset, .unset, .unset, .unset] [] _
    refine XS.iloadN X0.here hx rfl (hb hby at_7) rfl ?_
    show oS p e below s₁ m 8 #[.val (.int pI1), .val (.int pI2), .val (.int (2 : Int32)), .unset, .unset, .unset, .unset] [(.int pI2)] _
    refine X0.ldcInt hx hown (mvT hZ (ow hw 0 rfl)) (g := (mkF m 8 #[.val (.int pI1), .val (.int pI2), .val (.int (2 : Int32)), .unset, .unset, .unset, .unset] [(.int pI2)])) rfl (hb hby at_8) _ ?_
    show oS p e below s₁ m 10 #[.val (.int pI1), .val (.int pI2), .val (.int (2 : Int32)), .unset, .unset, .unset, .unset] [(.int (2147483647 : Int32)), (.int pI2)] _
    refine XS.iand X0.here hx rfl (hb hby at_10) rfl ?_
    show oS p e below s₁ m 11 #[.val (.int pI1), .val (.int pI2), .val (.int (2 : Int32)), .unset, .unset, .unset, .unset] [(.int (pI2 &&& (2147483647 : Int32)))] _
    refine XS.iconst X0.here hx rfl (hb hby at_11) ?_
    show oS p e below s₁ m 12 #[.val (.int pI1), .val (.int pI2), .val (.int (2 : Int32)), .unset, .unset, .unset, .unset] [(.int (5 : Int32)), (.int (pI2 &&& (2147483647 : Int32)))] _
    refine iremM (g := (mkF m 12 #[.val (.int pI1), .val (.int pI2), .val (.int (2 : Int32)), .unset, .unset, .unset, .unset] [(.int (5 : Int32)), (.int (pI2 &&& (2147483647 : Int32)))])) X0 hx rfl (hb hby at_12) rfl (by decide) ?_
    show Steps p.tables e below (s₁.setTop (mkF m 13 #[.val (.int pI1), .val (.int pI2), .val (.int (2 : Int32)), .unset, .unset, .unset, .unset] [(.int ((pI2 &&& (2147483647 : Int32)) % (5 : Int32)))])) _
    rw [hc12]
    show oS p e below s₁ m 13 #[.val (.int pI1), .val (.int pI2), .val (.int (2 : Int32)), .unset, .unset, .unset, .unset] [(.int (3 : Int32))] _
    refine XS.istoreN X0.here hx rfl (hb hby at_13) rfl (l' := #[.val (.int pI1), .val (.int pI2), .val (.int (2 : Int32)), .val (.int (3 : Int32)), .unset, .unset, .unset]) rfl ?_
    show oS p e below s₁ m 14 #[.val (.int pI1), .val (.int pI2), .val (.int (2 : Int32)), .val (.int (3 : Int32)), .unset, .unset, .unset] [] _
    refine XS.iloadN X0.here hx rfl (hb hby at_14) rfl ?_
    show oS p e below s₁ m 15 #[.val (.int pI1), .val (.int pI2), .val (.int (2 : Int32)), .val (.int (3 : Int32)), .unset, .unset, .unset] [(.int (2 : Int32))] _
    refine st4 _ ?_
    show oS p e below T4 m 18 #[.val (.int pI1), .val (.int pI2), .val (.int (2 : Int32)), .val (.int (3 : Int32)), .unset, .unset, .unset] [(.ref pR3)] _
    refine XS.astore X4.here hx rfl (hb hby at_18) rfl rfl (l' := #[.val (.int pI1), .val (.int pI2), .val (.int (2 : Int32)), .val (.int (3 : Int32)), .val (.ref pR3), .unset, .unset]) rfl ?_
    show oS p e below T4 m 20 #[.val (.int pI1), .val (.int pI2), .val (.int (2 : Int32)), .val (.int (3 : Int32)), .val (.ref pR3), .unset, .unset] [] _
    refine XS.iloadN X4.here hx rfl (hb hby at_20) rfl ?_
    show oS p e below T4 m 21 #[.val (.int pI1), .val (.int pI2), .val (.int (2 : Int32)), .val (.int (3 : Int32)), .val (.ref pR3), .unset, .unset] [(.int (3 : Int32))] _
    refine st6 _ ?_
    show oS p e below T6 m 24 #[.val (.int pI1), .val (.int pI2), .val (.int (2 : Int32)), .val (.int (3 : Int32)), .val (.ref pR3), .unset, .unset] [(.ref pR5)] _
    refine XS.astore X6.here hx rfl (hb hby at_24) rfl rfl (l' := #[.val (.int pI1), .val (.int pI2), .val (.int (2 : Int32)), .val (.int (3 : Int32)), .val (.ref pR3), .val (.ref pR5), .unset]) rfl ?_
    show oS p e below T6 m 26 #[.val (.int pI1), .val (.int pI2), .val (.int (2 : Int32)), .val (.int (3 : Int32)), .val (.ref pR3), .val (.ref pR5), .unset] [] _
    refine XS.iloadN X6.here hx rfl (hb hby at_26) rfl ?_
    show oS p e below T6 m 27 #[.val (.int pI1), .val (.int pI2), .val (.int (2 : Int32)), .val (.int (3 : Int32)), .val (.ref pR3), .val (.ref pR5), .unset] [(.int (3 : Int32))] _
    refine XS.ifYes X6.here hx rfl (pc0 := 27) (pc' := 35) rfl (hb hby at_27) rfl ((if0 _ _).trans (feq (by decide : ¬ ((3 : Int32) = (0 : Int32)))).2) (by decide) (by decide) ?_
    show oS p e below T6 m 35 #[.val (.int pI1), .val (.int pI2), .val (.int (2 : Int32)), .val (.int (3 : Int32)), .val (.ref pR3), .val (.ref pR5), .unset] [] _
    refine XS.iloadN X6.here hx rfl (hb hby at_35) rfl ?_
    show oS p e below T6 m 36 #[.val (.int pI1), .val (.int pI2), .val (.int (2 : Int32)), .val (.int (3 : Int32)), .val (.ref pR3), .val (.ref pR5), .unset] [(.int (3 : Int32))] _
    refine XS.iconst X6.here hx rfl (hb hby at_36) ?_
    show oS p e below T6 m 37 #[.val (.int pI1), .val (.int pI2), .val (.int (2 : Int32)), .val (.int (3 : Int32)), .val (.ref pR3), .val (.ref pR5), .unset] [(.int (1 : Int32)), (.int (3 : Int32))] _
    refine XS.icmpYes X6.here hx rfl (pc0 := 37) (pc' := 45) rfl (hb hby at_37) rfl (feq (by decide : ¬ ((3 : Int32) = (1 : Int32)))).2 (by decide) (by decide) ?_
    show oS p e below T6 m 45 #[.val (.int pI1), .val (.int pI2), .val (.int (2 : Int32)), .val (.int (3 : Int32)), .val (.ref pR3), .val (.ref pR5), .unset] [] _
    refine XS.iloadN X6.here hx rfl (hb hby at_45) rfl ?_
    show oS p e below T6 m 46 #[.val (.int pI1), .val (.int pI2), .val (.int (2 : Int32)), .val (.int (3 : Int32)), .val (.ref pR3), .val (.ref pR5), .unset] [(.int (3 : Int32))] _
    refine XS.iconst X6.here hx rfl (hb hby at_46) ?_
    show oS p e below T6 m 47 #[.val (.int pI1), .val (.int pI2), .val (.int (2 : Int32)), .val (.int (3 : Int32)), .val (.ref pR3), .val (.ref pR5), .unset] [(.int (1 : Int32)), (.int (3 : Int32))] _
    refine XS.icmpYes X6.here hx rfl (pc0 := 47) (pc' := 55) rfl (hb hby at_47) rfl (feq (by decide : ¬ ((3 : Int32) = (1 : Int32)))).2 (by decide) (by decide) ?_
    show oS p e below T6 m 55 #[.val (.int pI1), .val (.int pI2), .val (.int (2 : Int32)), .val (.int (3 : Int32)), .val (.ref pR3), .val (.ref pR5), .unset] [] _
    refine XS.iloadN X6.here hx rfl (hb hby at_55) rfl ?_
    show oS p e below T6 m 56 #[.val (.int pI1), .val (.int pI2), .val (.int (2 : Int32)), .val (.int (3 : Int32)), .val (.ref pR3), .val (.ref pR5), .unset] [(.int (3 : Int32))] _
    refine XS.iconst X6.here hx rfl (hb hby at_56) ?_
    show oS p e below T6 m 57 #[.val (.int pI1), .val (.int pI2), .val (.int (2 : Int32)), .val (.int (3 : Int32)), .val (.ref pR3), .val (.ref pR5), .unset] [(.int (2 : Int32)), (.int (3 : Int32))] _
    refine XS.icmpYes X6.here hx rfl (pc0 := 57) (pc' := 65) rfl (hb hby at_57) rfl (feq (by decide : ¬ ((3 : Int32) = (2 : Int32)))).2 (by decide) (by decide) ?_
    show oS p e below T6 m 65 #[.val (.int pI1), .val (.int pI2), .val (.int (2 : Int32)), .val (.int (3 : Int32)), .val (.ref pR3), .val (.ref pR5), .unset] [] _
    refine XS.iloadN X6.here hx rfl (hb hby at_65) rfl ?_
    show oS p e below T6 m 66 #[.val (.int pI1), .val (.int pI2), .val (.int (2 : Int32)), .val (.int (3 : Int32)), .val (.ref pR3), .val (.ref pR5), .unset] [(.int (3 : Int32))] _
    refine XS.iconst X6.here hx rfl (hb hby at_66) ?_
    show oS p e below T6 m 67 #[.val (.int pI1), .val (.int pI2), .val (.int (2 : Int32)), .val (.int (3 : Int32)), .val (.ref pR3), .val (.ref pR5), .unset] [(.int (3 : Int32)), (.int (3 : Int32))] _
    refine XS.icmpNo X6.here hx rfl (hb hby at_67) rfl (teq (by decide : (3 : Int32) = (3 : Int32))).2 ?_
    show oS p e below T6 m 70 #[.val (.int pI1), .val (.int pI2), .val (.int (2 : Int32)), .val (.int (3 : Int32)), .val (.ref pR3), .val (.ref pR5), .unset] [] _
    refine XS.iloadN X6.here hx rfl (hb hby at_70) rfl ?_
    show oS p e below T6 m 71 #[.val (.int pI1), .val (.int pI2), .val (.int (2 : Int32)), .val (.int (3 : Int32)), .val (.ref pR3), .val (.ref pR5), .unset] [(.int (2 : Int32))] _
    refine XS.iconst X6.here hx rfl (hb hby at_71) ?_
    show oS p e below T6 m 72 #[.val (.int pI1), .val (.int pI2), .val (.int (2 : Int32)), .val (.int (3 : Int32)), .val (.ref pR3), .val (.ref pR5), .unset] [(.int (3 : Int32)), (.int (2 : Int32))] _
    refine XS.icmpNo X6.here hx rfl (hb hby at_72) rfl (feq (by decide : ¬ ((2 : Int32) = (3 : Int32)))).1 ?_
    show oS p e below T6 m 75 #[.val (.int pI1), .val (.int pI2), .val (.int (2 : Int32)), .val (.int (3 : Int32)), .val (.ref pR3), .val (.ref pR5), .unset] [] _
    refine XS.iloadN X6.here hx rfl (hb hby at_75) rfl ?_
    show oS p e below T6 m 76 #[.val (.int pI1), .val (.int pI2), .val (.int (2 : Int32)), .val (.int (3 : Int32)), .val (.ref pR3), .val (.ref pR5), .unset] [(.int (3 : Int32))] _
    refine XS.iconst X6.here hx rfl (hb hby at_76) ?_
    show oS p e below T6 m 77 #[.val (.int pI1), .val (.int pI2), .val (.int (2 : Int32)), .val (.int (3 : Int32)), .val (.ref pR3), .val (.ref pR5), .unset] [(.int (4 : Int32)), (.int (3 : Int32))] _
    refine XS.icmpYes X6.here hx rfl (pc0 := 77) (pc' := 85) rfl (hb hby at_77) rfl (feq (by decide : ¬ ((3 : Int32) = (4 : Int32)))).2 (by decide) (by decide) ?_
    show oS p e below T6 m 85 #[.val (.int pI1), .val (.int pI2), .val (.int (2 : Int32)), .val (.int (3 : Int32)), .val (.ref pR3), .val (.ref pR5), .unset] [] _
    refine XS.iloadN X6.here hx rfl (hb hby at_85) rfl ?_
    show oS p e below T6 m 86 #[.val (.int pI1), .val (.int pI2), .val (.int (2 : Int32)), .val (.int (3 : Int32)), .val (.ref pR3), .val (.ref pR5), .unset] [(.int (3 : Int32))] _
    refine XS.iconst X6.here hx rfl (hb hby at_86) ?_
    show oS p e below T6 m 87 #[.val (.int pI1), .val (.int pI2), .val (.int (2 : Int32)), .val (.int (3 : Int32)), .val (.ref pR3), .val (.ref pR5), .unset] [(.int (3 : Int32)), (.int (3 : Int32))] _
    refine XS.icmpNo X6.here hx rfl (hb hby at_87) rfl (teq (by decide : (3 : Int32) = (3 : Int32))).2 ?_
    show oS p e below T6 m 90 #[.val (.int pI1), .val (.int pI2), .val (.int (2 : Int32)), .val (.int (3 : Int32)), .val (.ref pR3), .val (.ref pR5), .unset] [] _
    refine XS.iloadN X6.here hx rfl (hb hby at_90) rfl ?_
    show oS p e below T6 m 91 #[.val (.int pI1), .val (.int pI2), .val (.int (2 : Int32)), .val (.int (3 : Int32)), .val (.ref pR3), .val (.ref pR5), .unset] [(.int (2 : Int32))] _
    refine XS.iconst X6.here hx rfl (hb hby at_91) ?_
    show oS p e below T6 m 92 #[.val (.int pI1), .val (.int pI2), .val (.int (2 : Int32)), .val (.int (3 : Int32)), .val (.ref pR3), .val (.ref pR5), .unset] [(.int (4 : Int32)), (.int (2 : Int32))] _
    refine XS.icmpYes X6.here hx rfl (pc0 := 92) (pc' := 99) rfl (hb hby at_92) rfl (feq (by decide : ¬ ((2 : Int32) = (4 : Int32)))).2 (by decide) (by decide) ?_
    show oS p e below T6 m 99 #[.val (.int pI1), .val (.int pI2), .val (.int (2 : Int32)), .val (.int (3 : Int32)), .val (.ref pR3), .val (.ref pR5), .unset] [] _
    refine XS.iconst X6.here hx rfl (hb hby at_99) ?_
    show oS p e below T6 m 100 #[.val (.int pI1), .val (.int pI2), .val (.int (2 : Int32)), .val (.int (3 : Int32)), .val (.ref pR3), .val (.ref pR5), .unset] [(.int (0 : Int32))] _
    refine XS.istore X6.here hx rfl (hb hby at_100) rfl (l' := #[.val (.int pI1), .val (.int pI2), .val (.int (2 : Int32)), .val (.int (3 : Int32)), .val (.ref pR3), .val (.ref pR5), .val (.int (0 : Int32))]) rfl ?_
    show oS p e below T6 m 102 #[.val (.int pI1), .val (.int pI2), .val (.int (2 : Int32)), .val (.int (3 : Int32)), .val (.ref pR3), .val (.ref pR5), .val (.int (0 : Int32))] [] _
    refine XS.aload X6.here hx rfl (hb hby at_102) rfl rfl ?_
    show oS p e below T6 m 104 #[.val (.int pI1), .val (.int pI2), .val (.int (2 : Int32)), .val (.int (3 : Int32)), .val (.ref pR3), .val (.ref pR5), .val (.int (0 : Int32))] [(.ref pR3)] _
    refine XS.aload X6.here hx rfl (hb hby at_104) rfl rfl ?_
    show oS p e below T6 m 106 #[.val (.int pI1), .val (.int pI2), .val (.int (2 : Int32)), .val (.int (3 : Int32)), .val (.ref pR3), .val (.ref pR5), .val (.int (0 : Int32))] [(.ref pR5), (.ref pR3)] _
    refine st8.trans ?_
    show oS p e below T8 m 109 #[.val (.int pI1), .val (.int pI2), .val (.int (2 : Int32)), .val (.int (3 : Int32)), .val (.ref pR3), .val (.ref pR5), .val (.int (0 : Int32))] [(.int (0 : Int32))] _
    refine XS.iload X8.here hx rfl (hb hby at_109) rfl ?_
    show oS p e below T8 m 111 #[.val (.int pI1), .val (.int pI2), .val (.int (2 : Int32)), .val (.int (3 : Int32)), .val (.ref pR3), .val (.ref pR5), .val (.int (0 : Int32))] [(.int (0 : Int32)), (.int (0 : Int32))] _
    refine XS.icmpNo X8.here hx rfl (hb hby at_111) rfl (teq (by decide : (0 : Int32) = (0 : Int32))).2 ?_
    show oS p e below T8 m 114 #[.val (.int pI1), .val (.int pI2), .val (.int (2 : Int32)), .val (.int (3 : Int32)), .val (.ref pR3), .val (.ref pR5), .val (.int (0 : Int32))] [] _
    refine XS.iconst X8.here hx rfl (hb hby at_114) ?_
    show oS p e below T8 m 115 #[.val (.int pI1), .val (.int pI2), .val (.int (2 : Int32)), .val (.int (3 : Int32)), .val (.ref pR3), .val (.ref pR5), .val (.int (0 : Int32))] [(.int (1 : Int32))] _
    refine XS.goto X8.here hx rfl (pc0 := 115) (pc' := 119) rfl (hb hby at_115) (by decide) (by decide) ?_
    show oS p e below T8 m 119 #[.val (.int pI1), .val (.int pI2), .val (.int (2 : Int32)), .val (.int (3 : Int32)), .val (.ref pR3), .val (.ref pR5), .val (.int (0 : Int32))] [(.int (1 : Int32))] _
    exact retN X8 hx (t := .boolean) Bd.returns (by simp) (hb hby at_119) hr
  · show Qlaw2_3 Z pI1 pI2 pR3 pR5 pR7 h0 n0 _ T8.heap _
    rw [e8]
    exact ⟨rfl, N8⟩
theorem ef_law2_4 (m : MethodId) (pI1 : Int32) (pI2 : Int32) : entryFrame m #[(.int pI1), (.int pI2)] maxLocals = mkF m 0 #[.val (.int pI1), .val (.int pI2), .unset, .unset, .unset, .unset, .unset] [] := by first | (simp [entryFrame, mkF, argsToLocals, Value.category, maxLocals]; done) | rfl
def Qlaw2_4 (Z : State) (pI1 : Int32) (pI2 : Int32) (pR3 : Addr) (pR5 : Addr) (pR7 : Addr) (h0 : Heap) (n0 : Nat) (v : Option Value) (h : Heap) (L : List Loc) : Prop := v = some (.int (1 : Int32)) ∧ Fr n0 L
set_option maxRecDepth 65536 in
set_option maxHeartbeats 40000000 in
theorem law2_4 (l : Launch) (Z : State) (a0 : Array Value) (hw : ∀ d ∈ tables_1, d.before a0 Z = true) (ws : List Jvm.Cond) (pI1 : Int32) (pI2 : Int32) (pR3 : Addr) (pR5 : Addr) (pR7 : Addr) (h0 : Heap) (n0 : Nat) (Z0 : n0 ≤ h0.size) (S_OrderSegment_RXR : Sta Z h0 "com/example/vaxwire/vaxwire/reply/OrderSegment" "RXR" "Lcom/example/vaxwire/vaxwire/reply/OrderSegment;" (.ref pR3)) (S_OrderSegment_NTE : Sta Z h0 "com/example/vaxwire/vaxwire/reply/OrderSegment" "NTE" "Lcom/example/vaxwire/vaxwire/reply/OrderSegment;" (.ref pR5)) (F_ordinal_pR3 : Fld Z h0 pR3 "java/lang/Enum" "ordinal" "I" (.int (2 : Int32))) (E_pR3 : Exa Z h0 pR3 "com/example/vaxwire/vaxwire/reply/OrderSegment") (S_OrderSegment_RXA : Sta Z h0 "com/example/vaxwire/vaxwire/reply/OrderSegment" "RXA" "Lcom/example/vaxwire/vaxwire/reply/OrderSegment;" (.ref pR7)) (ne_pR5_pR7 : pR5 ≠ pR7) (hc5 : ((pI1 &&& (2147483647 : Int32)) % (5 : Int32)) = (2 : Int32)) (hc12 : ((pI2 &&& (2147483647 : Int32)) % (5 : Int32)) = (4 : Int32)) :
    MetFree l x (head1 (Jvm.Cond.code x code maxLocals ret :: ws) room_1) (fun a U => a = #[(.int pI1), (.int pI2)] ∧ Z.Warmed39 U.vm ∧ U.heap = h0) (fun _ _ _ _ _ => True) (fun _ U o U' => ∃ v L, o = .returned v ∧ Qlaw2_4 Z pI1 pI2 pR3 pR5 pR7 h0 n0 v U'.heap L ∧ FrameEnd U o U' L room_1.cells room_1.slots) := by
  refine MetFree.of_bodySF (plainFor_of_name pn_0) hisR ?_
  intro p e s m args below meth c s₁ Bd hml0 hP hK
  obtain ⟨rfl, hZ, hh⟩ := hP
  have hx := Bd.exec
  have hby := Bd.bytes
  have hml : c.maxLocals = 7 := hml0
  have hown : s.vm.findClass "com/example/vaxwire/vaxwire/reply/OrderSegmentMayFollowPinLaw" = some m.cls := findClass_of_methodNamed Bd.named
  have hnm := (name_of_methodNamed Bd.named Bd.method).1
  have X0 : Stand p l e room_1 s m #[(.int pI1), (.int pI2)] below meth c s₁ [] 0 0 := Stand.of_body Bd
  have e0 : s₁.heap = h0 := by rw [← hh, Bd.state]; rfl
  have N0 := Fr.nil n0
  have pre0 : ∀ t, Steps p.tables e below (s₁.setTop (mkF m 0 #[.val (.int pI1), .val (.int pI2), .unset, .unset, .unset, .unset, .unset] [])) t → Steps p.tables e below (s₁.setTop (entryFrame m #[(.int pI1), (.int pI2)] maxLocals)) t := fun t k => castTop (ef_law2_4 m pI1 pI2) k
  obtain ⟨_, _, ⟨T4, L4, k4, n4⟩, -, X4, ⟨Lc4, hQ4, l4, y4, z4⟩, st4⟩ := Jvm.LawKit.callS X0 hx (y := yN0) hown (mvT hZ (ow hw 1 rfl)) (mvT hZ (ow hw 2 rfl)) (mvT hZ (ow hw 3 rfl)) (mvT hZ (ow hw 4 rfl)) (by decide) (backOf (W := 0) (pick2 l Z a0 hw [] pR3 h0 n0 Z0 S_OrderSegment_RXR) hZ (ow hw 4 rfl) (ow hw 3 rfl) (by decide) (by decide)) (g := (mkF m 15 #[.val (.int pI1), .val (.int pI2), .val (.int (2 : Int32)), .val (.int (4 : Int32)), .unset, .unset, .unset] [(.int (2 : Int32))])) rfl (by rw [hml]; rfl) (argsL := [(.int (2 : Int32))]) (rest := []) (lenOf pd_1 rfl) rfl (by show 2 * 0 + _ ≤ _; exact Nat.le_of_eq rfl) (hb hby at_15) (fun _ _ => ⟨rfl, e0, (by decide : 0 + 0 ≤ _), (by decide : 0 + 0 ≤ _)⟩)
  dsimp only [Pt.U, Pt.locs, Pt.cells, Pt.slots] at X4 l4 y4 z4 st4 hQ4
  subst l4 y4 z4
  obtain ⟨rfl, Nq4, e4⟩ := hQ4
  have N4 := Fr.app N0 Nq4
  obtain ⟨_, _, ⟨T6, L6, k6, n6⟩, -, X6, ⟨Lc6, hQ6, l6, y6, z6⟩, st6⟩ := Jvm.LawKit.callS X4 hx (y := yN0) hown (mvT hZ (ow hw 1 rfl)) (mvT hZ (ow hw 2 rfl)) (mvT hZ (ow hw 3 rfl)) (mvT hZ (ow hw 4 rfl)) (by decide) (backOf (W := 0) (pick4 l Z a0 hw [] pR5 h0 n0 Z0 S_OrderSegment_NTE) hZ (ow hw 4 rfl) (ow hw 3 rfl) (by decide) (by decide)) (g := (mkF m 21 #[.val (.int pI1), .val (.int pI2), .val (.int (2 : Int32)), .val (.int (4 : Int32)), .val (.ref pR3), .unset, .unset] [(.int (4 : Int32))])) rfl (by rw [hml]; rfl) (argsL := [(.int (4 : Int32))]) (rest := []) (lenOf pd_1 rfl) rfl (by show 2 * 0 + _ ≤ _; exact Nat.le_of_eq rfl) (hb hby at_21) (fun _ _ => ⟨rfl, e4, (by decide : 0 + 0 ≤ _), (by decide : 0 + 0 ≤ _)⟩)
  dsimp only [Pt.U, Pt.locs, Pt.cells, Pt.slots] at X6 l6 y6 z6 st6 hQ6
  subst l6 y6 z6
  obtain ⟨rfl, Nq6, e6⟩ := hQ6
  have N6 := Fr.app N4 Nq6
  obtain ⟨cq8, kq8, q8a, q8b, q8c⟩ := isOf hZ e6 E_pR3
  obtain ⟨_, _, ⟨T8, L8, k8, n8⟩, -, X8, ⟨Lc8, hQ8, l8, y8, z8⟩, st8⟩ := X6.virtualBack hx (y := yN3) (z := yN3) hown (mvT hZ (ow hw 10 rfl)) (mvT hZ (ow hw 11 rfl)) (notFace_of_selects (args := #[]) (mvT hZ (ow hw 13 rfl))) (mvT hZ (ow hw 13 rfl)) (mvT hZ (ow hw 12 rfl)) (by decide) (backOf (W := 0) (mf2d l Z a0 hw [] pR3 pR5 pR7 h0 n0 Z0 F_ordinal_pR3 E_pR3 S_OrderSegment_RXA ne_pR5_pR7) hZ (ow hw 14 rfl) (ow hw 6 rfl) (by decide) (by decide)) q8a q8c (g := (mkF m 106 #[.val (.int pI1), .val (.int pI2), .val (.int (2 : Int32)), .val (.int (4 : Int32)), .val (.ref pR3), .val (.ref pR5), .val (.int (0 : Int32))] [(.ref pR5), (.ref pR3)])) rfl (by rw [hml]; rfl) (Steps.refl _) (argsL := [(.ref pR5)]) (rest := []) (lenOf pd_2 rfl) rfl (by show 2 * 0 + _ ≤ _; exact Nat.le_of_eq rfl) (hb hby at_106) (fun _ _ => ⟨rfl, e6, (by decide : 0 + 0 ≤ _), (by decide : 0 + 0 ≤ _)⟩)
  dsimp only [Pt.U, Pt.locs, Pt.cells, Pt.slots] at X8 l8 y8 z8 st8 hQ8
  subst l8 y8 z8
  obtain ⟨rfl, Nq8, e8⟩ := hQ8
  have N8 := Fr.app N6 Nq8
  obtain ⟨fs, hr, hrun, hended, hW, hsame⟩ := X8.leave (v := some (.int (1 : Int32))) (fun h => by rw [Bd.returns] at h; cases h)
  refine ⟨_, _, pre0 _ ?_, hrun, hended, _, _, rfl, ?_, ⟨_, rfl⟩, hW, hsame.mono (by decide) (by decide)⟩
  · show oS p e below s₁ m 0 #[.val (.int pI1), .val (.int pI2), .unset, .unset, .unset, .unset, .unset] [] _
    refine XS.iloadN X0.here hx rfl (hb hby at_0) rfl ?_
    show oS p e below s₁ m 1 #[.val (.int pI1), .val (.int pI2), .unset, .unset, .unset, .unset, .unset] [(.int pI1)] _
    refine X0.ldcInt hx hown (mvT hZ (ow hw 0 rfl)) (g := (mkF m 1 #[.val (.int pI1), .val (.int pI2), .unset, .unset, .unset, .unset, .unset] [(.int pI1)])) rfl (hb hby at_1) _ ?_
    show oS p e below s₁ m 3 #[.val (.int pI1), .val (.int pI2), .unset, .unset, .unset, .unset, .unset] [(.int (2147483647 : Int32)), (.int pI1)] _
    refine XS.iand X0.here hx rfl (hb hby at_3) rfl ?_
    show oS p e below s₁ m 4 #[.val (.int pI1), .val (.int pI2), .unset, .unset, .unset, .unset, .unset] [(.int (pI1 &&& (2147483647 : Int32)))] _
    refine XS.iconst X0.here hx rfl (hb hby at_4) ?_
    show oS p e below s₁ m 5 #[.val (.int pI1), .val (.int pI2), .unset, .unset, .unset, .unset, .unset] [(.int (5 : Int32)), (.int (pI1 &&& (2147483647 : Int32)))] _
    refine iremM (g := (mkF m 5 #[.val (.int pI1), .val (.int pI2), .unset, .unset, .unset, .unset, .unset] [(.int (5 : Int32)), (.int (pI1 &&& (2147483647 : Int32)))])) X0 hx rfl (hb hby at_5) rfl (by decide) ?_
    show Steps p.tables e below (s₁.setTop (mkF m 6 #[.val (.int pI1), .val (.int pI2), .unset, .unset, .unset, .unset, .unset] [(.int ((pI1 &&& (2147483647 : Int32)) % (5 : Int32)))])) _
    rw [hc5]
    show oS p e below s₁ m 6 #[.val (.int pI1), .val (.int pI2), .unset, .unset, .unset, .unset, .unset] [(.int (2 : Int32))] _
    refine XS.istoreN X0.here hx rfl (hb hby at_6) rfl (l' := #[.val (.int pI1), .val (.int pI2), .val (.int (2 : Int32)), .unset, .unset, .unset, .unset]) rfl ?_
    show oS p e below s₁ m 7 #[.val (.int pI1), .val (.int pI2), .val (.int (2 : Int32)), .unset, .unset, .unset, .unset] [] _
    refine XS.iloadN X0.here hx rfl (hb hby at_7) rfl ?_
    show oS p e below s₁ m 8 #[.val (.int pI1), .val (.int pI2), .val (.int (2 : Int32)), .unset, .unset, .unset, .unset] [(.int pI2)] _
    refine X0.ldcInt hx hown (mvT hZ (ow hw 0 rfl)) (g := (mkF m 8 #[.val (.int pI1), .val (.int pI2), .val (.int (2 : Int32)), .unset, .unset, .unset, .unset] [(.int pI2)])) rfl (hb hby at_8) _ ?_
    show oS p e below s₁ m 10 #[.val (.int pI1), .val (.int pI2), .val (.int (2 : Int32)), .unset, .unset, .unset, .unset] [(.int (2147483647 : Int32)), (.int pI2)] _
    refine XS.iand X0.here hx rfl (hb hby at_10) rfl ?_
    show oS p e below s₁ m 11 #[.val (.int pI1), .val (.int pI2), .val (.int (2 : Int32)), .unset, .unset, .unset, .unset] [(.int (pI2 &&& (2147483647 : Int32)))] _
    refine XS.iconst X0.here hx rfl (hb hby at_11) ?_
    show oS p e below s₁ m 12 #[.val (.int pI1), .val (.int pI2), .val (.int (2 : Int32)), .unset, .unset, .unset, .unset] [(.int (5 : Int32)), (.int (pI2 &&& (2147483647 : Int32)))] _
    refine iremM (g := (mkF m 12 #[.val (.int pI1), .val (.int pI2), .val (.int (2 : Int32)), .unset, .unset, .unset, .unset] [(.int (5 : Int32)), (.int (pI2 &&& (2147483647 : Int32)))])) X0 hx rfl (hb hby at_12) rfl (by decide) ?_
    show Steps p.tables e below (s₁.setTop (mkF m 13 #[.val (.int pI1), .val (.int pI2), .val (.int (2 : Int32)), .unset, .unset, .unset, .unset] [(.int ((pI2 &&& (2147483647 : Int32)) % (5 : Int32)))])) _
    rw [hc12]
    show oS p e below s₁ m 13 #[.val (.int pI1), .val (.int pI2), .val (.int (2 : Int32)), .unset, .unset, .unset, .unset] [(.int (4 : Int32))] _
    refine XS.istoreN X0.here hx rfl (hb hby at_13) rfl (l' := #[.val (.int pI1), .val (.int pI2), .val (.int (2 : Int32)), .val (.int (4 : Int32)), .unset, .unset, .unset]) rfl ?_
    show oS p e below s₁ m 14 #[.val (.int pI1), .val (.int pI2), .val (.int (2 : Int32)), .val (.int (4 : Int32)), .unset, .unset, .unset] [] _
    refine XS.iloadN X0.here hx rfl (hb hby at_14) rfl ?_
    show oS p e below s₁ m 15 #[.val (.int pI1), .val (.int pI2), .val (.int (2 : Int32)), .val (.int (4 : Int32)), .unset, .unset, .unset] [(.int (2 : Int32))] _
    refine st4 _ ?_
    show oS p e below T4 m 18 #[.val (.int pI1), .val (.int pI2), .val (.int (2 : Int32)), .val (.int (4 : Int32)), .unset, .unset, .unset] [(.ref pR3)] _
    refine XS.astore X4.here hx rfl (hb hby at_18) rfl rfl (l' := #[.val (.int pI1), .val (.int pI2), .val (.int (2 : Int32)), .val (.int (4 : Int32)), .val (.ref pR3), .unset, .unset]) rfl ?_
    show oS p e below T4 m 20 #[.val (.int pI1), .val (.int pI2), .val (.int (2 : Int32)), .val (.int (4 : Int32)), .val (.ref pR3), .unset, .unset] [] _
    refine XS.iloadN X4.here hx rfl (hb hby at_20) rfl ?_
    show oS p e below T4 m 21 #[.val (.int pI1), .val (.int pI2), .val (.int (2 : Int32)), .val (.int (4 : Int32)), .val (.ref pR3), .unset, .unset] [(.int (4 : Int32))] _
    refine st6 _ ?_
    show oS p e below T6 m 24 #[.val (.int pI1), .val (.int pI2), .val (.int (2 : Int32)), .val (.int (4 : Int32)), .val (.ref pR3), .unset, .unset] [(.ref pR5)] _
    refine XS.astore X6.here hx rfl (hb hby at_24) rfl rfl (l' := #[.val (.int pI1), .val (.int pI2), .val (.int (2 : Int32)), .val (.int (4 : Int32)), .val (.ref pR3), .val (.ref pR5), .unset]) rfl ?_
    show oS p e below T6 m 26 #[.val (.int pI1), .val (.int pI2), .val (.int (2 : Int32)), .val (.int (4 : Int32)), .val (.ref pR3), .val (.ref pR5), .unset] [] _
    refine XS.iloadN X6.here hx rfl (hb hby at_26) rfl ?_
    show oS p e below T6 m 27 #[.val (.int pI1), .val (.int pI2), .val (.int (2 : Int32)), .val (.int (4 : Int32)), .val (.ref pR3), .val (.ref pR5), .unset] [(.int (4 : Int32))] _
    refine XS.ifYes X6.here hx rfl (pc0 := 27) (pc' := 35) rfl (hb hby at_27) rfl ((if0 _ _).trans (feq (by decide : ¬ ((4 : Int32) = (0 : Int32)))).2) (by decide) (by decide) ?_
    show oS p e below T6 m 35 #[.val (.int pI1), .val (.int pI2), .val (.int (2 : Int32)), .val (.int (4 : Int32)), .val (.ref pR3), .val (.ref pR5), .unset] [] _
    refine XS.iloadN X6.here hx rfl (hb hby at_35) rfl ?_
    show oS p e below T6 m 36 #[.val (.int pI1), .val (.int pI2), .val (.int (2 : Int32)), .val (.int (4 : Int32)), .val (.ref pR3), .val (.ref pR5), .unset] [(.int (4 : Int32))] _
    refine XS.iconst X6.here hx rfl (hb hby at_36) ?_
    show oS p e below T6 m 37 #[.val (.int pI1), .val (.int pI2), .val (.int (2 : Int32)), .val (.int (4 : Int32)), .val (.ref pR3), .val (.ref pR5), .unset] [(.int (1 : Int32)), (.int (4 : Int32))] _
    refine XS.icmpYes X6.here hx rfl (pc0 := 37) (pc' := 45) rfl (hb hby at_37) rfl (feq (by decide : ¬ ((4 : Int32) = (1 : Int32)))).2 (by decide) (by decide) ?_
    show oS p e below T6 m 45 #[.val (.int pI1), .val (.int pI2), .val (.int (2 : Int32)), .val (.int (4 : Int32)), .val (.ref pR3), .val (.ref pR5), .unset] [] _
    refine XS.iloadN X6.here hx rfl (hb hby at_45) rfl ?_
    show oS p e below T6 m 46 #[.val (.int pI1), .val (.int pI2), .val (.int (2 : Int32)), .val (.int (4 : Int32)), .val (.ref pR3), .val (.ref pR5), .unset] [(.int (4 : Int32))] _
    refine XS.iconst X6.here hx rfl (hb hby at_46) ?_
    show oS p e below T6 m 47 #[.val (.int pI1), .val (.int pI2), .val (.int (2 : Int32)), .val (.int (4 : Int32)), .val (.ref pR3), .val (.ref pR5), .unset] [(.int (1 : Int32)), (.int (4 : Int32))] _
    refine XS.icmpYes X6.here hx rfl (pc0 := 47) (pc' := 55) rfl (hb hby at_47) rfl (feq (by decide : ¬ ((4 : Int32) = (1 : Int32)))).2 (by decide) (by decide) ?_
    show oS p e below T6 m 55 #[.val (.int pI1), .val (.int pI2), .val (.int (2 : Int32)), .val (.int (4 : Int32)), .val (.ref pR3), .val (.ref pR5), .unset] [] _
    refine XS.iloadN X6.here hx rfl (hb hby at_55) rfl ?_
    show oS p e below T6 m 56 #[.val (.int pI1), .val (.int pI2), .val (.int (2 : Int32)), .val (.int (4 : Int32)), .val (.ref pR3), .val (.ref pR5), .unset] [(.int (4 : Int32))] _
    refine XS.iconst X6.here hx rfl (hb hby at_56) ?_
    show oS p e below T6 m 57 #[.val (.int pI1), .val (.int pI2), .val (.int (2 : Int32)), .val (.int (4 : Int32)), .val (.ref pR3), .val (.ref pR5), .unset] [(.int (2 : Int32)), (.int (4 : Int32))] _
    refine XS.icmpYes X6.here hx rfl (pc0 := 57) (pc' := 65) rfl (hb hby at_57) rfl (feq (by decide : ¬ ((4 : Int32) = (2 : Int32)))).2 (by decide) (by decide) ?_
    show oS p e below T6 m 65 #[.val (.int pI1), .val (.int pI2), .val (.int (2 : Int32)), .val (.int (4 : Int32)), .val (.ref pR3), .val (.ref pR5), .unset] [] _
    refine XS.iloadN X6.here hx rfl (hb hby at_65) rfl ?_
    show oS p e below T6 m 66 #[.val (.int pI1), .val (.int pI2), .val (.int (2 : Int32)), .val (.int (4 : Int32)), .val (.ref pR3), .val (.ref pR5), .unset] [(.int (4 : Int32))] _
    refine XS.iconst X6.here hx rfl (hb hby at_66) ?_
    show oS p e below T6 m 67 #[.val (.int pI1), .val (.int pI2), .val (.int (2 : Int32)), .val (.int (4 : Int32)), .val (.ref pR3), .val (.ref pR5), .unset] [(.int (3 : Int32)), (.int (4 : Int32))] _
    refine XS.icmpYes X6.here hx rfl (pc0 := 67) (pc' := 75) rfl (hb hby at_67) rfl (feq (by decide : ¬ ((4 : Int32) = (3 : Int32)))).2 (by decide) (by decide) ?_
    show oS p e below T6 m 75 #[.val (.int pI1), .val (.int pI2), .val (.int (2 : Int32)), .val (.int (4 : Int32)), .val (.ref pR3), .val (.ref pR5), .unset] [] _
    refine XS.iloadN X6.here hx rfl (hb hby at_75) rfl ?_
    show oS p e below T6 m 76 #[.val (.int pI1), .val (.int pI2), .val (.int (2 : Int32)), .val (.int (4 : Int32)), .val (.ref pR3), .val (.ref pR5), .unset] [(.int (4 : Int32))] _
    refine XS.iconst X6.here hx rfl (hb hby at_76) ?_
    show oS p e below T6 m 77 #[.val (.int pI1), .val (.int pI2), .val (.int (2 : Int32)), .val (.int (4 : Int32)), .val (.ref pR3), .val (.ref pR5), .unset] [(.int (4 : Int32)), (.int (4 : Int32))] _
    refine XS.icmpNo X6.here hx rfl (hb hby at_77) rfl (teq (by decide : (4 : Int32) = (4 : Int32))).2 ?_
    show oS p e below T6 m 80 #[.val (.int pI1), .val (.int pI2), .val (.int (2 : Int32)), .val (.int (4 : Int32)), .val (.ref pR3), .val (.ref pR5), .unset] [] _
    refine XS.iloadN X6.here hx rfl (hb hby at_80) rfl ?_
    show oS p e below T6 m 81 #[.val (.int pI1), .val (.int pI2), .val (.int (2 : Int32)), .val (.int (4 : Int32)), .val (.ref pR3), .val (.ref pR5), .unset] [(.int (2 : Int32))] _
    refine XS.iconst X6.here hx rfl (hb hby at_81) ?_
    show oS p e below T6 m 82 #[.val (.int pI1), .val (.int pI2), .val (.int (2 : Int32)), .val (.int (4 : Int32)), .val (.ref pR3), .val (.ref pR5), .unset] [(.int (3 : Int32)), (.int (2 : Int32))] _
    refine XS.icmpNo X6.here hx rfl (hb hby at_82) rfl (feq (by decide : ¬ ((2 : Int32) = (3 : Int32)))).1 ?_
    show oS p e below T6 m 85 #[.val (.int pI1), .val (.int pI2), .val (.int (2 : Int32)), .val (.int (4 : Int32)), .val (.ref pR3), .val (.ref pR5), .unset] [] _
    refine XS.iloadN X6.here hx rfl (hb hby at_85) rfl ?_
    show oS p e below T6 m 86 #[.val (.int pI1), .val (.int pI2), .val (.int (2 : Int32)), .val (.int (4 : Int32)), .val (.ref pR3), .val (.ref pR5), .unset] [(.int (4 : Int32))] _
    refine XS.iconst X6.here hx rfl (hb hby at_86) ?_
    show oS p e below T6 m 87 #[.val (.int pI1), .val (.int pI2), .val (.int (2 : Int32)), .val (.int (4 : Int32)), .val (.ref pR3), .val (.ref pR5), .unset] [(.int (3 : Int32)), (.int (4 : Int32))] _
    refine XS.icmpYes X6.here hx rfl (pc0 := 87) (pc' := 99) rfl (hb hby at_87) rfl (feq (by decide : ¬ ((4 : Int32) = (3 : Int32)))).2 (by decide) (by decide) ?_
    show oS p e below T6 m 99 #[.val (.int pI1), .val (.int pI2), .val (.int (2 : Int32)), .val (.int (4 : Int32)), .val (.ref pR3), .val (.ref pR5), .unset] [] _
    refine XS.iconst X6.here hx rfl (hb hby at_99) ?_
    show oS p e below T6 m 100 #[.val (.int pI1), .val (.int pI2), .val (.int (2 : Int32)), .val (.int (4 : Int32)), .val (.ref pR3), .val (.ref pR5), .unset] [(.int (0 : Int32))] _
    refine XS.istore X6.here hx rfl (hb hby at_100) rfl (l' := #[.val (.int pI1), .val (.int pI2), .val (.int (2 : Int32)), .val (.int (4 : Int32)), .val (.ref pR3), .val (.ref pR5), .val (.int (0 : Int32))]) rfl ?_
    show oS p e below T6 m 102 #[.val (.int pI1), .val (.int pI2), .val (.int (2 : Int32)), .val (.int (4 : Int32)), .val (.ref pR3), .val (.ref pR5), .val (.int (0 : Int32))] [] _
    refine XS.aload X6.here hx rfl (hb hby at_102) rfl rfl ?_
    show oS p e below T6 m 104 #[.val (.int pI1), .val (.int pI2), .val (.int (2 : Int32)), .val (.int (4 : Int32)), .val (.ref pR3), .val (.ref pR5), .val (.int (0 : Int32))] [(.ref pR3)] _
    refine XS.aload X6.here hx rfl (hb hby at_104) rfl rfl ?_
    show oS p e below T6 m 106 #[.val (.int pI1), .val (.int pI2), .val (.int (2 : Int32)), .val (.int (4 : Int32)), .val (.ref pR3), .val (.ref pR5), .val (.int (0 : Int32))] [(.ref pR5), (.ref pR3)] _
    refine st8.trans ?_
    show oS p e below T8 m 109 #[.val (.int pI1), .val (.int pI2), .val (.int (2 : Int32)), .val (.int (4 : Int32)), .val (.ref pR3), .val (.ref pR5), .val (.int (0 : Int32))] [(.int (0 : Int32))] _
    refine XS.iload X8.here hx rfl (hb hby at_109) rfl ?_
    show oS p e below T8 m 111 #[.val (.int pI1), .val (.int pI2), .val (.int (2 : Int32)), .val (.int (4 : Int32)), .val (.ref pR3), .val (.ref pR5), .val (.int (0 : Int32))] [(.int (0 : Int32)), (.int (0 : Int32))] _
    refine XS.icmpNo X8.here hx rfl (hb hby at_111) rfl (teq (by decide : (0 : Int32) = (0 : Int32))).2 ?_
    show oS p e below T8 m 114 #[.val (.int pI1), .val (.int pI2), .val (.int (2 : Int32)), .val (.int (4 : Int32)), .val (.ref pR3), .val (.ref pR5), .val (.int (0 : Int32))] [] _
    refine XS.iconst X8.here hx rfl (hb hby at_114) ?_
    show oS p e below T8 m 115 #[.val (.int pI1), .val (.int pI2), .val (.int (2 : Int32)), .val (.int (4 : Int32)), .val (.ref pR3), .val (.ref pR5), .val (.int (0 : Int32))] [(.int (1 : Int32))] _
    refine XS.goto X8.here hx rfl (pc0 := 115) (pc' := 119) rfl (hb hby at_115) (by decide) (by decide) ?_
    show oS p e below T8 m 119 #[.val (.int pI1), .val (.int pI2), .val (.int (2 : Int32)), .val (.int (4 : Int32)), .val (.ref pR3), .val (.ref pR5), .val (.int (0 : Int32))] [(.int (1 : Int32))] _
    exact retN X8 hx (t := .boolean) Bd.returns (by simp) (hb hby at_119) hr
  · show Qlaw2_4 Z pI1 pI2 pR3 pR5 pR7 h0 n0 _ T8.heap _
    rw [e8]
    exact ⟨rfl, N8⟩
theorem ef_law3_0 (m : MethodId) (pI1 : Int32) (pI2 : Int32) : entryFrame m #[(.int pI1), (.int pI2)] maxLocals = mkF m 0 #[.val (.int pI1), .val (.int pI2), .unset, .unset, .unset, .unset, .unset] [] := by first | (simp [entryFrame, mkF, argsToLocals, Value.category, maxLocals]; done) | rfl
def Qlaw3_0 (Z : State) (pI1 : Int32) (pI2 : Int32) (pR3 : Addr) (pR5 : Addr) (h0 : Heap) (n0 : Nat) (v : Option Value) (h : Heap) (L : List Loc) : Prop := v = some (.int (1 : Int32)) ∧ Fr n0 L
set_option maxRecDepth 65536 in
set_option maxHeartbeats 40000000 in
theorem law3_0 (l : Launch) (Z : State) (a0 : Array Value) (hw : ∀ d ∈ tables_1, d.before a0 Z = true) (ws : List Jvm.Cond) (pI1 : Int32) (pI2 : Int32) (pR3 : Addr) (pR5 : Addr) (h0 : Heap) (n0 : Nat) (Z0 : n0 ≤ h0.size) (S_OrderSegment_OBX : Sta Z h0 "com/example/vaxwire/vaxwire/reply/OrderSegment" "OBX" "Lcom/example/vaxwire/vaxwire/reply/OrderSegment;" (.ref pR3)) (S_OrderSegment_ORC : Sta Z h0 "com/example/vaxwire/vaxwire/reply/OrderSegment" "ORC" "Lcom/example/vaxwire/vaxwire/reply/OrderSegment;" (.ref pR5)) (F_ordinal_pR3 : Fld Z h0 pR3 "java/lang/Enum" "ordinal" "I" (.int (3 : Int32))) (E_pR3 : Exa Z h0 pR3 "com/example/vaxwire/vaxwire/reply/OrderSegment") (hc5 : ((pI1 &&& (2147483647 : Int32)) % (5 : Int32)) = (3 : Int32)) (hc12 : ((pI2 &&& (2147483647 : Int32)) % (5 : Int32)) = (0 : Int32)) :
    MetFree l x (head1 (Jvm.Cond.code x code maxLocals ret :: ws) room_1) (fun a U => a = #[(.int pI1), (.int pI2)] ∧ Z.Warmed39 U.vm ∧ U.heap = h0) (fun _ _ _ _ _ => True) (fun _ U o U' => ∃ v L, o = .returned v ∧ Qlaw3_0 Z pI1 pI2 pR3 pR5 h0 n0 v U'.heap L ∧ FrameEnd U o U' L room_1.cells room_1.slots) := by
  refine MetFree.of_bodySF (plainFor_of_name pn_0) hisR ?_
  intro p e s m args below meth c s₁ Bd hml0 hP hK
  obtain ⟨rfl, hZ, hh⟩ := hP
  have hx := Bd.exec
  have hby := Bd.bytes
  have hml : c.maxLocals = 7 := hml0
  have hown : s.vm.findClass "com/example/vaxwire/vaxwire/reply/OrderSegmentMayFollowPinLaw" = some m.cls := findClass_of_methodNamed Bd.named
  have hnm := (name_of_methodNamed Bd.named Bd.method).1
  have X0 : Stand p l e room_1 s m #[(.int pI1), (.int pI2)] below meth c s₁ [] 0 0 := Stand.of_body Bd
  have e0 : s₁.heap = h0 := by rw [← hh, Bd.state]; rfl
  have N0 := Fr.nil n0
  have pre0 : ∀ t, Steps p.tables e below (s₁.setTop (mkF m 0 #[.val (.int pI1), .val (.int pI2), .unset, .unset, .unset, .unset, .unset] [])) t → Steps p.tables e below (s₁.setTop (entryFrame m #[(.int pI1), (.int pI2)] maxLocals)) t := fun t k => castTop (ef_law3_0 m pI1 pI2) k
  obtain ⟨_, _, ⟨T4, L4, k4, n4⟩, -, X4, ⟨Lc4, hQ4, l4, y4, z4⟩, st4⟩ := Jvm.LawKit.callS X0 hx (y := yN0) hown (mvT hZ (ow hw 1 rfl)) (mvT hZ (ow hw 2 rfl)) (mvT hZ (ow hw 3 rfl)) (mvT hZ (ow hw 4 rfl)) (by decide) (backOf (W := 0) (pick3 l Z a0 hw [] pR3 h0 n0 Z0 S_OrderSegment_OBX) hZ (ow hw 4 rfl) (ow hw 3 rfl) (by decide) (by decide)) (g := (mkF m 15 #[.val (.int pI1), .val (.int pI2), .val (.int (3 : Int32)), .val (.int (0 : Int32)), .unset, .unset, .unset] [(.int (3 : Int32))])) rfl (by rw [hml]; rfl) (argsL := [(.int (3 : Int32))]) (rest := []) (lenOf pd_1 rfl) rfl (by show 2 * 0 + _ ≤ _; exact Nat.le_of_eq rfl) (hb hby at_15) (fun _ _ => ⟨rfl, e0, (by decide : 0 + 0 ≤ _), (by decide : 0 + 0 ≤ _)⟩)
  dsimp only [Pt.U, Pt.locs, Pt.cells, Pt.slots] at X4 l4 y4 z4 st4 hQ4
  subst l4 y4 z4
  obtain ⟨rfl, Nq4, e4⟩ := hQ4
  have N4 := Fr.app N0 Nq4
  obtain ⟨_, _, ⟨T6, L6, k6, n6⟩, -, X6, ⟨Lc6, hQ6, l6, y6, z6⟩, st6⟩ := Jvm.LawKit.callS X4 hx (y := yN0) hown (mvT hZ (ow hw 1 rfl)) (mvT hZ (ow hw 2 rfl)) (mvT hZ (ow hw 3 rfl)) (mvT hZ (ow hw 4 rfl)) (by decide) (backOf (W := 0) (pick0 l Z a0 hw [] pR5 h0 n0 Z0 S_OrderSegment_ORC) hZ (ow hw 4 rfl) (ow hw 3 rfl) (by decide) (by decide)) (g := (mkF m 21 #[.val (.int pI1), .val (.int pI2), .val (.int (3 : Int32)), .val (.int (0 : Int32)), .val (.ref pR3), .unset, .unset] [(.int (0 : Int32))])) rfl (by rw [hml]; rfl) (argsL := [(.int (0 : Int32))]) (rest := []) (lenOf pd_1 rfl) rfl (by show 2 * 0 + _ ≤ _; exact Nat.le_of_eq rfl) (hb hby at_21) (fun _ _ => ⟨rfl, e4, (by decide : 0 + 0 ≤ _), (by decide : 0 + 0 ≤ _)⟩)
  dsimp only [Pt.U, Pt.locs, Pt.cells, Pt.slots] at X6 l6 y6 z6 st6 hQ6
  subst l6 y6 z6
  obtain ⟨rfl, Nq6, e6⟩ := hQ6
  have N6 := Fr.app N4 Nq6
  obtain ⟨cq7, kq7, q7a, q7b, q7c⟩ := isOf hZ e6 E_pR3
  obtain ⟨_, _, ⟨T7, L7, k7, n7⟩, -, X7, ⟨Lc7, hQ7, l7, y7, z7⟩, st7⟩ := X6.virtualBack hx (y := yN3) (z := yN3) hown (mvT hZ (ow hw 10 rfl)) (mvT hZ (ow hw 11 rfl)) (notFace_of_selects (args := #[]) (mvT hZ (ow hw 13 rfl))) (mvT hZ (ow hw 13 rfl)) (mvT hZ (ow hw 12 rfl)) (by decide) (backOf (W := 0) (mf3s l Z a0 hw [] pR3 pR5 pR5 h0 n0 Z0 F_ordinal_pR3 E_pR3 S_OrderSegment_ORC rfl) hZ (ow hw 14 rfl) (ow hw 6 rfl) (by decide) (by decide)) q7a q7c (g := (mkF m 106 #[.val (.int pI1), .val (.int pI2), .val (.int (3 : Int32)), .val (.int (0 : Int32)), .val (.ref pR3), .val (.ref pR5), .val (.int (0 : Int32))] [(.ref pR5), (.ref pR3)])) rfl (by rw [hml]; rfl) (Steps.refl _) (argsL := [(.ref pR5)]) (rest := []) (lenOf pd_2 rfl) rfl (by show 2 * 0 + _ ≤ _; exact Nat.le_of_eq rfl) (hb hby at_106) (fun _ _ => ⟨rfl, e6, (by decide : 0 + 0 ≤ _), (by decide : 0 + 0 ≤ _)⟩)
  dsimp only [Pt.U, Pt.locs, Pt.cells, Pt.slots] at X7 l7 y7 z7 st7 hQ7
  subst l7 y7 z7
  obtain ⟨rfl, Nq7, e7⟩ := hQ7
  have N7 := Fr.app N6 Nq7
  obtain ⟨fs, hr, hrun, hended, hW, hsame⟩ := X7.leave (v := some (.int (1 : Int32))) (fun h => by rw [Bd.returns] at h; cases h)
  refine ⟨_, _, pre0 _ ?_, hrun, hended, _, _, rfl, ?_, ⟨_, rfl⟩, hW, hsame.mono (by decide) (by decide)⟩
  · show oS p e below s₁ m 0 #[.val (.int pI1), .val (.int pI2), .unset, .unset, .unset, .unset, .unset] [] _
    refine XS.iloadN X0.here hx rfl (hb hby at_0) rfl ?_
    show oS p e below s₁ m 1 #[.val (.int pI1), .val (.int pI2), .unset, .unset, .unset, .unset, .unset] [(.int pI1)] _
    refine X0.ldcInt hx hown (mvT hZ (ow hw 0 rfl)) (g := (mkF m 1 #[.val (.int pI1), .val (.int pI2), .unset, .unset, .unset, .unset, .unset] [(.int pI1)])) rfl (hb hby at_1) _ ?_
    show oS p e below s₁ m 3 #[.val (.int pI1), .val (.int pI2), .unset, .unset, .unset, .unset, .unset] [(.int (2147483647 : Int32)), (.int pI1)] _
    refine XS.iand X0.here hx rfl (hb hby at_3) rfl ?_
    show oS p e below s₁ m 4 #[.val (.int pI1), .val (.int pI2), .unset, .unset, .unset, .unset, .unset] [(.int (pI1 &&& (2147483647 : Int32)))] _
    refine XS.iconst X0.here hx rfl (hb hby at_4) ?_
    show oS p e below s₁ m 5 #[.val (.int pI1), .val (.int pI2), .unset, .unset, .unset, .unset, .unset] [(.int (5 : Int32)), (.int (pI1 &&& (2147483647 : Int32)))] _
    refine iremM (g := (mkF m 5 #[.val (.int pI1), .val (.int pI2), .unset, .unset, .unset, .unset, .unset] [(.int (5 : Int32)), (.int (pI1 &&& (2147483647 : Int32)))])) X0 hx rfl (hb hby at_5) rfl (by decide) ?_
    show Steps p.tables e below (s₁.setTop (mkF m 6 #[.val (.int pI1), .val (.int pI2), .unset, .unset, .unset, .unset, .unset] [(.int ((pI1 &&& (2147483647 : Int32)) % (5 : Int32)))])) _
    rw [hc5]
    show oS p e below s₁ m 6 #[.val (.int pI1), .val (.int pI2), .unset, .unset, .unset, .unset, .unset] [(.int (3 : Int32))] _
    refine XS.istoreN X0.here hx rfl (hb hby at_6) rfl (l' := #[.val (.int pI1), .val (.int pI2), .val (.int (3 : Int32)), .unset, .unset, .unset, .unset]) rfl ?_
    show oS p e below s₁ m 7 #[.val (.int pI1), .val (.int pI2), .val (.int (3 : Int32)), .unset, .unset, .unset, .unset] [] _
    refine XS.iloadN X0.here hx rfl (hb hby at_7) rfl ?_
    show oS p e below s₁ m 8 #[.val (.int pI1), .val (.int pI2), .val (.int (3 : Int32)), .unset, .unset, .unset, .unset] [(.int pI2)] _
    refine X0.ldcInt hx hown (mvT hZ (ow hw 0 rfl)) (g := (mkF m 8 #[.val (.int pI1), .val (.int pI2), .val (.int (3 : Int32)), .unset, .unset, .unset, .unset] [(.int pI2)])) rfl (hb hby at_8) _ ?_
    show oS p e below s₁ m 10 #[.val (.int pI1), .val (.int pI2), .val (.int (3 : Int32)), .unset, .unset, .unset, .unset] [(.int (2147483647 : Int32)), (.int pI2)] _
    refine XS.iand X0.here hx rfl (hb hby at_10) rfl ?_
    show oS p e below s₁ m 11 #[.val (.int pI1), .val (.int pI2), .val (.int (3 : Int32)), .unset, .unset, .unset, .unset] [(.int (pI2 &&& (2147483647 : Int32)))] _
    refine XS.iconst X0.here hx rfl (hb hby at_11) ?_
    show oS p e below s₁ m 12 #[.val (.int pI1), .val (.int pI2), .val (.int (3 : Int32)), .unset, .unset, .unset, .unset] [(.int (5 : Int32)), (.int (pI2 &&& (2147483647 : Int32)))] _
    refine iremM (g := (mkF m 12 #[.val (.int pI1), .val (.int pI2), .val (.int (3 : Int32)), .unset, .unset, .unset, .unset] [(.int (5 : Int32)), (.int (pI2 &&& (2147483647 : Int32)))])) X0 hx rfl (hb hby at_12) rfl (by decide) ?_
    show Steps p.tables e below (s₁.setTop (mkF m 13 #[.val (.int pI1), .val (.int pI2), .val (.int (3 : Int32)), .unset, .unset, .unset, .unset] [(.int ((pI2 &&& (2147483647 : Int32)) % (5 : Int32)))])) _
    rw [hc12]
    show oS p e below s₁ m 13 #[.val (.int pI1), .val (.int pI2), .val (.int (3 : Int32)), .unset, .unset, .unset, .unset] [(.int (0 : Int32))] _
    refine XS.istoreN X0.here hx rfl (hb hby at_13) rfl (l' := #[.val (.int pI1), .val (.int pI2), .val (.int (3 : Int32)), .val (.int (0 : Int32)), .unset, .unset, .unset]) rfl ?_
    show oS p e below s₁ m 14 #[.val (.int pI1), .val (.int pI2), .val (.int (3 : Int32)), .val (.int (0 : Int32)), .unset, .unset, .unset] [] _
    refine XS.iloadN X0.here hx rfl (hb hby at_14) rfl ?_
    show oS p e below s₁ m 15 #[.val (.int pI1), .val (.int pI2), .val (.int (3 : Int32)), .val (.int (0 : Int32)), .unset, .unset, .unset] [(.int (3 : Int32))] _
    refine st4 _ ?_
    show oS p e below T4 m 18 #[.val (.int pI1), .val (.int pI2), .val (.int (3 : Int32)), .val (.int (0 : Int32)), .unset, .unset, .unset] [(.ref pR3)] _
    refine XS.astore X4.here hx rfl (hb hby at_18) rfl rfl (l' := #[.val (.int pI1), .val (.int pI2), .val (.int (3 : Int32)), .val (.int (0 : Int32)), .val (.ref pR3), .unset, .unset]) rfl ?_
    show oS p e below T4 m 20 #[.val (.int pI1), .val (.int pI2), .val (.int (3 : Int32)), .val (.int (0 : Int32)), .val (.ref pR3), .unset, .unset] [] _
    refine XS.iloadN X4.here hx rfl (hb hby at_20) rfl ?_
    show oS p e below T4 m 21 #[.val (.int pI1), .val (.int pI2), .val (.int (3 : Int32)), .val (.int (0 : Int32)), .val (.ref pR3), .unset, .unset] [(.int (0 : Int32))] _
    refine st6 _ ?_
    show oS p e below T6 m 24 #[.val (.int pI1), .val (.int pI2), .val (.int (3 : Int32)), .val (.int (0 : Int32)), .val (.ref pR3), .unset, .unset] [(.ref pR5)] _
    refine XS.astore X6.here hx rfl (hb hby at_24) rfl rfl (l' := #[.val (.int pI1), .val (.int pI2), .val (.int (3 : Int32)), .val (.int (0 : Int32)), .val (.ref pR3), .val (.ref pR5), .unset]) rfl ?_
    show oS p e below T6 m 26 #[.val (.int pI1), .val (.int pI2), .val (.int (3 : Int32)), .val (.int (0 : Int32)), .val (.ref pR3), .val (.ref pR5), .unset] [] _
    refine XS.iloadN X6.here hx rfl (hb hby at_26) rfl ?_
    show oS p e below T6 m 27 #[.val (.int pI1), .val (.int pI2), .val (.int (3 : Int32)), .val (.int (0 : Int32)), .val (.ref pR3), .val (.ref pR5), .unset] [(.int (0 : Int32))] _
    refine XS.ifNo X6.here hx rfl (hb hby at_27) rfl ((if0 _ _).trans (teq (by decide : (0 : Int32) = (0 : Int32))).2) ?_
    show oS p e below T6 m 30 #[.val (.int pI1), .val (.int pI2), .val (.int (3 : Int32)), .val (.int (0 : Int32)), .val (.ref pR3), .val (.ref pR5), .unset] [] _
    refine XS.iloadN X6.here hx rfl (hb hby at_30) rfl ?_
    show oS p e below T6 m 31 #[.val (.int pI1), .val (.int pI2), .val (.int (3 : Int32)), .val (.int (0 : Int32)), .val (.ref pR3), .val (.ref pR5), .unset] [(.int (3 : Int32))] _
    refine XS.iconst X6.here hx rfl (hb hby at_31) ?_
    show oS p e below T6 m 32 #[.val (.int pI1), .val (.int pI2), .val (.int (3 : Int32)), .val (.int (0 : Int32)), .val (.ref pR3), .val (.ref pR5), .unset] [(.int (1 : Int32)), (.int (3 : Int32))] _
    refine XS.icmpNo X6.here hx rfl (hb hby at_32) rfl (feq (by decide : ¬ ((3 : Int32) = (1 : Int32)))).1 ?_
    show oS p e below T6 m 35 #[.val (.int pI1), .val (.int pI2), .val (.int (3 : Int32)), .val (.int (0 : Int32)), .val (.ref pR3), .val (.ref pR5), .unset] [] _
    refine XS.iloadN X6.here hx rfl (hb hby at_35) rfl ?_
    show oS p e below T6 m 36 #[.val (.int pI1), .val (.int pI2), .val (.int (3 : Int32)), .val (.int (0 : Int32)), .val (.ref pR3), .val (.ref pR5), .unset] [(.int (0 : Int32))] _
    refine XS.iconst X6.here hx rfl (hb hby at_36) ?_
    show oS p e below T6 m 37 #[.val (.int pI1), .val (.int pI2), .val (.int (3 : Int32)), .val (.int (0 : Int32)), .val (.ref pR3), .val (.ref pR5), .unset] [(.int (1 : Int32)), (.int (0 : Int32))] _
    refine XS.icmpYes X6.here hx rfl (pc0 := 37) (pc' := 45) rfl (hb hby at_37) rfl (feq (by decide : ¬ ((0 : Int32) = (1 : Int32)))).2 (by decide) (by decide) ?_
    show oS p e below T6 m 45 #[.val (.int pI1), .val (.int pI2), .val (.int (3 : Int32)), .val (.int (0 : Int32)), .val (.ref pR3), .val (.ref pR5), .unset] [] _
    refine XS.iloadN X6.here hx rfl (hb hby at_45) rfl ?_
    show oS p e below T6 m 46 #[.val (.int pI1), .val (.int pI2), .val (.int (3 : Int32)), .val (.int (0 : Int32)), .val (.ref pR3), .val (.ref pR5), .unset] [(.int (0 : Int32))] _
    refine XS.iconst X6.here hx rfl (hb hby at_46) ?_
    show oS p e below T6 m 47 #[.val (.int pI1), .val (.int pI2), .val (.int (3 : Int32)), .val (.int (0 : Int32)), .val (.ref pR3), .val (.ref pR5), .unset] [(.int (1 : Int32)), (.int (0 : Int32))] _
    refine XS.icmpYes X6.here hx rfl (pc0 := 47) (pc' := 55) rfl (hb hby at_47) rfl (feq (by decide : ¬ ((0 : Int32) = (1 : Int32)))).2 (by decide) (by decide) ?_
    show oS p e below T6 m 55 #[.val (.int pI1), .val (.int pI2), .val (.int (3 : Int32)), .val (.int (0 : Int32)), .val (.ref pR3), .val (.ref pR5), .unset] [] _
    refine XS.iloadN X6.here hx rfl (hb hby at_55) rfl ?_
    show oS p e below T6 m 56 #[.val (.int pI1), .val (.int pI2), .val (.int (3 : Int32)), .val (.int (0 : Int32)), .val (.ref pR3), .val (.ref pR5), .unset] [(.int (0 : Int32))] _
    refine XS.iconst X6.here hx rfl (hb hby at_56) ?_
    show oS p e below T6 m 57 #[.val (.int pI1), .val (.int pI2), .val (.int (3 : Int32)), .val (.int (0 : Int32)), .val (.ref pR3), .val (.ref pR5), .unset] [(.int (2 : Int32)), (.int (0 : Int32))] _
    refine XS.icmpYes X6.here hx rfl (pc0 := 57) (pc' := 65) rfl (hb hby at_57) rfl (feq (by decide : ¬ ((0 : Int32) = (2 : Int32)))).2 (by decide) (by decide) ?_
    show oS p e below T6 m 65 #[.val (.int pI1), .val (.int pI2), .val (.int (3 : Int32)), .val (.int (0 : Int32)), .val (.ref pR3), .val (.ref pR5), .unset] [] _
    refine XS.iloadN X6.here hx rfl (hb hby at_65) rfl ?_
    show oS p e below T6 m 66 #[.val (.int pI1), .val (.int pI2), .val (.int (3 : Int32)), .val (.int (0 : Int32)), .val (.ref pR3), .val (.ref pR5), .unset] [(.int (0 : Int32))] _
    refine XS.iconst X6.here hx rfl (hb hby at_66) ?_
    show oS p e below T6 m 67 #[.val (.int pI1), .val (.int pI2), .val (.int (3 : Int32)), .val (.int (0 : Int32)), .val (.ref pR3), .val (.ref pR5), .unset] [(.int (3 : Int32)), (.int (0 : Int32))] _
    refine XS.icmpYes X6.here hx rfl (pc0 := 67) (pc' := 75) rfl (hb hby at_67) rfl (feq (by decide : ¬ ((0 : Int32) = (3 : Int32)))).2 (by decide) (by decide) ?_
    show oS p e below T6 m 75 #[.val (.int pI1), .val (.int pI2), .val (.int (3 : Int32)), .val (.int (0 : Int32)), .val (.ref pR3), .val (.ref pR5), .unset] [] _
    refine XS.iloadN X6.here hx rfl (hb hby at_75) rfl ?_
    show oS p e below T6 m 76 #[.val (.int pI1), .val (.int pI2), .val (.int (3 : Int32)), .val (.int (0 : Int32)), .val (.ref pR3), .val (.ref pR5), .unset] [(.int (0 : Int32))] _
    refine XS.iconst X6.here hx rfl (hb hby at_76) ?_
    show oS p e below T6 m 77 #[.val (.int pI1), .val (.int pI2), .val (.int (3 : Int32)), .val (.int (0 : Int32)), .val (.ref pR3), .val (.ref pR5), .unset] [(.int (4 : Int32)), (.int (0 : Int32))] _
    refine XS.icmpYes X6.here hx rfl (pc0 := 77) (pc' := 85) rfl (hb hby at_77) rfl (feq (by decide : ¬ ((0 : Int32) = (4 : Int32)))).2 (by decide) (by decide) ?_
    show oS p e below T6 m 85 #[.val (.int pI1), .val (.int pI2), .val (.int (3 : Int32)), .val (.int (0 : Int32)), .val (.ref pR3), .val (.ref pR5), .unset] [] _
    refine XS.iloadN X6.here hx rfl (hb hby at_85) rfl ?_
    show oS p e below T6 m 86 #[.val (.int pI1), .val (.int pI2), .val (.int (3 : Int32)), .val (.int (0 : Int32)), .val (.ref pR3), .val (.ref pR5), .unset] [(.int (0 : Int32))] _
    refine XS.iconst X6.here hx rfl (hb hby at_86) ?_
    show oS p e below T6 m 87 #[.val (.int pI1), .val (.int pI2), .val (.int (3 : Int32)), .val (.int (0 : Int32)), .val (.ref pR3), .val (.ref pR5), .unset] [(.int (3 : Int32)), (.int (0 : Int32))] _
    refine XS.icmpYes X6.here hx rfl (pc0 := 87) (pc' := 99) rfl (hb hby at_87) rfl (feq (by decide : ¬ ((0 : Int32) = (3 : Int32)))).2 (by decide) (by decide) ?_
    show oS p e below T6 m 99 #[.val (.int pI1), .val (.int pI2), .val (.int (3 : Int32)), .val (.int (0 : Int32)), .val (.ref pR3), .val (.ref pR5), .unset] [] _
    refine XS.iconst X6.here hx rfl (hb hby at_99) ?_
    show oS p e below T6 m 100 #[.val (.int pI1), .val (.int pI2), .val (.int (3 : Int32)), .val (.int (0 : Int32)), .val (.ref pR3), .val (.ref pR5), .unset] [(.int (0 : Int32))] _
    refine XS.istore X6.here hx rfl (hb hby at_100) rfl (l' := #[.val (.int pI1), .val (.int pI2), .val (.int (3 : Int32)), .val (.int (0 : Int32)), .val (.ref pR3), .val (.ref pR5), .val (.int (0 : Int32))]) rfl ?_
    show oS p e below T6 m 102 #[.val (.int pI1), .val (.int pI2), .val (.int (3 : Int32)), .val (.int (0 : Int32)), .val (.ref pR3), .val (.ref pR5), .val (.int (0 : Int32))] [] _
    refine XS.aload X6.here hx rfl (hb hby at_102) rfl rfl ?_
    show oS p e below T6 m 104 #[.val (.int pI1), .val (.int pI2), .val (.int (3 : Int32)), .val (.int (0 : Int32)), .val (.ref pR3), .val (.ref pR5), .val (.int (0 : Int32))] [(.ref pR3)] _
    refine XS.aload X6.here hx rfl (hb hby at_104) rfl rfl ?_
    show oS p e below T6 m 106 #[.val (.int pI1), .val (.int pI2), .val (.int (3 : Int32)), .val (.int (0 : Int32)), .val (.ref pR3), .val (.ref pR5), .val (.int (0 : Int32))] [(.ref pR5), (.ref pR3)] _
    refine st7.trans ?_
    show oS p e below T7 m 109 #[.val (.int pI1), .val (.int pI2), .val (.int (3 : Int32)), .val (.int (0 : Int32)), .val (.ref pR3), .val (.ref pR5), .val (.int (0 : Int32))] [(.int (0 : Int32))] _
    refine XS.iload X7.here hx rfl (hb hby at_109) rfl ?_
    show oS p e below T7 m 111 #[.val (.int pI1), .val (.int pI2), .val (.int (3 : Int32)), .val (.int (0 : Int32)), .val (.ref pR3), .val (.ref pR5), .val (.int (0 : Int32))] [(.int (0 : Int32)), (.int (0 : Int32))] _
    refine XS.icmpNo X7.here hx rfl (hb hby at_111) rfl (teq (by decide : (0 : Int32) = (0 : Int32))).2 ?_
    show oS p e below T7 m 114 #[.val (.int pI1), .val (.int pI2), .val (.int (3 : Int32)), .val (.int (0 : Int32)), .val (.ref pR3), .val (.ref pR5), .val (.int (0 : Int32))] [] _
    refine XS.iconst X7.here hx rfl (hb hby at_114) ?_
    show oS p e below T7 m 115 #[.val (.int pI1), .val (.int pI2), .val (.int (3 : Int32)), .val (.int (0 : Int32)), .val (.ref pR3), .val (.ref pR5), .val (.int (0 : Int32))] [(.int (1 : Int32))] _
    refine XS.goto X7.here hx rfl (pc0 := 115) (pc' := 119) rfl (hb hby at_115) (by decide) (by decide) ?_
    show oS p e below T7 m 119 #[.val (.int pI1), .val (.int pI2), .val (.int (3 : Int32)), .val (.int (0 : Int32)), .val (.ref pR3), .val (.ref pR5), .val (.int (0 : Int32))] [(.int (1 : Int32))] _
    exact retN X7 hx (t := .boolean) Bd.returns (by simp) (hb hby at_119) hr
  · show Qlaw3_0 Z pI1 pI2 pR3 pR5 h0 n0 _ T7.heap _
    rw [e7]
    exact ⟨rfl, N7⟩
theorem ef_law3_1 (m : MethodId) (pI1 : Int32) (pI2 : Int32) : entryFrame m #[(.int pI1), (.int pI2)] maxLocals = mkF m 0 #[.val (.int pI1), .val (.int pI2), .unset, .unset, .unset, .unset, .unset] [] := by first | (simp [entryFrame, mkF, argsToLocals, Value.category, maxLocals]; done) | rfl
def Qlaw3_1 (Z : State) (pI1 : Int32) (pI2 : Int32) (pR3 : Addr) (pR5 : Addr) (pR7 : Addr) (h0 : Heap) (n0 : Nat) (v : Option Value) (h : Heap) (L : List Loc) : Prop := v = some (.int (1 : Int32)) ∧ Fr n0 L
set_option maxRecDepth 65536 in
set_option maxHeartbeats 40000000 in
theorem law3_1 (l : Launch) (Z : State) (a0 : Array Value) (hw : ∀ d ∈ tables_1, d.before a0 Z = true) (ws : List Jvm.Cond) (pI1 : Int32) (pI2 : Int32) (pR3 : Addr) (pR5 : Addr) (pR7 : Addr) (h0 : Heap) (n0 : Nat) (Z0 : n0 ≤ h0.size) (S_OrderSegment_OBX : Sta Z h0 "com/example/vaxwire/vaxwire/reply/OrderSegment" "OBX" "Lcom/example/vaxwire/vaxwire/reply/OrderSegment;" (.ref pR3)) (S_OrderSegment_RXA : Sta Z h0 "com/example/vaxwire/vaxwire/reply/OrderSegment" "RXA" "Lcom/example/vaxwire/vaxwire/reply/OrderSegment;" (.ref pR5)) (F_ordinal_pR3 : Fld Z h0 pR3 "java/lang/Enum" "ordinal" "I" (.int (3 : Int32))) (E_pR3 : Exa Z h0 pR3 "com/example/vaxwire/vaxwire/reply/OrderSegment") (S_OrderSegment_ORC : Sta Z h0 "com/example/vaxwire/vaxwire/reply/OrderSegment" "ORC" "Lcom/example/vaxwire/vaxwire/reply/OrderSegment;" (.ref pR7)) (ne_pR5_pR7 : pR5 ≠ pR7) (hc5 : ((pI1 &&& (2147483647 : Int32)) % (5 : Int32)) = (3 : Int32)) (hc12 : ((pI2 &&& (2147483647 : Int32)) % (5 : Int32)) = (1 : Int32)) :
    MetFree l x (head1 (Jvm.Cond.code x code maxLocals ret :: ws) room_1) (fun a U => a = #[(.int pI1), (.int pI2)] ∧ Z.Warmed39 U.vm ∧ U.heap = h0) (fun _ _ _ _ _ => True) (fun _ U o U' => ∃ v L, o = .returned v ∧ Qlaw3_1 Z pI1 pI2 pR3 pR5 pR7 h0 n0 v U'.heap L ∧ FrameEnd U o U' L room_1.cells room_1.slots) := by
  refine MetFree.of_bodySF (plainFor_of_name pn_0) hisR ?_
  intro p e s m args below meth c s₁ Bd hml0 hP hK
  obtain ⟨rfl, hZ, hh⟩ := hP
  have hx := Bd.exec
  have hby := Bd.bytes
  have hml : c.maxLocals = 7 := hml0
  have hown : s.vm.findClass "com/example/vaxwire/vaxwire/reply/OrderSegmentMayFollowPinLaw" = some m.cls := findClass_of_methodNamed Bd.named
  have hnm := (name_of_methodNamed Bd.named Bd.method).1
  have X0 : Stand p l e room_1 s m #[(.int pI1), (.int pI2)] below meth c s₁ [] 0 0 := Stand.of_body Bd
  have e0 : s₁.heap = h0 := by rw [← hh, Bd.state]; rfl
  have N0 := Fr.nil n0
  have pre0 : ∀ t, Steps p.tables e below (s₁.setTop (mkF m 0 #[.val (.int pI1), .val (.int pI2), .unset, .unset, .unset, .unset, .unset] [])) t → Steps p.tables e below (s₁.setTop (entryFrame m #[(.int pI1), (.int pI2)] maxLocals)) t := fun t k => castTop (ef_law3_1 m pI1 pI2) k
  obtain ⟨_, _, ⟨T4, L4, k4, n4⟩, -, X4, ⟨Lc4, hQ4, l4, y4, z4⟩, st4⟩ := Jvm.LawKit.callS X0 hx (y := yN0) hown (mvT hZ (ow hw 1 rfl)) (mvT hZ (ow hw 2 rfl)) (mvT hZ (ow hw 3 rfl)) (mvT hZ (ow hw 4 rfl)) (by decide) (backOf (W := 0) (pick3 l Z a0 hw [] pR3 h0 n0 Z0 S_OrderSegment_OBX) hZ (ow hw 4 rfl) (ow hw 3 rfl) (by decide) (by decide)) (g := (mkF m 15 #[.val (.int pI1), .val (.int pI2), .val (.int (3 : Int32)), .val (.int (1 : Int32)), .unset, .unset, .unset] [(.int (3 : Int32))])) rfl (by rw [hml]; rfl) (argsL := [(.int (3 : Int32))]) (rest := []) (lenOf pd_1 rfl) rfl (by show 2 * 0 + _ ≤ _; exact Nat.le_of_eq rfl) (hb hby at_15) (fun _ _ => ⟨rfl, e0, (by decide : 0 + 0 ≤ _), (by decide : 0 + 0 ≤ _)⟩)
  dsimp only [Pt.U, Pt.locs, Pt.cells, Pt.slots] at X4 l4 y4 z4 st4 hQ4
  subst l4 y4 z4
  obtain ⟨rfl, Nq4, e4⟩ := hQ4
  have N4 := Fr.app N0 Nq4
  obtain ⟨_, _, ⟨T6, L6, k6, n6⟩, -, X6, ⟨Lc6, hQ6, l6, y6, z6⟩, st6⟩ := Jvm.LawKit.callS X4 hx (y := yN0) hown (mvT hZ (ow hw 1 rfl)) (mvT hZ (ow hw 2 rfl)) (mvT hZ (ow hw 3 rfl)) (mvT hZ (ow hw 4 rfl)) (by decide) (backOf (W := 0) (pick1 l Z a0 hw [] pR5 h0 n0 Z0 S_OrderSegment_RXA) hZ (ow hw 4 rfl) (ow hw 3 rfl) (by decide) (by decide)) (g := (mkF m 21 #[.val (.int pI1), .val (.int pI2), .val (.int (3 : Int32)), .val (.int (1 : Int32)), .val (.ref pR3), .unset, .unset] [(.int (1 : Int32))])) rfl (by rw [hml]; rfl) (argsL := [(.int (1 : Int32))]) (rest := []) (lenOf pd_1 rfl) rfl (by show 2 * 0 + _ ≤ _; exact Nat.le_of_eq rfl) (hb hby at_21) (fun _ _ => ⟨rfl, e4, (by decide : 0 + 0 ≤ _), (by decide : 0 + 0 ≤ _)⟩)
  dsimp only [Pt.U, Pt.locs, Pt.cells, Pt.slots] at X6 l6 y6 z6 st6 hQ6
  subst l6 y6 z6
  obtain ⟨rfl, Nq6, e6⟩ := hQ6
  have N6 := Fr.app N4 Nq6
  obtain ⟨cq8, kq8, q8a, q8b, q8c⟩ := isOf hZ e6 E_pR3
  obtain ⟨_, _, ⟨T8, L8, k8, n8⟩, -, X8, ⟨Lc8, hQ8, l8, y8, z8⟩, st8⟩ := X6.virtualBack hx (y := yN3) (z := yN3) hown (mvT hZ (ow hw 10 rfl)) (mvT hZ (ow hw 11 rfl)) (notFace_of_selects (args := #[]) (mvT hZ (ow hw 13 rfl))) (mvT hZ (ow hw 13 rfl)) (mvT hZ (ow hw 12 rfl)) (by decide) (backOf (W := 0) (mf3d l Z a0 hw [] pR3 pR5 pR7 h0 n0 Z0 F_ordinal_pR3 E_pR3 S_OrderSegment_ORC ne_pR5_pR7) hZ (ow hw 14 rfl) (ow hw 6 rfl) (by decide) (by decide)) q8a q8c (g := (mkF m 106 #[.val (.int pI1), .val (.int pI2), .val (.int (3 : Int32)), .val (.int (1 : Int32)), .val (.ref pR3), .val (.ref pR5), .val (.int (1 : Int32))] [(.ref pR5), (.ref pR3)])) rfl (by rw [hml]; rfl) (Steps.refl _) (argsL := [(.ref pR5)]) (rest := []) (lenOf pd_2 rfl) rfl (by show 2 * 0 + _ ≤ _; exact Nat.le_of_eq rfl) (hb hby at_106) (fun _ _ => ⟨rfl, e6, (by decide : 0 + 0 ≤ _), (by decide : 0 + 0 ≤ _)⟩)
  dsimp only [Pt.U, Pt.locs, Pt.cells, Pt.slots] at X8 l8 y8 z8 st8 hQ8
  subst l8 y8 z8
  obtain ⟨rfl, Nq8, e8⟩ := hQ8
  have N8 := Fr.app N6 Nq8
  obtain ⟨fs, hr, hrun, hended, hW, hsame⟩ := X8.leave (v := some (.int (1 : Int32))) (fun h => by rw [Bd.returns] at h; cases h)
  refine ⟨_, _, pre0 _ ?_, hrun, hended, _, _, rfl, ?_, ⟨_, rfl⟩, hW, hsame.mono (by decide) (by decide)⟩
  · show oS p e below s₁ m 0 #[.val (.int pI1), .val (.int pI2), .unset, .unset, .unset, .unset, .unset] [] _
    refine XS.iloadN X0.here hx rfl (hb hby at_0) rfl ?_
    show oS p e below s₁ m 1 #[.val (.int pI1), .val (.int pI2), .unset, .unset, .unset, .unset, .unset] [(.int pI1)] _
    refine X0.ldcInt hx hown (mvT hZ (ow hw 0 rfl)) (g := (mkF m 1 #[.val (.int pI1), .val (.int pI2), .unset, .unset, .unset, .unset, .unset] [(.int pI1)])) rfl (hb hby at_1) _ ?_
    show oS p e below s₁ m 3 #[.val (.int pI1), .val (.int pI2), .unset, .unset, .unset, .unset, .unset] [(.int (2147483647 : Int32)), (.int pI1)] _
    refine XS.iand X0.here hx rfl (hb hby at_3) rfl ?_
    show oS p e below s₁ m 4 #[.val (.int pI1), .val (.int pI2), .unset, .unset, .unset, .unset, .unset] [(.int (pI1 &&& (2147483647 : Int32)))] _
    refine XS.iconst X0.here hx rfl (hb hby at_4) ?_
    show oS p e below s₁ m 5 #[.val (.int pI1), .val (.int pI2), .unset, .unset, .unset, .unset, .unset] [(.int (5 : Int32)), (.int (pI1 &&& (2147483647 : Int32)))] _
    refine iremM (g := (mkF m 5 #[.val (.int pI1), .val (.int pI2), .unset, .unset, .unset, .unset, .unset] [(.int (5 : Int32)), (.int (pI1 &&& (2147483647 : Int32)))])) X0 hx rfl (hb hby at_5) rfl (by decide) ?_
    show Steps p.tables e below (s₁.setTop (mkF m 6 #[.val (.int pI1), .val (.int pI2), .unset, .unset, .unset, .unset, .unset] [(.int ((pI1 &&& (2147483647 : Int32)) % (5 : Int32)))])) _
    rw [hc5]
    show oS p e below s₁ m 6 #[.val (.int pI1), .val (.int pI2), .unset, .unset, .unset, .unset, .unset] [(.int (3 : Int32))] _
    refine XS.istoreN X0.here hx rfl (hb hby at_6) rfl (l' := #[.val (.int pI1), .val (.int pI2), .val (.int (3 : Int32)), .unset, .unset, .unset, .unset]) rfl ?_
    show oS p e below s₁ m 7 #[.val (.int pI1), .val (.int pI2), .val (.int (3 : Int32)), .unset, .unset, .unset, .unset] [] _
    refine XS.iloadN X0.here hx rfl (hb hby at_7) rfl ?_
    show oS p e below s₁ m 8 #[.val (.int pI1), .val (.int pI2), .val (.int (3 : Int32)), .unset, .unset, .unset, .unset] [(.int pI2)] _
    refine X0.ldcInt hx hown (mvT hZ (ow hw 0 rfl)) (g := (mkF m 8 #[.val (.int pI1), .val (.int pI2), .val (.int (3 : Int32)), .unset, .unset, .unset, .unset] [(.int pI2)])) rfl (hb hby at_8) _ ?_
    show oS p e below s₁ m 10 #[.val (.int pI1), .val (.int pI2), .val (.int (3 : Int32)), .unset, .unset, .unset, .unset] [(.int (2147483647 : Int32)), (.int pI2)] _
    refine XS.iand X0.here hx rfl (hb hby at_10) rfl ?_
    show oS p e below s₁ m 11 #[.val (.int pI1), .val (.int pI2), .val (.int (3 : Int32)), .unset, .unset, .unset, .unset] [(.int (pI2 &&& (2147483647 : Int32)))] _
    refine XS.iconst X0.here hx rfl (hb hby at_11) ?_
    show oS p e below s₁ m 12 #[.val (.int pI1), .val (.int pI2), .val (.int (3 : Int32)), .unset, .unset, .unset, .unset] [(.int (5 : Int32)), (.int (pI2 &&& (2147483647 : Int32)))] _
    refine iremM (g := (mkF m 12 #[.val (.int pI1), .val (.int pI2), .val (.int (3 : Int32)), .unset, .unset, .unset, .unset] [(.int (5 : Int32)), (.int (pI2 &&& (2147483647 : Int32)))])) X0 hx rfl (hb hby at_12) rfl (by decide) ?_
    show Steps p.tables e below (s₁.setTop (mkF m 13 #[.val (.int pI1), .val (.int pI2), .val (.int (3 : Int32)), .unset, .unset, .unset, .unset] [(.int ((pI2 &&& (2147483647 : Int32)) % (5 : Int32)))])) _
    rw [hc12]
    show oS p e below s₁ m 13 #[.val (.int pI1), .val (.int pI2), .val (.int (3 : Int32)), .unset, .unset, .unset, .unset] [(.int (1 : Int32))] _
    refine XS.istoreN X0.here hx rfl (hb hby at_13) rfl (l' := #[.val (.int pI1), .val (.int pI2), .val (.int (3 : Int32)), .val (.int (1 : Int32)), .unset, .unset, .unset]) rfl ?_
    show oS p e below s₁ m 14 #[.val (.int pI1), .val (.int pI2), .val (.int (3 : Int32)), .val (.int (1 : Int32)), .unset, .unset, .unset] [] _
    refine XS.iloadN X0.here hx rfl (hb hby at_14) rfl ?_
    show oS p e below s₁ m 15 #[.val (.int pI1), .val (.int pI2), .val (.int (3 : Int32)), .val (.int (1 : Int32)), .unset, .unset, .unset] [(.int (3 : Int32))] _
    refine st4 _ ?_
    show oS p e below T4 m 18 #[.val (.int pI1), .val (.int pI2), .val (.int (3 : Int32)), .val (.int (1 : Int32)), .unset, .unset, .unset] [(.ref pR3)] _
    refine XS.astore X4.here hx rfl (hb hby at_18) rfl rfl (l' := #[.val (.int pI1), .val (.int pI2), .val (.int (3 : Int32)), .val (.int (1 : Int32)), .val (.ref pR3), .unset, .unset]) rfl ?_
    show oS p e below T4 m 20 #[.val (.int pI1), .val (.int pI2), .val (.int (3 : Int32)), .val (.int (1 : Int32)), .val (.ref pR3), .unset, .unset] [] _
    refine XS.iloadN X4.here hx rfl (hb hby at_20) rfl ?_
    show oS p e below T4 m 21 #[.val (.int pI1), .val (.int pI2), .val (.int (3 : Int32)), .val (.int (1 : Int32)), .val (.ref pR3), .unset, .unset] [(.int (1 : Int32))] _
    refine st6 _ ?_
    show oS p e below T6 m 24 #[.val (.int pI1), .val (.int pI2), .val (.int (3 : Int32)), .val (.int (1 : Int32)), .val (.ref pR3), .unset, .unset] [(.ref pR5)] _
    refine XS.astore X6.here hx rfl (hb hby at_24) rfl rfl (l' := #[.val (.int pI1), .val (.int pI2), .val (.int (3 : Int32)), .val (.int (1 : Int32)), .val (.ref pR3), .val (.ref pR5), .unset]) rfl ?_
    show oS p e below T6 m 26 #[.val (.int pI1), .val (.int pI2), .val (.int (3 : Int32)), .val (.int (1 : Int32)), .val (.ref pR3), .val (.ref pR5), .unset] [] _
    refine XS.iloadN X6.here hx rfl (hb hby at_26) rfl ?_
    show oS p e below T6 m 27 #[.val (.int pI1), .val (.int pI2), .val (.int (3 : Int32)), .val (.int (1 : Int32)), .val (.ref pR3), .val (.ref pR5), .unset] [(.int (1 : Int32))] _
    refine XS.ifYes X6.here hx rfl (pc0 := 27) (pc' := 35) rfl (hb hby at_27) rfl ((if0 _ _).trans (feq (by decide : ¬ ((1 : Int32) = (0 : Int32)))).2) (by decide) (by decide) ?_
    show oS p e below T6 m 35 #[.val (.int pI1), .val (.int pI2), .val (.int (3 : Int32)), .val (.int (1 : Int32)), .val (.ref pR3), .val (.ref pR5), .unset] [] _
    refine XS.iloadN X6.here hx rfl (hb hby at_35) rfl ?_
    show oS p e below T6 m 36 #[.val (.int pI1), .val (.int pI2), .val (.int (3 : Int32)), .val (.int (1 : Int32)), .val (.ref pR3), .val (.ref pR5), .unset] [(.int (1 : Int32))] _
    refine XS.iconst X6.here hx rfl (hb hby at_36) ?_
    show oS p e below T6 m 37 #[.val (.int pI1), .val (.int pI2), .val (.int (3 : Int32)), .val (.int (1 : Int32)), .val (.ref pR3), .val (.ref pR5), .unset] [(.int (1 : Int32)), (.int (1 : Int32))] _
    refine XS.icmpNo X6.here hx rfl (hb hby at_37) rfl (teq (by decide : (1 : Int32) = (1 : Int32))).2 ?_
    show oS p e below T6 m 40 #[.val (.int pI1), .val (.int pI2), .val (.int (3 : Int32)), .val (.int (1 : Int32)), .val (.ref pR3), .val (.ref pR5), .unset] [] _
    refine XS.iloadN X6.here hx rfl (hb hby at_40) rfl ?_
    show oS p e below T6 m 41 #[.val (.int pI1), .val (.int pI2), .val (.int (3 : Int32)), .val (.int (1 : Int32)), .val (.ref pR3), .val (.ref pR5), .unset] [(.int (3 : Int32))] _
    refine XS.iconst X6.here hx rfl (hb hby at_41) ?_
    show oS p e below T6 m 42 #[.val (.int pI1), .val (.int pI2), .val (.int (3 : Int32)), .val (.int (1 : Int32)), .val (.ref pR3), .val (.ref pR5), .unset] [(.int (2 : Int32)), (.int (3 : Int32))] _
    refine XS.icmpNo X6.here hx rfl (hb hby at_42) rfl (feq (by decide : ¬ ((3 : Int32) = (2 : Int32)))).1 ?_
    show oS p e below T6 m 45 #[.val (.int pI1), .val (.int pI2), .val (.int (3 : Int32)), .val (.int (1 : Int32)), .val (.ref pR3), .val (.ref pR5), .unset] [] _
    refine XS.iloadN X6.here hx rfl (hb hby at_45) rfl ?_
    show oS p e below T6 m 46 #[.val (.int pI1), .val (.int pI2), .val (.int (3 : Int32)), .val (.int (1 : Int32)), .val (.ref pR3), .val (.ref pR5), .unset] [(.int (1 : Int32))] _
    refine XS.iconst X6.here hx rfl (hb hby at_46) ?_
    show oS p e below T6 m 47 #[.val (.int pI1), .val (.int pI2), .val (.int (3 : Int32)), .val (.int (1 : Int32)), .val (.ref pR3), .val (.ref pR5), .unset] [(.int (1 : Int32)), (.int (1 : Int32))] _
    refine XS.icmpNo X6.here hx rfl (hb hby at_47) rfl (teq (by decide : (1 : Int32) = (1 : Int32))).2 ?_
    show oS p e below T6 m 50 #[.val (.int pI1), .val (.int pI2), .val (.int (3 : Int32)), .val (.int (1 : Int32)), .val (.ref pR3), .val (.ref pR5), .unset] [] _
    refine XS.iloadN X6.here hx rfl (hb hby at_50) rfl ?_
    show oS p e below T6 m 51 #[.val (.int pI1), .val (.int pI2), .val (.int (3 : Int32)), .val (.int (1 : Int32)), .val (.ref pR3), .val (.ref pR5), .unset] [(.int (3 : Int32))] _
    refine XS.iconst X6.here hx rfl (hb hby at_51) ?_
    show oS p e below T6 m 52 #[.val (.int pI1), .val (.int pI2), .val (.int (3 : Int32)), .val (.int (1 : Int32)), .val (.ref pR3), .val (.ref pR5), .unset] [(.int (3 : Int32)), (.int (3 : Int32))] _
    refine XS.icmpYes X6.here hx rfl (pc0 := 52) (pc' := 95) rfl (hb hby at_52) rfl (teq (by decide : (3 : Int32) = (3 : Int32))).1 (by decide) (by decide) ?_
    show oS p e below T6 m 95 #[.val (.int pI1), .val (.int pI2), .val (.int (3 : Int32)), .val (.int (1 : Int32)), .val (.ref pR3), .val (.ref pR5), .unset] [] _
    refine XS.iconst X6.here hx rfl (hb hby at_95) ?_
    show oS p e below T6 m 96 #[.val (.int pI1), .val (.int pI2), .val (.int (3 : Int32)), .val (.int (1 : Int32)), .val (.ref pR3), .val (.ref pR5), .unset] [(.int (1 : Int32))] _
    refine XS.goto X6.here hx rfl (pc0 := 96) (pc' := 100) rfl (hb hby at_96) (by decide) (by decide) ?_
    show oS p e below T6 m 100 #[.val (.int pI1), .val (.int pI2), .val (.int (3 : Int32)), .val (.int (1 : Int32)), .val (.ref pR3), .val (.ref pR5), .unset] [(.int (1 : Int32))] _
    refine XS.istore X6.here hx rfl (hb hby at_100) rfl (l' := #[.val (.int pI1), .val (.int pI2), .val (.int (3 : Int32)), .val (.int (1 : Int32)), .val (.ref pR3), .val (.ref pR5), .val (.int (1 : Int32))]) rfl ?_
    show oS p e below T6 m 102 #[.val (.int pI1), .val (.int pI2), .val (.int (3 : Int32)), .val (.int (1 : Int32)), .val (.ref pR3), .val (.ref pR5), .val (.int (1 : Int32))] [] _
    refine XS.aload X6.here hx rfl (hb hby at_102) rfl rfl ?_
    show oS p e below T6 m 104 #[.val (.int pI1), .val (.int pI2), .val (.int (3 : Int32)), .val (.int (1 : Int32)), .val (.ref pR3), .val (.ref pR5), .val (.int (1 : Int32))] [(.ref pR3)] _
    refine XS.aload X6.here hx rfl (hb hby at_104) rfl rfl ?_
    show oS p e below T6 m 106 #[.val (.int pI1), .val (.int pI2), .val (.int (3 : Int32)), .val (.int (1 : Int32)), .val (.ref pR3), .val (.ref pR5), .val (.int (1 : Int32))] [(.ref pR5), (.ref pR3)] _
    refine st8.trans ?_
    show oS p e below T8 m 109 #[.val (.int pI1), .val (.int pI2), .val (.int (3 : Int32)), .val (.int (1 : Int32)), .val (.ref pR3), .val (.ref pR5), .val (.int (1 : Int32))] [(.int (1 : Int32))] _
    refine XS.iload X8.here hx rfl (hb hby at_109) rfl ?_
    show oS p e below T8 m 111 #[.val (.int pI1), .val (.int pI2), .val (.int (3 : Int32)), .val (.int (1 : Int32)), .val (.ref pR3), .val (.ref pR5), .val (.int (1 : Int32))] [(.int (1 : Int32)), (.int (1 : Int32))] _
    refine XS.icmpNo X8.here hx rfl (hb hby at_111) rfl (teq (by decide : (1 : Int32) = (1 : Int32))).2 ?_
    show oS p e below T8 m 114 #[.val (.int pI1), .val (.int pI2), .val (.int (3 : Int32)), .val (.int (1 : Int32)), .val (.ref pR3), .val (.ref pR5), .val (.int (1 : Int32))] [] _
    refine XS.iconst X8.here hx rfl (hb hby at_114) ?_
    show oS p e below T8 m 115 #[.val (.int pI1), .val (.int pI2), .val (.int (3 : Int32)), .val (.int (1 : Int32)), .val (.ref pR3), .val (.ref pR5), .val (.int (1 : Int32))] [(.int (1 : Int32))] _
    refine XS.goto X8.here hx rfl (pc0 := 115) (pc' := 119) rfl (hb hby at_115) (by decide) (by decide) ?_
    show oS p e below T8 m 119 #[.val (.int pI1), .val (.int pI2), .val (.int (3 : Int32)), .val (.int (1 : Int32)), .val (.ref pR3), .val (.ref pR5), .val (.int (1 : Int32))] [(.int (1 : Int32))] _
    exact retN X8 hx (t := .boolean) Bd.returns (by simp) (hb hby at_119) hr
  · show Qlaw3_1 Z pI1 pI2 pR3 pR5 pR7 h0 n0 _ T8.heap _
    rw [e8]
    exact ⟨rfl, N8⟩
theorem ef_law3_2 (m : MethodId) (pI1 : Int32) (pI2 : Int32) : entryFrame m #[(.int pI1), (.int pI2)] maxLocals = mkF m 0 #[.val (.int pI1), .val (.int pI2), .unset, .unset, .unset, .unset, .unset] [] := by first | (simp [entryFrame, mkF, argsToLocals, Value.category, maxLocals]; done) | rfl
def Qlaw3_2 (Z : State) (pI1 : Int32) (pI2 : Int32) (pR3 : Addr) (pR5 : Addr) (pR7 : Addr) (h0 : Heap) (n0 : Nat) (v : Option Value) (h : Heap) (L : List Loc) : Prop := v = some (.int (1 : Int32)) ∧ Fr n0 L
set_option maxRecDepth 65536 in
set_option maxHeartbeats 40000000 in
theorem law3_2 (l : Launch) (Z : State) (a0 : Array Value) (hw : ∀ d ∈ tables_1, d.before a0 Z = true) (ws : List Jvm.Cond) (pI1 : Int32) (pI2 : Int32) (pR3 : Addr) (pR5 : Addr) (pR7 : Addr) (h0 : Heap) (n0 : Nat) (Z0 : n0 ≤ h0.size) (S_OrderSegment_OBX : Sta Z h0 "com/example/vaxwire/vaxwire/reply/OrderSegment" "OBX" "Lcom/example/vaxwire/vaxwire/reply/OrderSegment;" (.ref pR3)) (S_OrderSegment_RXR : Sta Z h0 "com/example/vaxwire/vaxwire/reply/OrderSegment" "RXR" "Lcom/example/vaxwire/vaxwire/reply/OrderSegment;" (.ref pR5)) (F_ordinal_pR3 : Fld Z h0 pR3 "java/lang/Enum" "ordinal" "I" (.int (3 : Int32))) (E_pR3 : Exa Z h0 pR3 "com/example/vaxwire/vaxwire/reply/OrderSegment") (S_OrderSegment_ORC : Sta Z h0 "com/example/vaxwire/vaxwire/reply/OrderSegment" "ORC" "Lcom/example/vaxwire/vaxwire/reply/OrderSegment;" (.ref pR7)) (ne_pR5_pR7 : pR5 ≠ pR7) (hc5 : ((pI1 &&& (2147483647 : Int32)) % (5 : Int32)) = (3 : Int32)) (hc12 : ((pI2 &&& (2147483647 : Int32)) % (5 : Int32)) = (2 : Int32)) :
    MetFree l x (head1 (Jvm.Cond.code x code maxLocals ret :: ws) room_1) (fun a U => a = #[(.int pI1), (.int pI2)] ∧ Z.Warmed39 U.vm ∧ U.heap = h0) (fun _ _ _ _ _ => True) (fun _ U o U' => ∃ v L, o = .returned v ∧ Qlaw3_2 Z pI1 pI2 pR3 pR5 pR7 h0 n0 v U'.heap L ∧ FrameEnd U o U' L room_1.cells room_1.slots) := by
  refine MetFree.of_bodySF (plainFor_of_name pn_0) hisR ?_
  intro p e s m args below meth c s₁ Bd hml0 hP hK
  obtain ⟨rfl, hZ, hh⟩ := hP
  have hx := Bd.exec
  have hby := Bd.bytes
  have hml : c.maxLocals = 7 := hml0
  have hown : s.vm.findClass "com/example/vaxwire/vaxwire/reply/OrderSegmentMayFollowPinLaw" = some m.cls := findClass_of_methodNamed Bd.named
  have hnm := (name_of_methodNamed Bd.named Bd.method).1
  have X0 : Stand p l e room_1 s m #[(.int pI1), (.int pI2)] below meth c s₁ [] 0 0 := Stand.of_body Bd
  have e0 : s₁.heap = h0 := by rw [← hh, Bd.state]; rfl
  have N0 := Fr.nil n0
  have pre0 : ∀ t, Steps p.tables e below (s₁.setTop (mkF m 0 #[.val (.int pI1), .val (.int pI2), .unset, .unset, .unset, .unset, .unset] [])) t → Steps p.tables e below (s₁.setTop (entryFrame m #[(.int pI1), (.int pI2)] maxLocals)) t := fun t k => castTop (ef_law3_2 m pI1 pI2) k
  obtain ⟨_, _, ⟨T4, L4, k4, n4⟩, -, X4, ⟨Lc4, hQ4, l4, y4, z4⟩, st4⟩ := Jvm.LawKit.callS X0 hx (y := yN0) hown (mvT hZ (ow hw 1 rfl)) (mvT hZ (ow hw 2 rfl)) (mvT hZ (ow hw 3 rfl)) (mvT hZ (ow hw 4 rfl)) (by decide) (backOf (W := 0) (pick3 l Z a0 hw [] pR3 h0 n0 Z0 S_OrderSegment_OBX) hZ (ow hw 4 rfl) (ow hw 3 rfl) (by decide) (by decide)) (g := (mkF m 15 #[.val (.int pI1), .val (.int pI2), .val (.int (3 : Int32)), .val (.int (2 : Int32)), .unset, .unset, .unset] [(.int (3 : Int32))])) rfl (by rw [hml]; rfl) (argsL := [(.int (3 : Int32))]) (rest := []) (lenOf pd_1 rfl) rfl (by show 2 * 0 + _ ≤ _; exact Nat.le_of_eq rfl) (hb hby at_15) (fun _ _ => ⟨rfl, e0, (by decide : 0 + 0 ≤ _), (by decide : 0 + 0 ≤ _)⟩)
  dsimp only [Pt.U, Pt.locs, Pt.cells, Pt.slots] at X4 l4 y4 z4 st4 hQ4
  subst l4 y4 z4
  obtain ⟨rfl, Nq4, e4⟩ := hQ4
  have N4 := Fr.app N0 Nq4
  obtain ⟨_, _, ⟨T6, L6, k6, n6⟩, -, X6, ⟨Lc6, hQ6, l6, y6, z6⟩, st6⟩ := Jvm.LawKit.callS X4 hx (y := yN0) hown (mvT hZ (ow hw 1 rfl)) (mvT hZ (ow hw 2 rfl)) (mvT hZ (ow hw 3 rfl)) (mvT hZ (ow hw 4 rfl)) (by decide) (backOf (W := 0) (pick2 l Z a0 hw [] pR5 h0 n0 Z0 S_OrderSegment_RXR) hZ (ow hw 4 rfl) (ow hw 3 rfl) (by decide) (by decide)) (g := (mkF m 21 #[.val (.int pI1), .val (.int pI2), .val (.int (3 : Int32)), .val (.int (2 : Int32)), .val (.ref pR3), .unset, .unset] [(.int (2 : Int32))])) rfl (by rw [hml]; rfl) (argsL := [(.int (2 : Int32))]) (rest := []) (lenOf pd_1 rfl) rfl (by show 2 * 0 + _ ≤ _; exact Nat.le_of_eq rfl) (hb hby at_21) (fun _ _ => ⟨rfl, e4, (by decide : 0 + 0 ≤ _), (by decide : 0 + 0 ≤ _)⟩)
  dsimp only [Pt.U, Pt.locs, Pt.cells, Pt.slots] at X6 l6 y6 z6 st6 hQ6
  subst l6 y6 z6
  obtain ⟨rfl, Nq6, e6⟩ := hQ6
  have N6 := Fr.app N4 Nq6
  obtain ⟨cq8, kq8, q8a, q8b, q8c⟩ := isOf hZ e6 E_pR3
  obtain ⟨_, _, ⟨T8, L8, k8, n8⟩, -, X8, ⟨Lc8, hQ8, l8, y8, z8⟩, st8⟩ := X6.virtualBack hx (y := yN3) (z := yN3) hown (mvT hZ (ow hw 10 rfl)) (mvT hZ (ow hw 11 rfl)) (notFace_of_selects (args := #[]) (mvT hZ (ow hw 13 rfl))) (mvT hZ (ow hw 13 rfl)) (mvT hZ (ow hw 12 rfl)) (by decide) (backOf (W := 0) (mf3d l Z a0 hw [] pR3 pR5 pR7 h0 n0 Z0 F_ordinal_pR3 E_pR3 S_OrderSegment_ORC ne_pR5_pR7) hZ (ow hw 14 rfl) (ow hw 6 rfl) (by decide) (by decide)) q8a q8c (g := (mkF m 106 #[.val (.int pI1), .val (.int pI2), .val (.int (3 : Int32)), .val (.int (2 : Int32)), .val (.ref pR3), .val (.ref pR5), .val (.int (1 : Int32))] [(.ref pR5), (.ref pR3)])) rfl (by rw [hml]; rfl) (Steps.refl _) (argsL := [(.ref pR5)]) (rest := []) (lenOf pd_2 rfl) rfl (by show 2 * 0 + _ ≤ _; exact Nat.le_of_eq rfl) (hb hby at_106) (fun _ _ => ⟨rfl, e6, (by decide : 0 + 0 ≤ _), (by decide : 0 + 0 ≤ _)⟩)
  dsimp only [Pt.U, Pt.locs, Pt.cells, Pt.slots] at X8 l8 y8 z8 st8 hQ8
  subst l8 y8 z8
  obtain ⟨rfl, Nq8, e8⟩ := hQ8
  have N8 := Fr.app N6 Nq8
  obtain ⟨fs, hr, hrun, hended, hW, hsame⟩ := X8.leave (v := some (.int (1 : Int32))) (fun h => by rw [Bd.returns] at h; cases h)
  refine ⟨_, _, pre0 _ ?_, hrun, hended, _, _, rfl, ?_, ⟨_, rfl⟩, hW, hsame.mono (by decide) (by decide)⟩
  · show oS p e below s₁ m 0 #[.val (.int pI1), .val (.int pI2), .unset, .unset, .unset, .unset, .unset] [] _
    refine XS.iloadN X0.here hx rfl (hb hby at_0) rfl ?_
    show oS p e below s₁ m 1 #[.val (.int pI1), .val (.int pI2), .unset, .unset, .unset, .unset, .unset] [(.int pI1)] _
    refine X0.ldcInt hx hown (mvT hZ (ow hw 0 rfl)) (g := (mkF m 1 #[.val (.int pI1), .val (.int pI2), .unset, .unset, .unset, .unset, .unset] [(.int pI1)])) rfl (hb hby at_1) _ ?_
    show oS p e below s₁ m 3 #[.val (.int pI1), .val (.int pI2), .unset, .unset, .unset, .unset, .unset] [(.int (2147483647 : Int32)), (.int pI1)] _
    refine XS.iand X0.here hx rfl (hb hby at_3) rfl ?_
    show oS p e below s₁ m 4 #[.val (.int pI1), .val (.int pI2), .unset, .unset, .unset, .unset, .unset] [(.int (pI1 &&& (2147483647 : Int32)))] _
    refine XS.iconst X0.here hx rfl (hb hby at_4) ?_
    show oS p e below s₁ m 5 #[.val (.int pI1), .val (.int pI2), .unset, .unset, .unset, .unset, .unset] [(.int (5 : Int32)), (.int (pI1 &&& (2147483647 : Int32)))] _
    refine iremM (g := (mkF m 5 #[.val (.int pI1), .val (.int pI2), .unset, .unset, .unset, .unset, .unset] [(.int (5 : Int32)), (.int (pI1 &&& (2147483647 : Int32)))])) X0 hx rfl (hb hby at_5) rfl (by decide) ?_
    show Steps p.tables e below (s₁.setTop (mkF m 6 #[.val (.int pI1), .val (.int pI2), .unset, .unset, .unset, .unset, .unset] [(.int ((pI1 &&& (2147483647 : Int32)) % (5 : Int32)))])) _
    rw [hc5]
    show oS p e below s₁ m 6 #[.val (.int pI1), .val (.int pI2), .unset, .unset, .unset, .unset, .unset] [(.int (3 : Int32))] _
    refine XS.istoreN X0.here hx rfl (hb hby at_6) rfl (l' := #[.val (.int pI1), .val (.int pI2), .val (.int (3 : Int32)), .unset, .unset, .unset, .unset]) rfl ?_
    show oS p e below s₁ m 7 #[.val (.int pI1), .val (.int pI2), .val (.int (3 : Int32)), .unset, .unset, .unset, .unset] [] _
    refine XS.iloadN X0.here hx rfl (hb hby at_7) rfl ?_
    show oS p e below s₁ m 8 #[.val (.int pI1), .val (.int pI2), .val (.int (3 : Int32)), .unset, .unset, .unset, .unset] [(.int pI2)] _
    refine X0.ldcInt hx hown (mvT hZ (ow hw 0 rfl)) (g := (mkF m 8 #[.val (.int pI1), .val (.int pI2), .val (.int (3 : Int32)), .unset, .unset, .unset, .unset] [(.int pI2)])) rfl (hb hby at_8) _ ?_
    show oS p e below s₁ m 10 #[.val (.int pI1), .val (.int pI2), .val (.int (3 : Int32)), .unset, .unset, .unset, .unset] [(.int (2147483647 : Int32)), (.int pI2)] _
    refine XS.iand X0.here hx rfl (hb hby at_10) rfl ?_
    show oS p e below s₁ m 11 #[.val (.int pI1), .val (.int pI2), .val (.int (3 : Int32)), .unset, .unset, .unset, .unset] [(.int (pI2 &&& (2147483647 : Int32)))] _
    refine XS.iconst X0.here hx rfl (hb hby at_11) ?_
    show oS p e below s₁ m 12 #[.val (.int pI1), .val (.int pI2), .val (.int (3 : Int32)), .unset, .unset, .unset, .unset] [(.int (5 : Int32)), (.int (pI2 &&& (2147483647 : Int32)))] _
    refine iremM (g := (mkF m 12 #[.val (.int pI1), .val (.int pI2), .val (.int (3 : Int32)), .unset, .unset, .unset, .unset] [(.int (5 : Int32)), (.int (pI2 &&& (2147483647 : Int32)))])) X0 hx rfl (hb hby at_12) rfl (by decide) ?_
    show Steps p.tables e below (s₁.setTop (mkF m 13 #[.val (.int pI1), .val (.int pI2), .val (.int (3 : Int32)), .unset, .unset, .unset, .unset] [(.int ((pI2 &&& (2147483647 : Int32)) % (5 : Int32)))])) _
    rw [hc12]
    show oS p e below s₁ m 13 #[.val (.int pI1), .val (.int pI2), .val (.int (3 : Int32)), .unset, .unset, .unset, .unset] [(.int (2 : Int32))] _
    refine XS.istoreN X0.here hx rfl (hb hby at_13) rfl (l' := #[.val (.int pI1), .val (.int pI2), .val (.int (3 : Int32)), .val (.int (2 : Int32)), .unset, .unset, .unset]) rfl ?_
    show oS p e below s₁ m 14 #[.val (.int pI1), .val (.int pI2), .val (.int (3 : Int32)), .val (.int (2 : Int32)), .unset, .unset, .unset] [] _
    refine XS.iloadN X0.here hx rfl (hb hby at_14) rfl ?_
    show oS p e below s₁ m 15 #[.val (.int pI1), .val (.int pI2), .val (.int (3 : Int32)), .val (.int (2 : Int32)), .unset, .unset, .unset] [(.int (3 : Int32))] _
    refine st4 _ ?_
    show oS p e below T4 m 18 #[.val (.int pI1), .val (.int pI2), .val (.int (3 : Int32)), .val (.int (2 : Int32)), .unset, .unset, .unset] [(.ref pR3)] _
    refine XS.astore X4.here hx rfl (hb hby at_18) rfl rfl (l' := #[.val (.int pI1), .val (.int pI2), .val (.int (3 : Int32)), .val (.int (2 : Int32)), .val (.ref pR3), .unset, .unset]) rfl ?_
    show oS p e below T4 m 20 #[.val (.int pI1), .val (.int pI2), .val (.int (3 : Int32)), .val (.int (2 : Int32)), .val (.ref pR3), .unset, .unset] [] _
    refine XS.iloadN X4.here hx rfl (hb hby at_20) rfl ?_
    show oS p e below T4 m 21 #[.val (.int pI1), .val (.int pI2), .val (.int (3 : Int32)), .val (.int (2 : Int32)), .val (.ref pR3), .unset, .unset] [(.int (2 : Int32))] _
    refine st6 _ ?_
    show oS p e below T6 m 24 #[.val (.int pI1), .val (.int pI2), .val (.int (3 : Int32)), .val (.int (2 : Int32)), .val (.ref pR3), .unset, .unset] [(.ref pR5)] _
    refine XS.astore X6.here hx rfl (hb hby at_24) rfl rfl (l' := #[.val (.int pI1), .val (.int pI2), .val (.int (3 : Int32)), .val (.int (2 : Int32)), .val (.ref pR3), .val (.ref pR5), .unset]) rfl ?_
    show oS p e below T6 m 26 #[.val (.int pI1), .val (.int pI2), .val (.int (3 : Int32)), .val (.int (2 : Int32)), .val (.ref pR3), .val (.ref pR5), .unset] [] _
    refine XS.iloadN X6.here hx rfl (hb hby at_26) rfl ?_
    show oS p e below T6 m 27 #[.val (.int pI1), .val (.int pI2), .val (.int (3 : Int32)), .val (.int (2 : Int32)), .val (.ref pR3), .val (.ref pR5), .unset] [(.int (2 : Int32))] _
    refine XS.ifYes X6.here hx rfl (pc0 := 27) (pc' := 35) rfl (hb hby at_27) rfl ((if0 _ _).trans (feq (by decide : ¬ ((2 : Int32) = (0 : Int32)))).2) (by decide) (by decide) ?_
    show oS p e below T6 m 35 #[.val (.int pI1), .val (.int pI2), .val (.int (3 : Int32)), .val (.int (2 : Int32)), .val (.ref pR3), .val (.ref pR5), .unset] [] _
    refine XS.iloadN X6.here hx rfl (hb hby at_35) rfl ?_
    show oS p e below T6 m 36 #[.val (.int pI1), .val (.int pI2), .val (.int (3 : Int32)), .val (.int (2 : Int32)), .val (.ref pR3), .val (.ref pR5), .unset] [(.int (2 : Int32))] _
    refine XS.iconst X6.here hx rfl (hb hby at_36) ?_
    show oS p e below T6 m 37 #[.val (.int pI1), .val (.int pI2), .val (.int (3 : Int32)), .val (.int (2 : Int32)), .val (.ref pR3), .val (.ref pR5), .unset] [(.int (1 : Int32)), (.int (2 : Int32))] _
    refine XS.icmpYes X6.here hx rfl (pc0 := 37) (pc' := 45) rfl (hb hby at_37) rfl (feq (by decide : ¬ ((2 : Int32) = (1 : Int32)))).2 (by decide) (by decide) ?_
    show oS p e below T6 m 45 #[.val (.int pI1), .val (.int pI2), .val (.int (3 : Int32)), .val (.int (2 : Int32)), .val (.ref pR3), .val (.ref pR5), .unset] [] _
    refine XS.iloadN X6.here hx rfl (hb hby at_45) rfl ?_
    show oS p e below T6 m 46 #[.val (.int pI1), .val (.int pI2), .val (.int (3 : Int32)), .val (.int (2 : Int32)), .val (.ref pR3), .val (.ref pR5), .unset] [(.int (2 : Int32))] _
    refine XS.iconst X6.here hx rfl (hb hby at_46) ?_
    show oS p e below T6 m 47 #[.val (.int pI1), .val (.int pI2), .val (.int (3 : Int32)), .val (.int (2 : Int32)), .val (.ref pR3), .val (.ref pR5), .unset] [(.int (1 : Int32)), (.int (2 : Int32))] _
    refine XS.icmpYes X6.here hx rfl (pc0 := 47) (pc' := 55) rfl (hb hby at_47) rfl (feq (by decide : ¬ ((2 : Int32) = (1 : Int32)))).2 (by decide) (by decide) ?_
    show oS p e below T6 m 55 #[.val (.int pI1), .val (.int pI2), .val (.int (3 : Int32)), .val (.int (2 : Int32)), .val (.ref pR3), .val (.ref pR5), .unset] [] _
    refine XS.iloadN X6.here hx rfl (hb hby at_55) rfl ?_
    show oS p e below T6 m 56 #[.val (.int pI1), .val (.int pI2), .val (.int (3 : Int32)), .val (.int (2 : Int32)), .val (.ref pR3), .val (.ref pR5), .unset] [(.int (2 : Int32))] _
    refine XS.iconst X6.here hx rfl (hb hby at_56) ?_
    show oS p e below T6 m 57 #[.val (.int pI1), .val (.int pI2), .val (.int (3 : Int32)), .val (.int (2 : Int32)), .val (.ref pR3), .val (.ref pR5), .unset] [(.int (2 : Int32)), (.int (2 : Int32))] _
    refine XS.icmpNo X6.here hx rfl (hb hby at_57) rfl (teq (by decide : (2 : Int32) = (2 : Int32))).2 ?_
    show oS p e below T6 m 60 #[.val (.int pI1), .val (.int pI2), .val (.int (3 : Int32)), .val (.int (2 : Int32)), .val (.ref pR3), .val (.ref pR5), .unset] [] _
    refine XS.iloadN X6.here hx rfl (hb hby at_60) rfl ?_
    show oS p e below T6 m 61 #[.val (.int pI1), .val (.int pI2), .val (.int (3 : Int32)), .val (.int (2 : Int32)), .val (.ref pR3), .val (.ref pR5), .unset] [(.int (3 : Int32))] _
    refine XS.iconst X6.here hx rfl (hb hby at_61) ?_
    show oS p e below T6 m 62 #[.val (.int pI1), .val (.int pI2), .val (.int (3 : Int32)), .val (.int (2 : Int32)), .val (.ref pR3), .val (.ref pR5), .unset] [(.int (3 : Int32)), (.int (3 : Int32))] _
    refine XS.icmpYes X6.here hx rfl (pc0 := 62) (pc' := 95) rfl (hb hby at_62) rfl (teq (by decide : (3 : Int32) = (3 : Int32))).1 (by decide) (by decide) ?_
    show oS p e below T6 m 95 #[.val (.int pI1), .val (.int pI2), .val (.int (3 : Int32)), .val (.int (2 : Int32)), .val (.ref pR3), .val (.ref pR5), .unset] [] _
    refine XS.iconst X6.here hx rfl (hb hby at_95) ?_
    show oS p e below T6 m 96 #[.val (.int pI1), .val (.int pI2), .val (.int (3 : Int32)), .val (.int (2 : Int32)), .val (.ref pR3), .val (.ref pR5), .unset] [(.int (1 : Int32))] _
    refine XS.goto X6.here hx rfl (pc0 := 96) (pc' := 100) rfl (hb hby at_96) (by decide) (by decide) ?_
    show oS p e below T6 m 100 #[.val (.int pI1), .val (.int pI2), .val (.int (3 : Int32)), .val (.int (2 : Int32)), .val (.ref pR3), .val (.ref pR5), .unset] [(.int (1 : Int32))] _
    refine XS.istore X6.here hx rfl (hb hby at_100) rfl (l' := #[.val (.int pI1), .val (.int pI2), .val (.int (3 : Int32)), .val (.int (2 : Int32)), .val (.ref pR3), .val (.ref pR5), .val (.int (1 : Int32))]) rfl ?_
    show oS p e below T6 m 102 #[.val (.int pI1), .val (.int pI2), .val (.int (3 : Int32)), .val (.int (2 : Int32)), .val (.ref pR3), .val (.ref pR5), .val (.int (1 : Int32))] [] _
    refine XS.aload X6.here hx rfl (hb hby at_102) rfl rfl ?_
    show oS p e below T6 m 104 #[.val (.int pI1), .val (.int pI2), .val (.int (3 : Int32)), .val (.int (2 : Int32)), .val (.ref pR3), .val (.ref pR5), .val (.int (1 : Int32))] [(.ref pR3)] _
    refine XS.aload X6.here hx rfl (hb hby at_104) rfl rfl ?_
    show oS p e below T6 m 106 #[.val (.int pI1), .val (.int pI2), .val (.int (3 : Int32)), .val (.int (2 : Int32)), .val (.ref pR3), .val (.ref pR5), .val (.int (1 : Int32))] [(.ref pR5), (.ref pR3)] _
    refine st8.trans ?_
    show oS p e below T8 m 109 #[.val (.int pI1), .val (.int pI2), .val (.int (3 : Int32)), .val (.int (2 : Int32)), .val (.ref pR3), .val (.ref pR5), .val (.int (1 : Int32))] [(.int (1 : Int32))] _
    refine XS.iload X8.here hx rfl (hb hby at_109) rfl ?_
    show oS p e below T8 m 111 #[.val (.int pI1), .val (.int pI2), .val (.int (3 : Int32)), .val (.int (2 : Int32)), .val (.ref pR3), .val (.ref pR5), .val (.int (1 : Int32))] [(.int (1 : Int32)), (.int (1 : Int32))] _
    refine XS.icmpNo X8.here hx rfl (hb hby at_111) rfl (teq (by decide : (1 : Int32) = (1 : Int32))).2 ?_
    show oS p e below T8 m 114 #[.val (.int pI1), .val (.int pI2), .val (.int (3 : Int32)), .val (.int (2 : Int32)), .val (.ref pR3), .val (.ref pR5), .val (.int (1 : Int32))] [] _
    refine XS.iconst X8.here hx rfl (hb hby at_114) ?_
    show oS p e below T8 m 115 #[.val (.int pI1), .val (.int pI2), .val (.int (3 : Int32)), .val (.int (2 : Int32)), .val (.ref pR3), .val (.ref pR5), .val (.int (1 : Int32))] [(.int (1 : Int32))] _
    refine XS.goto X8.here hx rfl (pc0 := 115) (pc' := 119) rfl (hb hby at_115) (by decide) (by decide) ?_
    show oS p e below T8 m 119 #[.val (.int pI1), .val (.int pI2), .val (.int (3 : Int32)), .val (.int (2 : Int32)), .val (.ref pR3), .val (.ref pR5), .val (.int (1 : Int32))] [(.int (1 : Int32))] _
    exact retN X8 hx (t := .boolean) Bd.returns (by simp) (hb hby at_119) hr
  · show Qlaw3_2 Z pI1 pI2 pR3 pR5 pR7 h0 n0 _ T8.heap _
    rw [e8]
    exact ⟨rfl, N8⟩
theorem ef_law3_3 (m : MethodId) (pI1 : Int32) (pI2 : Int32) : entryFrame m #[(.int pI1), (.int pI2)] maxLocals = mkF m 0 #[.val (.int pI1), .val (.int pI2), .unset, .unset, .unset, .unset, .unset] [] := by first | (simp [entryFrame, mkF, argsToLocals, Value.category, maxLocals]; done) | rfl
def Qlaw3_3 (Z : State) (pI1 : Int32) (pI2 : Int32) (pR3 : Addr) (pR6 : Addr) (h0 : Heap) (n0 : Nat) (v : Option Value) (h : Heap) (L : List Loc) : Prop := v = some (.int (1 : Int32)) ∧ Fr n0 L
set_option maxRecDepth 65536 in
set_option maxHeartbeats 40000000 in
theorem law3_3 (l : Launch) (Z : State) (a0 : Array Value) (hw : ∀ d ∈ tables_1, d.before a0 Z = true) (ws : List Jvm.Cond) (pI1 : Int32) (pI2 : Int32) (pR3 : Addr) (pR6 : Addr) (h0 : Heap) (n0 : Nat) (Z0 : n0 ≤ h0.size) (S_OrderSegment_OBX : Sta Z h0 "com/example/vaxwire/vaxwire/reply/OrderSegment" "OBX" "Lcom/example/vaxwire/vaxwire/reply/OrderSegment;" (.ref pR3)) (F_ordinal_pR3 : Fld Z h0 pR3 "java/lang/Enum" "ordinal" "I" (.int (3 : Int32))) (E_pR3 : Exa Z h0 pR3 "com/example/vaxwire/vaxwire/reply/OrderSegment") (S_OrderSegment_ORC : Sta Z h0 "com/example/vaxwire/vaxwire/reply/OrderSegment" "ORC" "Lcom/example/vaxwire/vaxwire/reply/OrderSegment;" (.ref pR6)) (ne_pR3_pR6 : pR3 ≠ pR6) (hc5 : ((pI1 &&& (2147483647 : Int32)) % (5 : Int32)) = (3 : Int32)) (hc12 : ((pI2 &&& (2147483647 : Int32)) % (5 : Int32)) = (3 : Int32)) :
    MetFree l x (head1 (Jvm.Cond.code x code maxLocals ret :: ws) room_1) (fun a U => a = #[(.int pI1), (.int pI2)] ∧ Z.Warmed39 U.vm ∧ U.heap = h0) (fun _ _ _ _ _ => True) (fun _ U o U' => ∃ v L, o = .returned v ∧ Qlaw3_3 Z pI1 pI2 pR3 pR6 h0 n0 v U'.heap L ∧ FrameEnd U o U' L room_1.cells room_1.slots) := by
  refine MetFree.of_bodySF (plainFor_of_name pn_0) hisR ?_
  intro p e s m args below meth c s₁ Bd hml0 hP hK
  obtain ⟨rfl, hZ, hh⟩ := hP
  have hx := Bd.exec
  have hby := Bd.bytes
  have hml : c.maxLocals = 7 := hml0
  have hown : s.vm.findClass "com/example/vaxwire/vaxwire/reply/OrderSegmentMayFollowPinLaw" = some m.cls := findClass_of_methodNamed Bd.named
  have hnm := (name_of_methodNamed Bd.named Bd.method).1
  have X0 : Stand p l e room_1 s m #[(.int pI1), (.int pI2)] below meth c s₁ [] 0 0 := Stand.of_body Bd
  have e0 : s₁.heap = h0 := by rw [← hh, Bd.state]; rfl
  have N0 := Fr.nil n0
  have pre0 : ∀ t, Steps p.tables e below (s₁.setTop (mkF m 0 #[.val (.int pI1), .val (.int pI2), .unset, .unset, .unset, .unset, .unset] [])) t → Steps p.tables e below (s₁.setTop (entryFrame m #[(.int pI1), (.int pI2)] maxLocals)) t := fun t k => castTop (ef_law3_3 m pI1 pI2) k
  obtain ⟨_, _, ⟨T4, L4, k4, n4⟩, -, X4, ⟨Lc4, hQ4, l4, y4, z4⟩, st4⟩ := Jvm.LawKit.callS X0 hx (y := yN0) hown (mvT hZ (ow hw 1 rfl)) (mvT hZ (ow hw 2 rfl)) (mvT hZ (ow hw 3 rfl)) (mvT hZ (ow hw 4 rfl)) (by decide) (backOf (W := 0) (pick3 l Z a0 hw [] pR3 h0 n0 Z0 S_OrderSegment_OBX) hZ (ow hw 4 rfl) (ow hw 3 rfl) (by decide) (by decide)) (g := (mkF m 15 #[.val (.int pI1), .val (.int pI2), .val (.int (3 : Int32)), .val (.int (3 : Int32)), .unset, .unset, .unset] [(.int (3 : Int32))])) rfl (by rw [hml]; rfl) (argsL := [(.int (3 : Int32))]) (rest := []) (lenOf pd_1 rfl) rfl (by show 2 * 0 + _ ≤ _; exact Nat.le_of_eq rfl) (hb hby at_15) (fun _ _ => ⟨rfl, e0, (by decide : 0 + 0 ≤ _), (by decide : 0 + 0 ≤ _)⟩)
  dsimp only [Pt.U, Pt.locs, Pt.cells, Pt.slots] at X4 l4 y4 z4 st4 hQ4
  subst l4 y4 z4
  obtain ⟨rfl, Nq4, e4⟩ := hQ4
  have N4 := Fr.app N0 Nq4
  obtain ⟨_, _, ⟨T5, L5, k5, n5⟩, -, X5, ⟨Lc5, hQ5, l5, y5, z5⟩, st5⟩ := Jvm.LawKit.callS X4 hx (y := yN0) hown (mvT hZ (ow hw 1 rfl)) (mvT hZ (ow hw 2 rfl)) (mvT hZ (ow hw 3 rfl)) (mvT hZ (ow hw 4 rfl)) (by decide) (backOf (W := 0) (pick3 l Z a0 hw [] pR3 h0 n0 Z0 S_OrderSegment_OBX) hZ (ow hw 4 rfl) (ow hw 3 rfl) (by decide) (by decide)) (g := (mkF m 21 #[.val (.int pI1), .val (.int pI2), .val (.int (3 : Int32)), .val (.int (3 : Int32)), .val (.ref pR3), .unset, .unset] [(.int (3 : Int32))])) rfl (by rw [hml]; rfl) (argsL := [(.int (3 : Int32))]) (rest := []) (lenOf pd_1 rfl) rfl (by show 2 * 0 + _ ≤ _; exact Nat.le_of_eq rfl) (hb hby at_21) (fun _ _ => ⟨rfl, e4, (by decide : 0 + 0 ≤ _), (by decide : 0 + 0 ≤ _)⟩)
  dsimp only [Pt.U, Pt.locs, Pt.cells, Pt.slots] at X5 l5 y5 z5 st5 hQ5
  subst l5 y5 z5
  obtain ⟨rfl, Nq5, e5⟩ := hQ5
  have N5 := Fr.app N4 Nq5
  obtain ⟨cq7, kq7, q7a, q7b, q7c⟩ := isOf hZ e5 E_pR3
  obtain ⟨_, _, ⟨T7, L7, k7, n7⟩, -, X7, ⟨Lc7, hQ7, l7, y7, z7⟩, st7⟩ := X5.virtualBack hx (y := yN3) (z := yN3) hown (mvT hZ (ow hw 10 rfl)) (mvT hZ (ow hw 11 rfl)) (notFace_of_selects (args := #[]) (mvT hZ (ow hw 13 rfl))) (mvT hZ (ow hw 13 rfl)) (mvT hZ (ow hw 12 rfl)) (by decide) (backOf (W := 0) (mf3d l Z a0 hw [] pR3 pR3 pR6 h0 n0 Z0 F_ordinal_pR3 E_pR3 S_OrderSegment_ORC ne_pR3_pR6) hZ (ow hw 14 rfl) (ow hw 6 rfl) (by decide) (by decide)) q7a q7c (g := (mkF m 106 #[.val (.int pI1), .val (.int pI2), .val (.int (3 : Int32)), .val (.int (3 : Int32)), .val (.ref pR3), .val (.ref pR3), .val (.int (1 : Int32))] [(.ref pR3), (.ref pR3)])) rfl (by rw [hml]; rfl) (Steps.refl _) (argsL := [(.ref pR3)]) (rest := []) (lenOf pd_2 rfl) rfl (by show 2 * 0 + _ ≤ _; exact Nat.le_of_eq rfl) (hb hby at_106) (fun _ _ => ⟨rfl, e5, (by decide : 0 + 0 ≤ _), (by decide : 0 + 0 ≤ _)⟩)
  dsimp only [Pt.U, Pt.locs, Pt.cells, Pt.slots] at X7 l7 y7 z7 st7 hQ7
  subst l7 y7 z7
  obtain ⟨rfl, Nq7, e7⟩ := hQ7
  have N7 := Fr.app N5 Nq7
  obtain ⟨fs, hr, hrun, hended, hW, hsame⟩ := X7.leave (v := some (.int (1 : Int32))) (fun h => by rw [Bd.returns] at h; cases h)
  refine ⟨_, _, pre0 _ ?_, hrun, hended, _, _, rfl, ?_, ⟨_, rfl⟩, hW, hsame.mono (by decide) (by decide)⟩
  · show oS p e below s₁ m 0 #[.val (.int pI1), .val (.int pI2), .unset, .unset, .unset, .unset, .unset] [] _
    refine XS.iloadN X0.here hx rfl (hb hby at_0) rfl ?_
    show oS p e below s₁ m 1 #[.val (.int pI1), .val (.int pI2), .unset, .unset, .unset, .unset, .unset] [(.int pI1)] _
    refine X0.ldcInt hx hown (mvT hZ (ow hw 0 rfl)) (g := (mkF m 1 #[.val (.int pI1), .val (.int pI2), .unset, .unset, .unset, .unset, .unset] [(.int pI1)])) rfl (hb hby at_1) _ ?_
    show oS p e below s₁ m 3 #[.val (.int pI1), .val (.int pI2), .unset, .unset, .unset, .unset, .unset] [(.int (2147483647 : Int32)), (.int pI1)] _
    refine XS.iand X0.here hx rfl (hb hby at_3) rfl ?_
    show oS p e below s₁ m 4 #[.val (.int pI1), .val (.int pI2), .unset, .unset, .unset, .unset, .unset] [(.int (pI1 &&& (2147483647 : Int32)))] _
    refine XS.iconst X0.here hx rfl (hb hby at_4) ?_
    show oS p e below s₁ m 5 #[.val (.int pI1), .val (.int pI2), .unset, .unset, .unset, .unset, .unset] [(.int (5 : Int32)), (.int (pI1 &&& (2147483647 : Int32)))] _
    refine iremM (g := (mkF m 5 #[.val (.int pI1), .val (.int pI2), .unset, .unset, .unset, .unset, .unset] [(.int (5 : Int32)), (.int (pI1 &&& (2147483647 : Int32)))])) X0 hx rfl (hb hby at_5) rfl (by decide) ?_
    show Steps p.tables e below (s₁.setTop (mkF m 6 #[.val (.int pI1), .val (.int pI2), .unset, .unset, .unset, .unset, .unset] [(.int ((pI1 &&& (2147483647 : Int32)) % (5 : Int32)))])) _
    rw [hc5]
    show oS p e below s₁ m 6 #[.val (.int pI1), .val (.int pI2), .unset, .unset, .unset, .unset, .unset] [(.int (3 : Int32))] _
    refine XS.istoreN X0.here hx rfl (hb hby at_6) rfl (l' := #[.val (.int pI1), .val (.int pI2), .val (.int (3 : Int32)), .unset, .unset, .unset, .unset]) rfl ?_
    show oS p e below s₁ m 7 #[.val (.int pI1), .val (.int pI2), .val (.int (3 : Int32)), .unset, .unset, .unset, .unset] [] _
    refine XS.iloadN X0.here hx rfl (hb hby at_7) rfl ?_
    show oS p e below s₁ m 8 #[.val (.int pI1), .val (.int pI2), .val (.int (3 : Int32)), .unset, .unset, .unset, .unset] [(.int pI2)] _
    refine X0.ldcInt hx hown (mvT hZ (ow hw 0 rfl)) (g := (mkF m 8 #[.val (.int pI1), .val (.int pI2), .val (.int (3 : Int32)), .unset, .unset, .unset, .unset] [(.int pI2)])) rfl (hb hby at_8) _ ?_
    show oS p e below s₁ m 10 #[.val (.int pI1), .val (.int pI2), .val (.int (3 : Int32)), .unset, .unset, .unset, .unset] [(.int (2147483647 : Int32)), (.int pI2)] _
    refine XS.iand X0.here hx rfl (hb hby at_10) rfl ?_
    show oS p e below s₁ m 11 #[.val (.int pI1), .val (.int pI2), .val (.int (3 : Int32)), .unset, .unset, .unset, .unset] [(.int (pI2 &&& (2147483647 : Int32)))] _
    refine XS.iconst X0.here hx rfl (hb hby at_11) ?_
    show oS p e below s₁ m 12 #[.val (.int pI1), .val (.int pI2), .val (.int (3 : Int32)), .unset, .unset, .unset, .unset] [(.int (5 : Int32)), (.int (pI2 &&& (2147483647 : Int32)))] _
    refine iremM (g := (mkF m 12 #[.val (.int pI1), .val (.int pI2), .val (.int (3 : Int32)), .unset, .unset, .unset, .unset] [(.int (5 : Int32)), (.int (pI2 &&& (2147483647 : Int32)))])) X0 hx rfl (hb hby at_12) rfl (by decide) ?_
    show Steps p.tables e below (s₁.setTop (mkF m 13 #[.val (.int pI1), .val (.int pI2), .val (.int (3 : Int32)), .unset, .unset, .unset, .unset] [(.int ((pI2 &&& (2147483647 : Int32)) % (5 : Int32)))])) _
    rw [hc12]
    show oS p e below s₁ m 13 #[.val (.int pI1), .val (.int pI2), .val (.int (3 : Int32)), .unset, .unset, .unset, .unset] [(.int (3 : Int32))] _
    refine XS.istoreN X0.here hx rfl (hb hby at_13) rfl (l' := #[.val (.int pI1), .val (.int pI2), .val (.int (3 : Int32)), .val (.int (3 : Int32)), .unset, .unset, .unset]) rfl ?_
    show oS p e below s₁ m 14 #[.val (.int pI1), .val (.int pI2), .val (.int (3 : Int32)), .val (.int (3 : Int32)), .unset, .unset, .unset] [] _
    refine XS.iloadN X0.here hx rfl (hb hby at_14) rfl ?_
    show oS p e below s₁ m 15 #[.val (.int pI1), .val (.int pI2), .val (.int (3 : Int32)), .val (.int (3 : Int32)), .unset, .unset, .unset] [(.int (3 : Int32))] _
    refine st4 _ ?_
    show oS p e below T4 m 18 #[.val (.int pI1), .val (.int pI2), .val (.int (3 : Int32)), .val (.int (3 : Int32)), .unset, .unset, .unset] [(.ref pR3)] _
    refine XS.astore X4.here hx rfl (hb hby at_18) rfl rfl (l' := #[.val (.int pI1), .val (.int pI2), .val (.int (3 : Int32)), .val (.int (3 : Int32)), .val (.ref pR3), .unset, .unset]) rfl ?_
    show oS p e below T4 m 20 #[.val (.int pI1), .val (.int pI2), .val (.int (3 : Int32)), .val (.int (3 : Int32)), .val (.ref pR3), .unset, .unset] [] _
    refine XS.iloadN X4.here hx rfl (hb hby at_20) rfl ?_
    show oS p e below T4 m 21 #[.val (.int pI1), .val (.int pI2), .val (.int (3 : Int32)), .val (.int (3 : Int32)), .val (.ref pR3), .unset, .unset] [(.int (3 : Int32))] _
    refine st5 _ ?_
    show oS p e below T5 m 24 #[.val (.int pI1), .val (.int pI2), .val (.int (3 : Int32)), .val (.int (3 : Int32)), .val (.ref pR3), .unset, .unset] [(.ref pR3)] _
    refine XS.astore X5.here hx rfl (hb hby at_24) rfl rfl (l' := #[.val (.int pI1), .val (.int pI2), .val (.int (3 : Int32)), .val (.int (3 : Int32)), .val (.ref pR3), .val (.ref pR3), .unset]) rfl ?_
    show oS p e below T5 m 26 #[.val (.int pI1), .val (.int pI2), .val (.int (3 : Int32)), .val (.int (3 : Int32)), .val (.ref pR3), .val (.ref pR3), .unset] [] _
    refine XS.iloadN X5.here hx rfl (hb hby at_26) rfl ?_
    show oS p e below T5 m 27 #[.val (.int pI1), .val (.int pI2), .val (.int (3 : Int32)), .val (.int (3 : Int32)), .val (.ref pR3), .val (.ref pR3), .unset] [(.int (3 : Int32))] _
    refine XS.ifYes X5.here hx rfl (pc0 := 27) (pc' := 35) rfl (hb hby at_27) rfl ((if0 _ _).trans (feq (by decide : ¬ ((3 : Int32) = (0 : Int32)))).2) (by decide) (by decide) ?_
    show oS p e below T5 m 35 #[.val (.int pI1), .val (.int pI2), .val (.int (3 : Int32)), .val (.int (3 : Int32)), .val (.ref pR3), .val (.ref pR3), .unset] [] _
    refine XS.iloadN X5.here hx rfl (hb hby at_35) rfl ?_
    show oS p e below T5 m 36 #[.val (.int pI1), .val (.int pI2), .val (.int (3 : Int32)), .val (.int (3 : Int32)), .val (.ref pR3), .val (.ref pR3), .unset] [(.int (3 : Int32))] _
    refine XS.iconst X5.here hx rfl (hb hby at_36) ?_
    show oS p e below T5 m 37 #[.val (.int pI1), .val (.int pI2), .val (.int (3 : Int32)), .val (.int (3 : Int32)), .val (.ref pR3), .val (.ref pR3), .unset] [(.int (1 : Int32)), (.int (3 : Int32))] _
    refine XS.icmpYes X5.here hx rfl (pc0 := 37) (pc' := 45) rfl (hb hby at_37) rfl (feq (by decide : ¬ ((3 : Int32) = (1 : Int32)))).2 (by decide) (by decide) ?_
    show oS p e below T5 m 45 #[.val (.int pI1), .val (.int pI2), .val (.int (3 : Int32)), .val (.int (3 : Int32)), .val (.ref pR3), .val (.ref pR3), .unset] [] _
    refine XS.iloadN X5.here hx rfl (hb hby at_45) rfl ?_
    show oS p e below T5 m 46 #[.val (.int pI1), .val (.int pI2), .val (.int (3 : Int32)), .val (.int (3 : Int32)), .val (.ref pR3), .val (.ref pR3), .unset] [(.int (3 : Int32))] _
    refine XS.iconst X5.here hx rfl (hb hby at_46) ?_
    show oS p e below T5 m 47 #[.val (.int pI1), .val (.int pI2), .val (.int (3 : Int32)), .val (.int (3 : Int32)), .val (.ref pR3), .val (.ref pR3), .unset] [(.int (1 : Int32)), (.int (3 : Int32))] _
    refine XS.icmpYes X5.here hx rfl (pc0 := 47) (pc' := 55) rfl (hb hby at_47) rfl (feq (by decide : ¬ ((3 : Int32) = (1 : Int32)))).2 (by decide) (by decide) ?_
    show oS p e below T5 m 55 #[.val (.int pI1), .val (.int pI2), .val (.int (3 : Int32)), .val (.int (3 : Int32)), .val (.ref pR3), .val (.ref pR3), .unset] [] _
    refine XS.iloadN X5.here hx rfl (hb hby at_55) rfl ?_
    show oS p e below T5 m 56 #[.val (.int pI1), .val (.int pI2), .val (.int (3 : Int32)), .val (.int (3 : Int32)), .val (.ref pR3), .val (.ref pR3), .unset] [(.int (3 : Int32))] _
    refine XS.iconst X5.here hx rfl (hb hby at_56) ?_
    show oS p e below T5 m 57 #[.val (.int pI1), .val (.int pI2), .val (.int (3 : Int32)), .val (.int (3 : Int32)), .val (.ref pR3), .val (.ref pR3), .unset] [(.int (2 : Int32)), (.int (3 : Int32))] _
    refine XS.icmpYes X5.here hx rfl (pc0 := 57) (pc' := 65) rfl (hb hby at_57) rfl (feq (by decide : ¬ ((3 : Int32) = (2 : Int32)))).2 (by decide) (by decide) ?_
    show oS p e below T5 m 65 #[.val (.int pI1), .val (.int pI2), .val (.int (3 : Int32)), .val (.int (3 : Int32)), .val (.ref pR3), .val (.ref pR3), .unset] [] _
    refine XS.iloadN X5.here hx rfl (hb hby at_65) rfl ?_
    show oS p e below T5 m 66 #[.val (.int pI1), .val (.int pI2), .val (.int (3 : Int32)), .val (.int (3 : Int32)), .val (.ref pR3), .val (.ref pR3), .unset] [(.int (3 : Int32))] _
    refine XS.iconst X5.here hx rfl (hb hby at_66) ?_
    show oS p e below T5 m 67 #[.val (.int pI1), .val (.int pI2), .val (.int (3 : Int32)), .val (.int (3 : Int32)), .val (.ref pR3), .val (.ref pR3), .unset] [(.int (3 : Int32)), (.int (3 : Int32))] _
    refine XS.icmpNo X5.here hx rfl (hb hby at_67) rfl (teq (by decide : (3 : Int32) = (3 : Int32))).2 ?_
    show oS p e below T5 m 70 #[.val (.int pI1), .val (.int pI2), .val (.int (3 : Int32)), .val (.int (3 : Int32)), .val (.ref pR3), .val (.ref pR3), .unset] [] _
    refine XS.iloadN X5.here hx rfl (hb hby at_70) rfl ?_
    show oS p e below T5 m 71 #[.val (.int pI1), .val (.int pI2), .val (.int (3 : Int32)), .val (.int (3 : Int32)), .val (.ref pR3), .val (.ref pR3), .unset] [(.int (3 : Int32))] _
    refine XS.iconst X5.here hx rfl (hb hby at_71) ?_
    show oS p e below T5 m 72 #[.val (.int pI1), .val (.int pI2), .val (.int (3 : Int32)), .val (.int (3 : Int32)), .val (.ref pR3), .val (.ref pR3), .unset] [(.int (3 : Int32)), (.int (3 : Int32))] _
    refine XS.icmpYes X5.here hx rfl (pc0 := 72) (pc' := 95) rfl (hb hby at_72) rfl (teq (by decide : (3 : Int32) = (3 : Int32))).1 (by decide) (by decide) ?_
    show oS p e below T5 m 95 #[.val (.int pI1), .val (.int pI2), .val (.int (3 : Int32)), .val (.int (3 : Int32)), .val (.ref pR3), .val (.ref pR3), .unset] [] _
    refine XS.iconst X5.here hx rfl (hb hby at_95) ?_
    show oS p e below T5 m 96 #[.val (.int pI1), .val (.int pI2), .val (.int (3 : Int32)), .val (.int (3 : Int32)), .val (.ref pR3), .val (.ref pR3), .unset] [(.int (1 : Int32))] _
    refine XS.goto X5.here hx rfl (pc0 := 96) (pc' := 100) rfl (hb hby at_96) (by decide) (by decide) ?_
    show oS p e below T5 m 100 #[.val (.int pI1), .val (.int pI2), .val (.int (3 : Int32)), .val (.int (3 : Int32)), .val (.ref pR3), .val (.ref pR3), .unset] [(.int (1 : Int32))] _
    refine XS.istore X5.here hx rfl (hb hby at_100) rfl (l' := #[.val (.int pI1), .val (.int pI2), .val (.int (3 : Int32)), .val (.int (3 : Int32)), .val (.ref pR3), .val (.ref pR3), .val (.int (1 : Int32))]) rfl ?_
    show oS p e below T5 m 102 #[.val (.int pI1), .val (.int pI2), .val (.int (3 : Int32)), .val (.int (3 : Int32)), .val (.ref pR3), .val (.ref pR3), .val (.int (1 : Int32))] [] _
    refine XS.aload X5.here hx rfl (hb hby at_102) rfl rfl ?_
    show oS p e below T5 m 104 #[.val (.int pI1), .val (.int pI2), .val (.int (3 : Int32)), .val (.int (3 : Int32)), .val (.ref pR3), .val (.ref pR3), .val (.int (1 : Int32))] [(.ref pR3)] _
    refine XS.aload X5.here hx rfl (hb hby at_104) rfl rfl ?_
    show oS p e below T5 m 106 #[.val (.int pI1), .val (.int pI2), .val (.int (3 : Int32)), .val (.int (3 : Int32)), .val (.ref pR3), .val (.ref pR3), .val (.int (1 : Int32))] [(.ref pR3), (.ref pR3)] _
    refine st7.trans ?_
    show oS p e below T7 m 109 #[.val (.int pI1), .val (.int pI2), .val (.int (3 : Int32)), .val (.int (3 : Int32)), .val (.ref pR3), .val (.ref pR3), .val (.int (1 : Int32))] [(.int (1 : Int32))] _
    refine XS.iload X7.here hx rfl (hb hby at_109) rfl ?_
    show oS p e below T7 m 111 #[.val (.int pI1), .val (.int pI2), .val (.int (3 : Int32)), .val (.int (3 : Int32)), .val (.ref pR3), .val (.ref pR3), .val (.int (1 : Int32))] [(.int (1 : Int32)), (.int (1 : Int32))] _
    refine XS.icmpNo X7.here hx rfl (hb hby at_111) rfl (teq (by decide : (1 : Int32) = (1 : Int32))).2 ?_
    show oS p e below T7 m 114 #[.val (.int pI1), .val (.int pI2), .val (.int (3 : Int32)), .val (.int (3 : Int32)), .val (.ref pR3), .val (.ref pR3), .val (.int (1 : Int32))] [] _
    refine XS.iconst X7.here hx rfl (hb hby at_114) ?_
    show oS p e below T7 m 115 #[.val (.int pI1), .val (.int pI2), .val (.int (3 : Int32)), .val (.int (3 : Int32)), .val (.ref pR3), .val (.ref pR3), .val (.int (1 : Int32))] [(.int (1 : Int32))] _
    refine XS.goto X7.here hx rfl (pc0 := 115) (pc' := 119) rfl (hb hby at_115) (by decide) (by decide) ?_
    show oS p e below T7 m 119 #[.val (.int pI1), .val (.int pI2), .val (.int (3 : Int32)), .val (.int (3 : Int32)), .val (.ref pR3), .val (.ref pR3), .val (.int (1 : Int32))] [(.int (1 : Int32))] _
    exact retN X7 hx (t := .boolean) Bd.returns (by simp) (hb hby at_119) hr
  · show Qlaw3_3 Z pI1 pI2 pR3 pR6 h0 n0 _ T7.heap _
    rw [e7]
    exact ⟨rfl, N7⟩
theorem ef_law3_4 (m : MethodId) (pI1 : Int32) (pI2 : Int32) : entryFrame m #[(.int pI1), (.int pI2)] maxLocals = mkF m 0 #[.val (.int pI1), .val (.int pI2), .unset, .unset, .unset, .unset, .unset] [] := by first | (simp [entryFrame, mkF, argsToLocals, Value.category, maxLocals]; done) | rfl
def Qlaw3_4 (Z : State) (pI1 : Int32) (pI2 : Int32) (pR3 : Addr) (pR5 : Addr) (pR7 : Addr) (h0 : Heap) (n0 : Nat) (v : Option Value) (h : Heap) (L : List Loc) : Prop := v = some (.int (1 : Int32)) ∧ Fr n0 L
set_option maxRecDepth 65536 in
set_option maxHeartbeats 40000000 in
theorem law3_4 (l : Launch) (Z : State) (a0 : Array Value) (hw : ∀ d ∈ tables_1, d.before a0 Z = true) (ws : List Jvm.Cond) (pI1 : Int32) (pI2 : Int32) (pR3 : Addr) (pR5 : Addr) (pR7 : Addr) (h0 : Heap) (n0 : Nat) (Z0 : n0 ≤ h0.size) (S_OrderSegment_OBX : Sta Z h0 "com/example/vaxwire/vaxwire/reply/OrderSegment" "OBX" "Lcom/example/vaxwire/vaxwire/reply/OrderSegment;" (.ref pR3)) (S_OrderSegment_NTE : Sta Z h0 "com/example/vaxwire/vaxwire/reply/OrderSegment" "NTE" "Lcom/example/vaxwire/vaxwire/reply/OrderSegment;" (.ref pR5)) (F_ordinal_pR3 : Fld Z h0 pR3 "java/lang/Enum" "ordinal" "I" (.int (3 : Int32))) (E_pR3 : Exa Z h0 pR3 "com/example/vaxwire/vaxwire/reply/OrderSegment") (S_OrderSegment_ORC : Sta Z h0 "com/example/vaxwire/vaxwire/reply/OrderSegment" "ORC" "Lcom/example/vaxwire/vaxwire/reply/OrderSegment;" (.ref pR7)) (ne_pR5_pR7 : pR5 ≠ pR7) (hc5 : ((pI1 &&& (2147483647 : Int32)) % (5 : Int32)) = (3 : Int32)) (hc12 : ((pI2 &&& (2147483647 : Int32)) % (5 : Int32)) = (4 : Int32)) :
    MetFree l x (head1 (Jvm.Cond.code x code maxLocals ret :: ws) room_1) (fun a U => a = #[(.int pI1), (.int pI2)] ∧ Z.Warmed39 U.vm ∧ U.heap = h0) (fun _ _ _ _ _ => True) (fun _ U o U' => ∃ v L, o = .returned v ∧ Qlaw3_4 Z pI1 pI2 pR3 pR5 pR7 h0 n0 v U'.heap L ∧ FrameEnd U o U' L room_1.cells room_1.slots) := by
  refine MetFree.of_bodySF (plainFor_of_name pn_0) hisR ?_
  intro p e s m args below meth c s₁ Bd hml0 hP hK
  obtain ⟨rfl, hZ, hh⟩ := hP
  have hx := Bd.exec
  have hby := Bd.bytes
  have hml : c.maxLocals = 7 := hml0
  have hown : s.vm.findClass "com/example/vaxwire/vaxwire/reply/OrderSegmentMayFollowPinLaw" = some m.cls := findClass_of_methodNamed Bd.named
  have hnm := (name_of_methodNamed Bd.named Bd.method).1
  have X0 : Stand p l e room_1 s m #[(.int pI1), (.int pI2)] below meth c s₁ [] 0 0 := Stand.of_body Bd
  have e0 : s₁.heap = h0 := by rw [← hh, Bd.state]; rfl
  have N0 := Fr.nil n0
  have pre0 : ∀ t, Steps p.tables e below (s₁.setTop (mkF m 0 #[.val (.int pI1), .val (.int pI2), .unset, .unset, .unset, .unset, .unset] [])) t → Steps p.tables e below (s₁.setTop (entryFrame m #[(.int pI1), (.int pI2)] maxLocals)) t := fun t k => castTop (ef_law3_4 m pI1 pI2) k
  obtain ⟨_, _, ⟨T4, L4, k4, n4⟩, -, X4, ⟨Lc4, hQ4, l4, y4, z4⟩, st4⟩ := Jvm.LawKit.callS X0 hx (y := yN0) hown (mvT hZ (ow hw 1 rfl)) (mvT hZ (ow hw 2 rfl)) (mvT hZ (ow hw 3 rfl)) (mvT hZ (ow hw 4 rfl)) (by decide) (backOf (W := 0) (pick3 l Z a0 hw [] pR3 h0 n0 Z0 S_OrderSegment_OBX) hZ (ow hw 4 rfl) (ow hw 3 rfl) (by decide) (by decide)) (g := (mkF m 15 #[.val (.int pI1), .val (.int pI2), .val (.int (3 : Int32)), .val (.int (4 : Int32)), .unset, .unset, .unset] [(.int (3 : Int32))])) rfl (by rw [hml]; rfl) (argsL := [(.int (3 : Int32))]) (rest := []) (lenOf pd_1 rfl) rfl (by show 2 * 0 + _ ≤ _; exact Nat.le_of_eq rfl) (hb hby at_15) (fun _ _ => ⟨rfl, e0, (by decide : 0 + 0 ≤ _), (by decide : 0 + 0 ≤ _)⟩)
  dsimp only [Pt.U, Pt.locs, Pt.cells, Pt.slots] at X4 l4 y4 z4 st4 hQ4
  subst l4 y4 z4
  obtain ⟨rfl, Nq4, e4⟩ := hQ4
  have N4 := Fr.app N0 Nq4
  obtain ⟨_, _, ⟨T6, L6, k6, n6⟩, -, X6, ⟨Lc6, hQ6, l6, y6, z6⟩, st6⟩ := Jvm.LawKit.callS X4 hx (y := yN0) hown (mvT hZ (ow hw 1 rfl)) (mvT hZ (ow hw 2 rfl)) (mvT hZ (ow hw 3 rfl)) (mvT hZ (ow hw 4 rfl)) (by decide) (backOf (W := 0) (pick4 l Z a0 hw [] pR5 h0 n0 Z0 S_OrderSegment_NTE) hZ (ow hw 4 rfl) (ow hw 3 rfl) (by decide) (by decide)) (g := (mkF m 21 #[.val (.int pI1), .val (.int pI2), .val (.int (3 : Int32)), .val (.int (4 : Int32)), .val (.ref pR3), .unset, .unset] [(.int (4 : Int32))])) rfl (by rw [hml]; rfl) (argsL := [(.int (4 : Int32))]) (rest := []) (lenOf pd_1 rfl) rfl (by show 2 * 0 + _ ≤ _; exact Nat.le_of_eq rfl) (hb hby at_21) (fun _ _ => ⟨rfl, e4, (by decide : 0 + 0 ≤ _), (by decide : 0 + 0 ≤ _)⟩)
  dsimp only [Pt.U, Pt.locs, Pt.cells, Pt.slots] at X6 l6 y6 z6 st6 hQ6
  subst l6 y6 z6
  obtain ⟨rfl, Nq6, e6⟩ := hQ6
  have N6 := Fr.app N4 Nq6
  obtain ⟨cq8, kq8, q8a, q8b, q8c⟩ := isOf hZ e6 E_pR3
  obtain ⟨_, _, ⟨T8, L8, k8, n8⟩, -, X8, ⟨Lc8, hQ8, l8, y8, z8⟩, st8⟩ := X6.virtualBack hx (y := yN3) (z := yN3) hown (mvT hZ (ow hw 10 rfl)) (mvT hZ (ow hw 11 rfl)) (notFace_of_selects (args := #[]) (mvT hZ (ow hw 13 rfl))) (mvT hZ (ow hw 13 rfl)) (mvT hZ (ow hw 12 rfl)) (by decide) (backOf (W := 0) (mf3d l Z a0 hw [] pR3 pR5 pR7 h0 n0 Z0 F_ordinal_pR3 E_pR3 S_OrderSegment_ORC ne_pR5_pR7) hZ (ow hw 14 rfl) (ow hw 6 rfl) (by decide) (by decide)) q8a q8c (g := (mkF m 106 #[.val (.int pI1), .val (.int pI2), .val (.int (3 : Int32)), .val (.int (4 : Int32)), .val (.ref pR3), .val (.ref pR5), .val (.int (1 : Int32))] [(.ref pR5), (.ref pR3)])) rfl (by rw [hml]; rfl) (Steps.refl _) (argsL := [(.ref pR5)]) (rest := []) (lenOf pd_2 rfl) rfl (by show 2 * 0 + _ ≤ _; exact Nat.le_of_eq rfl) (hb hby at_106) (fun _ _ => ⟨rfl, e6, (by decide : 0 + 0 ≤ _), (by decide : 0 + 0 ≤ _)⟩)
  dsimp only [Pt.U, Pt.locs, Pt.cells, Pt.slots] at X8 l8 y8 z8 st8 hQ8
  subst l8 y8 z8
  obtain ⟨rfl, Nq8, e8⟩ := hQ8
  have N8 := Fr.app N6 Nq8
  obtain ⟨fs, hr, hrun, hended, hW, hsame⟩ := X8.leave (v := some (.int (1 : Int32))) (fun h => by rw [Bd.returns] at h; cases h)
  refine ⟨_, _, pre0 _ ?_, hrun, hended, _, _, rfl, ?_, ⟨_, rfl⟩, hW, hsame.mono (by decide) (by decide)⟩
  · show oS p e below s₁ m 0 #[.val (.int pI1), .val (.int pI2), .unset, .unset, .unset, .unset, .unset] [] _
    refine XS.iloadN X0.here hx rfl (hb hby at_0) rfl ?_
    show oS p e below s₁ m 1 #[.val (.int pI1), .val (.int pI2), .unset, .unset, .unset, .unset, .unset] [(.int pI1)] _
    refine X0.ldcInt hx hown (mvT hZ (ow hw 0 rfl)) (g := (mkF m 1 #[.val (.int pI1), .val (.int pI2), .unset, .unset, .unset, .unset, .unset] [(.int pI1)])) rfl (hb hby at_1) _ ?_
    show oS p e below s₁ m 3 #[.val (.int pI1), .val (.int pI2), .unset, .unset, .unset, .unset, .unset] [(.int (2147483647 : Int32)), (.int pI1)] _
    refine XS.iand X0.here hx rfl (hb hby at_3) rfl ?_
    show oS p e below s₁ m 4 #[.val (.int pI1), .val (.int pI2), .unset, .unset, .unset, .unset, .unset] [(.int (pI1 &&& (2147483647 : Int32)))] _
    refine XS.iconst X0.here hx rfl (hb hby at_4) ?_
    show oS p e below s₁ m 5 #[.val (.int pI1), .val (.int pI2), .unset, .unset, .unset, .unset, .unset] [(.int (5 : Int32)), (.int (pI1 &&& (2147483647 : Int32)))] _
    refine iremM (g := (mkF m 5 #[.val (.int pI1), .val (.int pI2), .unset, .unset, .unset, .unset, .unset] [(.int (5 : Int32)), (.int (pI1 &&& (2147483647 : Int32)))])) X0 hx rfl (hb hby at_5) rfl (by decide) ?_
    show Steps p.tables e below (s₁.setTop (mkF m 6 #[.val (.int pI1), .val (.int pI2), .unset, .unset, .unset, .unset, .unset] [(.int ((pI1 &&& (2147483647 : Int32)) % (5 : Int32)))])) _
    rw [hc5]
    show oS p e below s₁ m 6 #[.val (.int pI1), .val (.int pI2), .unset, .unset, .unset, .unset, .unset] [(.int (3 : Int32))] _
    refine XS.istoreN X0.here hx rfl (hb hby at_6) rfl (l' := #[.val (.int pI1), .val (.int pI2), .val (.int (3 : Int32)), .unset, .unset, .unset, .unset]) rfl ?_
    show oS p e below s₁ m 7 #[.val (.int pI1), .val (.int pI2), .val (.int (3 : Int32)), .unset, .unset, .unset, .unset] [] _
    refine XS.iloadN X0.here hx rfl (hb hby at_7) rfl ?_
    show oS p e below s₁ m 8 #[.val (.int pI1), .val (.int pI2), .val (.int (3 : Int32)), .unset, .unset, .unset, .unset] [(.int pI2)] _
    refine X0.ldcInt hx hown (mvT hZ (ow hw 0 rfl)) (g := (mkF m 8 #[.val (.int pI1), .val (.int pI2), .val (.int (3 : Int32)), .unset, .unset, .unset, .unset] [(.int pI2)])) rfl (hb hby at_8) _ ?_
    show oS p e below s₁ m 10 #[.val (.int pI1), .val (.int pI2), .val (.int (3 : Int32)), .unset, .unset, .unset, .unset] [(.int (2147483647 : Int32)), (.int pI2)] _
    refine XS.iand X0.here hx rfl (hb hby at_10) rfl ?_
    show oS p e below s₁ m 11 #[.val (.int pI1), .val (.int pI2), .val (.int (3 : Int32)), .unset, .unset, .unset, .unset] [(.int (pI2 &&& (2147483647 : Int32)))] _
    refine XS.iconst X0.here hx rfl (hb hby at_11) ?_
    show oS p e below s₁ m 12 #[.val (.int pI1), .val (.int pI2), .val (.int (3 : Int32)), .unset, .unset, .unset, .unset] [(.int (5 : Int32)), (.int (pI2 &&& (2147483647 : Int32)))] _
    refine iremM (g := (mkF m 12 #[.val (.int pI1), .val (.int pI2), .val (.int (3 : Int32)), .unset, .unset, .unset, .unset] [(.int (5 : Int32)), (.int (pI2 &&& (2147483647 : Int32)))])) X0 hx rfl (hb hby at_12) rfl (by decide) ?_
    show Steps p.tables e below (s₁.setTop (mkF m 13 #[.val (.int pI1), .val (.int pI2), .val (.int (3 : Int32)), .unset, .unset, .unset, .unset] [(.int ((pI2 &&& (2147483647 : Int32)) % (5 : Int32)))])) _
    rw [hc12]
    show oS p e below s₁ m 13 #[.val (.int pI1), .val (.int pI2), .val (.int (3 : Int32)), .unset, .unset, .unset, .unset] [(.int (4 : Int32))] _
    refine XS.istoreN X0.here hx rfl (hb hby at_13) rfl (l' := #[.val (.int pI1), .val (.int pI2), .val (.int (3 : Int32)), .val (.int (4 : Int32)), .unset, .unset, .unset]) rfl ?_
    show oS p e below s₁ m 14 #[.val (.int pI1), .val (.int pI2), .val (.int (3 : Int32)), .val (.int (4 : Int32)), .unset, .unset, .unset] [] _
    refine XS.iloadN X0.here hx rfl (hb hby at_14) rfl ?_
    show oS p e below s₁ m 15 #[.val (.int pI1), .val (.int pI2), .val (.int (3 : Int32)), .val (.int (4 : Int32)), .unset, .unset, .unset] [(.int (3 : Int32))] _
    refine st4 _ ?_
    show oS p e below T4 m 18 #[.val (.int pI1), .val (.int pI2), .val (.int (3 : Int32)), .val (.int (4 : Int32)), .unset, .unset, .unset] [(.ref pR3)] _
    refine XS.astore X4.here hx rfl (hb hby at_18) rfl rfl (l' := #[.val (.int pI1), .val (.int pI2), .val (.int (3 : Int32)), .val (.int (4 : Int32)), .val (.ref pR3), .unset, .unset]) rfl ?_
    show oS p e below T4 m 20 #[.val (.int pI1), .val (.int pI2), .val (.int (3 : Int32)), .val (.int (4 : Int32)), .val (.ref pR3), .unset, .unset] [] _
    refine XS.iloadN X4.here hx rfl (hb hby at_20) rfl ?_
    show oS p e below T4 m 21 #[.val (.int pI1), .val (.int pI2), .val (.int (3 : Int32)), .val (.int (4 : Int32)), .val (.ref pR3), .unset, .unset] [(.int (4 : Int32))] _
    refine st6 _ ?_
    show oS p e below T6 m 24 #[.val (.int pI1), .val (.int pI2), .val (.int (3 : Int32)), .val (.int (4 : Int32)), .val (.ref pR3), .unset, .unset] [(.ref pR5)] _
    refine XS.astore X6.here hx rfl (hb hby at_24) rfl rfl (l' := #[.val (.int pI1), .val (.int pI2), .val (.int (3 : Int32)), .val (.int (4 : Int32)), .val (.ref pR3), .val (.ref pR5), .unset]) rfl ?_
    show oS p e below T6 m 26 #[.val (.int pI1), .val (.int pI2), .val (.int (3 : Int32)), .val (.int (4 : Int32)), .val (.ref pR3), .val (.ref pR5), .unset] [] _
    refine XS.iloadN X6.here hx rfl (hb hby at_26) rfl ?_
    show oS p e below T6 m 27 #[.val (.int pI1), .val (.int pI2), .val (.int (3 : Int32)), .val (.int (4 : Int32)), .val (.ref pR3), .val (.ref pR5), .unset] [(.int (4 : Int32))] _
    refine XS.ifYes X6.here hx rfl (pc0 := 27) (pc' := 35) rfl (hb hby at_27) rfl ((if0 _ _).trans (feq (by decide : ¬ ((4 : Int32) = (0 : Int32)))).2) (by decide) (by decide) ?_
    show oS p e below T6 m 35 #[.val (.int pI1), .val (.int pI2), .val (.int (3 : Int32)), .val (.int (4 : Int32)), .val (.ref pR3), .val (.ref pR5), .unset] [] _
    refine XS.iloadN X6.here hx rfl (hb hby at_35) rfl ?_
    show oS p e below T6 m 36 #[.val (.int pI1), .val (.int pI2), .val (.int (3 : Int32)), .val (.int (4 : Int32)), .val (.ref pR3), .val (.ref pR5), .unset] [(.int (4 : Int32))] _
    refine XS.iconst X6.here hx rfl (hb hby at_36) ?_
    show oS p e below T6 m 37 #[.val (.int pI1), .val (.int pI2), .val (.int (3 : Int32)), .val (.int (4 : Int32)), .val (.ref pR3), .val (.ref pR5), .unset] [(.int (1 : Int32)), (.int (4 : Int32))] _
    refine XS.icmpYes X6.here hx rfl (pc0 := 37) (pc' := 45) rfl (hb hby at_37) rfl (feq (by decide : ¬ ((4 : Int32) = (1 : Int32)))).2 (by decide) (by decide) ?_
    show oS p e below T6 m 45 #[.val (.int pI1), .val (.int pI2), .val (.int (3 : Int32)), .val (.int (4 : Int32)), .val (.ref pR3), .val (.ref pR5), .unset] [] _
    refine XS.iloadN X6.here hx rfl (hb hby at_45) rfl ?_
    show oS p e below T6 m 46 #[.val (.int pI1), .val (.int pI2), .val (.int (3 : Int32)), .val (.int (4 : Int32)), .val (.ref pR3), .val (.ref pR5), .unset] [(.int (4 : Int32))] _
    refine XS.iconst X6.here hx rfl (hb hby at_46) ?_
    show oS p e below T6 m 47 #[.val (.int pI1), .val (.int pI2), .val (.int (3 : Int32)), .val (.int (4 : Int32)), .val (.ref pR3), .val (.ref pR5), .unset] [(.int (1 : Int32)), (.int (4 : Int32))] _
    refine XS.icmpYes X6.here hx rfl (pc0 := 47) (pc' := 55) rfl (hb hby at_47) rfl (feq (by decide : ¬ ((4 : Int32) = (1 : Int32)))).2 (by decide) (by decide) ?_
    show oS p e below T6 m 55 #[.val (.int pI1), .val (.int pI2), .val (.int (3 : Int32)), .val (.int (4 : Int32)), .val (.ref pR3), .val (.ref pR5), .unset] [] _
    refine XS.iloadN X6.here hx rfl (hb hby at_55) rfl ?_
    show oS p e below T6 m 56 #[.val (.int pI1), .val (.int pI2), .val (.int (3 : Int32)), .val (.int (4 : Int32)), .val (.ref pR3), .val (.ref pR5), .unset] [(.int (4 : Int32))] _
    refine XS.iconst X6.here hx rfl (hb hby at_56) ?_
    show oS p e below T6 m 57 #[.val (.int pI1), .val (.int pI2), .val (.int (3 : Int32)), .val (.int (4 : Int32)), .val (.ref pR3), .val (.ref pR5), .unset] [(.int (2 : Int32)), (.int (4 : Int32))] _
    refine XS.icmpYes X6.here hx rfl (pc0 := 57) (pc' := 65) rfl (hb hby at_57) rfl (feq (by decide : ¬ ((4 : Int32) = (2 : Int32)))).2 (by decide) (by decide) ?_
    show oS p e below T6 m 65 #[.val (.int pI1), .val (.int pI2), .val (.int (3 : Int32)), .val (.int (4 : Int32)), .val (.ref pR3), .val (.ref pR5), .unset] [] _
    refine XS.iloadN X6.here hx rfl (hb hby at_65) rfl ?_
    show oS p e below T6 m 66 #[.val (.int pI1), .val (.int pI2), .val (.int (3 : Int32)), .val (.int (4 : Int32)), .val (.ref pR3), .val (.ref pR5), .unset] [(.int (4 : Int32))] _
    refine XS.iconst X6.here hx rfl (hb hby at_66) ?_
    show oS p e below T6 m 67 #[.val (.int pI1), .val (.int pI2), .val (.int (3 : Int32)), .val (.int (4 : Int32)), .val (.ref pR3), .val (.ref pR5), .unset] [(.int (3 : Int32)), (.int (4 : Int32))] _
    refine XS.icmpYes X6.here hx rfl (pc0 := 67) (pc' := 75) rfl (hb hby at_67) rfl (feq (by decide : ¬ ((4 : Int32) = (3 : Int32)))).2 (by decide) (by decide) ?_
    show oS p e below T6 m 75 #[.val (.int pI1), .val (.int pI2), .val (.int (3 : Int32)), .val (.int (4 : Int32)), .val (.ref pR3), .val (.ref pR5), .unset] [] _
    refine XS.iloadN X6.here hx rfl (hb hby at_75) rfl ?_
    show oS p e below T6 m 76 #[.val (.int pI1), .val (.int pI2), .val (.int (3 : Int32)), .val (.int (4 : Int32)), .val (.ref pR3), .val (.ref pR5), .unset] [(.int (4 : Int32))] _
    refine XS.iconst X6.here hx rfl (hb hby at_76) ?_
    show oS p e below T6 m 77 #[.val (.int pI1), .val (.int pI2), .val (.int (3 : Int32)), .val (.int (4 : Int32)), .val (.ref pR3), .val (.ref pR5), .unset] [(.int (4 : Int32)), (.int (4 : Int32))] _
    refine XS.icmpNo X6.here hx rfl (hb hby at_77) rfl (teq (by decide : (4 : Int32) = (4 : Int32))).2 ?_
    show oS p e below T6 m 80 #[.val (.int pI1), .val (.int pI2), .val (.int (3 : Int32)), .val (.int (4 : Int32)), .val (.ref pR3), .val (.ref pR5), .unset] [] _
    refine XS.iloadN X6.here hx rfl (hb hby at_80) rfl ?_
    show oS p e below T6 m 81 #[.val (.int pI1), .val (.int pI2), .val (.int (3 : Int32)), .val (.int (4 : Int32)), .val (.ref pR3), .val (.ref pR5), .unset] [(.int (3 : Int32))] _
    refine XS.iconst X6.here hx rfl (hb hby at_81) ?_
    show oS p e below T6 m 82 #[.val (.int pI1), .val (.int pI2), .val (.int (3 : Int32)), .val (.int (4 : Int32)), .val (.ref pR3), .val (.ref pR5), .unset] [(.int (3 : Int32)), (.int (3 : Int32))] _
    refine XS.icmpYes X6.here hx rfl (pc0 := 82) (pc' := 95) rfl (hb hby at_82) rfl (teq (by decide : (3 : Int32) = (3 : Int32))).1 (by decide) (by decide) ?_
    show oS p e below T6 m 95 #[.val (.int pI1), .val (.int pI2), .val (.int (3 : Int32)), .val (.int (4 : Int32)), .val (.ref pR3), .val (.ref pR5), .unset] [] _
    refine XS.iconst X6.here hx rfl (hb hby at_95) ?_
    show oS p e below T6 m 96 #[.val (.int pI1), .val (.int pI2), .val (.int (3 : Int32)), .val (.int (4 : Int32)), .val (.ref pR3), .val (.ref pR5), .unset] [(.int (1 : Int32))] _
    refine XS.goto X6.here hx rfl (pc0 := 96) (pc' := 100) rfl (hb hby at_96) (by decide) (by decide) ?_
    show oS p e below T6 m 100 #[.val (.int pI1), .val (.int pI2), .val (.int (3 : Int32)), .val (.int (4 : Int32)), .val (.ref pR3), .val (.ref pR5), .unset] [(.int (1 : Int32))] _
    refine XS.istore X6.here hx rfl (hb hby at_100) rfl (l' := #[.val (.int pI1), .val (.int pI2), .val (.int (3 : Int32)), .val (.int (4 : Int32)), .val (.ref pR3), .val (.ref pR5), .val (.int (1 : Int32))]) rfl ?_
    show oS p e below T6 m 102 #[.val (.int pI1), .val (.int pI2), .val (.int (3 : Int32)), .val (.int (4 : Int32)), .val (.ref pR3), .val (.ref pR5), .val (.int (1 : Int32))] [] _
    refine XS.aload X6.here hx rfl (hb hby at_102) rfl rfl ?_
    show oS p e below T6 m 104 #[.val (.int pI1), .val (.int pI2), .val (.int (3 : Int32)), .val (.int (4 : Int32)), .val (.ref pR3), .val (.ref pR5), .val (.int (1 : Int32))] [(.ref pR3)] _
    refine XS.aload X6.here hx rfl (hb hby at_104) rfl rfl ?_
    show oS p e below T6 m 106 #[.val (.int pI1), .val (.int pI2), .val (.int (3 : Int32)), .val (.int (4 : Int32)), .val (.ref pR3), .val (.ref pR5), .val (.int (1 : Int32))] [(.ref pR5), (.ref pR3)] _
    refine st8.trans ?_
    show oS p e below T8 m 109 #[.val (.int pI1), .val (.int pI2), .val (.int (3 : Int32)), .val (.int (4 : Int32)), .val (.ref pR3), .val (.ref pR5), .val (.int (1 : Int32))] [(.int (1 : Int32))] _
    refine XS.iload X8.here hx rfl (hb hby at_109) rfl ?_
    show oS p e below T8 m 111 #[.val (.int pI1), .val (.int pI2), .val (.int (3 : Int32)), .val (.int (4 : Int32)), .val (.ref pR3), .val (.ref pR5), .val (.int (1 : Int32))] [(.int (1 : Int32)), (.int (1 : Int32))] _
    refine XS.icmpNo X8.here hx rfl (hb hby at_111) rfl (teq (by decide : (1 : Int32) = (1 : Int32))).2 ?_
    show oS p e below T8 m 114 #[.val (.int pI1), .val (.int pI2), .val (.int (3 : Int32)), .val (.int (4 : Int32)), .val (.ref pR3), .val (.ref pR5), .val (.int (1 : Int32))] [] _
    refine XS.iconst X8.here hx rfl (hb hby at_114) ?_
    show oS p e below T8 m 115 #[.val (.int pI1), .val (.int pI2), .val (.int (3 : Int32)), .val (.int (4 : Int32)), .val (.ref pR3), .val (.ref pR5), .val (.int (1 : Int32))] [(.int (1 : Int32))] _
    refine XS.goto X8.here hx rfl (pc0 := 115) (pc' := 119) rfl (hb hby at_115) (by decide) (by decide) ?_
    show oS p e below T8 m 119 #[.val (.int pI1), .val (.int pI2), .val (.int (3 : Int32)), .val (.int (4 : Int32)), .val (.ref pR3), .val (.ref pR5), .val (.int (1 : Int32))] [(.int (1 : Int32))] _
    exact retN X8 hx (t := .boolean) Bd.returns (by simp) (hb hby at_119) hr
  · show Qlaw3_4 Z pI1 pI2 pR3 pR5 pR7 h0 n0 _ T8.heap _
    rw [e8]
    exact ⟨rfl, N8⟩
theorem ef_law4_0 (m : MethodId) (pI1 : Int32) (pI2 : Int32) : entryFrame m #[(.int pI1), (.int pI2)] maxLocals = mkF m 0 #[.val (.int pI1), .val (.int pI2), .unset, .unset, .unset, .unset, .unset] [] := by first | (simp [entryFrame, mkF, argsToLocals, Value.category, maxLocals]; done) | rfl
def Qlaw4_0 (Z : State) (pI1 : Int32) (pI2 : Int32) (pR3 : Addr) (pR5 : Addr) (pR7 : Addr) (h0 : Heap) (n0 : Nat) (v : Option Value) (h : Heap) (L : List Loc) : Prop := v = some (.int (1 : Int32)) ∧ Fr n0 L
set_option maxRecDepth 65536 in
set_option maxHeartbeats 40000000 in
theorem law4_0 (l : Launch) (Z : State) (a0 : Array Value) (hw : ∀ d ∈ tables_1, d.before a0 Z = true) (ws : List Jvm.Cond) (pI1 : Int32) (pI2 : Int32) (pR3 : Addr) (pR5 : Addr) (pR7 : Addr) (h0 : Heap) (n0 : Nat) (Z0 : n0 ≤ h0.size) (S_OrderSegment_NTE : Sta Z h0 "com/example/vaxwire/vaxwire/reply/OrderSegment" "NTE" "Lcom/example/vaxwire/vaxwire/reply/OrderSegment;" (.ref pR3)) (S_OrderSegment_ORC : Sta Z h0 "com/example/vaxwire/vaxwire/reply/OrderSegment" "ORC" "Lcom/example/vaxwire/vaxwire/reply/OrderSegment;" (.ref pR5)) (F_ordinal_pR3 : Fld Z h0 pR3 "java/lang/Enum" "ordinal" "I" (.int (4 : Int32))) (E_pR3 : Exa Z h0 pR3 "com/example/vaxwire/vaxwire/reply/OrderSegment") (S_OrderSegment_OBX : Sta Z h0 "com/example/vaxwire/vaxwire/reply/OrderSegment" "OBX" "Lcom/example/vaxwire/vaxwire/reply/OrderSegment;" (.ref pR7)) (ne_pR5_pR7 : pR5 ≠ pR7) (hc5 : ((pI1 &&& (2147483647 : Int32)) % (5 : Int32)) = (4 : Int32)) (hc12 : ((pI2 &&& (2147483647 : Int32)) % (5 : Int32)) = (0 : Int32)) :
    MetFree l x (head1 (Jvm.Cond.code x code maxLocals ret :: ws) room_1) (fun a U => a = #[(.int pI1), (.int pI2)] ∧ Z.Warmed39 U.vm ∧ U.heap = h0) (fun _ _ _ _ _ => True) (fun _ U o U' => ∃ v L, o = .returned v ∧ Qlaw4_0 Z pI1 pI2 pR3 pR5 pR7 h0 n0 v U'.heap L ∧ FrameEnd U o U' L room_1.cells room_1.slots) := by
  refine MetFree.of_bodySF (plainFor_of_name pn_0) hisR ?_
  intro p e s m args below meth c s₁ Bd hml0 hP hK
  obtain ⟨rfl, hZ, hh⟩ := hP
  have hx := Bd.exec
  have hby := Bd.bytes
  have hml : c.maxLocals = 7 := hml0
  have hown : s.vm.findClass "com/example/vaxwire/vaxwire/reply/OrderSegmentMayFollowPinLaw" = some m.cls := findClass_of_methodNamed Bd.named
  have hnm := (name_of_methodNamed Bd.named Bd.method).1
  have X0 : Stand p l e room_1 s m #[(.int pI1), (.int pI2)] below meth c s₁ [] 0 0 := Stand.of_body Bd
  have e0 : s₁.heap = h0 := by rw [← hh, Bd.state]; rfl
  have N0 := Fr.nil n0
  have pre0 : ∀ t, Steps p.tables e below (s₁.setTop (mkF m 0 #[.val (.int pI1), .val (.int pI2), .unset, .unset, .unset, .unset, .unset] [])) t → Steps p.tables e below (s₁.setTop (entryFrame m #[(.int pI1), (.int pI2)] maxLocals)) t := fun t k => castTop (ef_law4_0 m pI1 pI2) k
  obtain ⟨_, _, ⟨T4, L4, k4, n4⟩, -, X4, ⟨Lc4, hQ4, l4, y4, z4⟩, st4⟩ := Jvm.LawKit.callS X0 hx (y := yN0) hown (mvT hZ (ow hw 1 rfl)) (mvT hZ (ow hw 2 rfl)) (mvT hZ (ow hw 3 rfl)) (mvT hZ (ow hw 4 rfl)) (by decide) (backOf (W := 0) (pick4 l Z a0 hw [] pR3 h0 n0 Z0 S_OrderSegment_NTE) hZ (ow hw 4 rfl) (ow hw 3 rfl) (by decide) (by decide)) (g := (mkF m 15 #[.val (.int pI1), .val (.int pI2), .val (.int (4 : Int32)), .val (.int (0 : Int32)), .unset, .unset, .unset] [(.int (4 : Int32))])) rfl (by rw [hml]; rfl) (argsL := [(.int (4 : Int32))]) (rest := []) (lenOf pd_1 rfl) rfl (by show 2 * 0 + _ ≤ _; exact Nat.le_of_eq rfl) (hb hby at_15) (fun _ _ => ⟨rfl, e0, (by decide : 0 + 0 ≤ _), (by decide : 0 + 0 ≤ _)⟩)
  dsimp only [Pt.U, Pt.locs, Pt.cells, Pt.slots] at X4 l4 y4 z4 st4 hQ4
  subst l4 y4 z4
  obtain ⟨rfl, Nq4, e4⟩ := hQ4
  have N4 := Fr.app N0 Nq4
  obtain ⟨_, _, ⟨T6, L6, k6, n6⟩, -, X6, ⟨Lc6, hQ6, l6, y6, z6⟩, st6⟩ := Jvm.LawKit.callS X4 hx (y := yN0) hown (mvT hZ (ow hw 1 rfl)) (mvT hZ (ow hw 2 rfl)) (mvT hZ (ow hw 3 rfl)) (mvT hZ (ow hw 4 rfl)) (by decide) (backOf (W := 0) (pick0 l Z a0 hw [] pR5 h0 n0 Z0 S_OrderSegment_ORC) hZ (ow hw 4 rfl) (ow hw 3 rfl) (by decide) (by decide)) (g := (mkF m 21 #[.val (.int pI1), .val (.int pI2), .val (.int (4 : Int32)), .val (.int (0 : Int32)), .val (.ref pR3), .unset, .unset] [(.int (0 : Int32))])) rfl (by rw [hml]; rfl) (argsL := [(.int (0 : Int32))]) (rest := []) (lenOf pd_1 rfl) rfl (by show 2 * 0 + _ ≤ _; exact Nat.le_of_eq rfl) (hb hby at_21) (fun _ _ => ⟨rfl, e4, (by decide : 0 + 0 ≤ _), (by decide : 0 + 0 ≤ _)⟩)
  dsimp only [Pt.U, Pt.locs, Pt.cells, Pt.slots] at X6 l6 y6 z6 st6 hQ6
  subst l6 y6 z6
  obtain ⟨rfl, Nq6, e6⟩ := hQ6
  have N6 := Fr.app N4 Nq6
  obtain ⟨cq8, kq8, q8a, q8b, q8c⟩ := isOf hZ e6 E_pR3
  obtain ⟨_, _, ⟨T8, L8, k8, n8⟩, -, X8, ⟨Lc8, hQ8, l8, y8, z8⟩, st8⟩ := X6.virtualBack hx (y := yN3) (z := yN3) hown (mvT hZ (ow hw 10 rfl)) (mvT hZ (ow hw 11 rfl)) (notFace_of_selects (args := #[]) (mvT hZ (ow hw 13 rfl))) (mvT hZ (ow hw 13 rfl)) (mvT hZ (ow hw 12 rfl)) (by decide) (backOf (W := 0) (mf4d l Z a0 hw [] pR3 pR5 pR7 h0 n0 Z0 F_ordinal_pR3 E_pR3 S_OrderSegment_OBX ne_pR5_pR7) hZ (ow hw 14 rfl) (ow hw 6 rfl) (by decide) (by decide)) q8a q8c (g := (mkF m 106 #[.val (.int pI1), .val (.int pI2), .val (.int (4 : Int32)), .val (.int (0 : Int32)), .val (.ref pR3), .val (.ref pR5), .val (.int (0 : Int32))] [(.ref pR5), (.ref pR3)])) rfl (by rw [hml]; rfl) (Steps.refl _) (argsL := [(.ref pR5)]) (rest := []) (lenOf pd_2 rfl) rfl (by show 2 * 0 + _ ≤ _; exact Nat.le_of_eq rfl) (hb hby at_106) (fun _ _ => ⟨rfl, e6, (by decide : 0 + 0 ≤ _), (by decide : 0 + 0 ≤ _)⟩)
  dsimp only [Pt.U, Pt.locs, Pt.cells, Pt.slots] at X8 l8 y8 z8 st8 hQ8
  subst l8 y8 z8
  obtain ⟨rfl, Nq8, e8⟩ := hQ8
  have N8 := Fr.app N6 Nq8
  obtain ⟨fs, hr, hrun, hended, hW, hsame⟩ := X8.leave (v := some (.int (1 : Int32))) (fun h => by rw [Bd.returns] at h; cases h)
  refine ⟨_, _, pre0 _ ?_, hrun, hended, _, _, rfl, ?_, ⟨_, rfl⟩, hW, hsame.mono (by decide) (by decide)⟩
  · show oS p e below s₁ m 0 #[.val (.int pI1), .val (.int pI2), .unset, .unset, .unset, .unset, .unset] [] _
    refine XS.iloadN X0.here hx rfl (hb hby at_0) rfl ?_
    show oS p e below s₁ m 1 #[.val (.int pI1), .val (.int pI2), .unset, .unset, .unset, .unset, .unset] [(.int pI1)] _
    refine X0.ldcInt hx hown (mvT hZ (ow hw 0 rfl)) (g := (mkF m 1 #[.val (.int pI1), .val (.int pI2), .unset, .unset, .unset, .unset, .unset] [(.int pI1)])) rfl (hb hby at_1) _ ?_
    show oS p e below s₁ m 3 #[.val (.int pI1), .val (.int pI2), .unset, .unset, .unset, .unset, .unset] [(.int (2147483647 : Int32)), (.int pI1)] _
    refine XS.iand X0.here hx rfl (hb hby at_3) rfl ?_
    show oS p e below s₁ m 4 #[.val (.int pI1), .val (.int pI2), .unset, .unset, .unset, .unset, .unset] [(.int (pI1 &&& (2147483647 : Int32)))] _
    refine XS.iconst X0.here hx rfl (hb hby at_4) ?_
    show oS p e below s₁ m 5 #[.val (.int pI1), .val (.int pI2), .unset, .unset, .unset, .unset, .unset] [(.int (5 : Int32)), (.int (pI1 &&& (2147483647 : Int32)))] _
    refine iremM (g := (mkF m 5 #[.val (.int pI1), .val (.int pI2), .unset, .unset, .unset, .unset, .unset] [(.int (5 : Int32)), (.int (pI1 &&& (2147483647 : Int32)))])) X0 hx rfl (hb hby at_5) rfl (by decide) ?_
    show Steps p.tables e below (s₁.setTop (mkF m 6 #[.val (.int pI1), .val (.int pI2), .unset, .unset, .unset, .unset, .unset] [(.int ((pI1 &&& (2147483647 : Int32)) % (5 : Int32)))])) _
    rw [hc5]
    show oS p e below s₁ m 6 #[.val (.int pI1), .val (.int pI2), .unset, .unset, .unset, .unset, .unset] [(.int (4 : Int32))] _
    refine XS.istoreN X0.here hx rfl (hb hby at_6) rfl (l' := #[.val (.int pI1), .val (.int pI2), .val (.int (4 : Int32)), .unset, .unset, .unset, .unset]) rfl ?_
    show oS p e below s₁ m 7 #[.val (.int pI1), .val (.int pI2), .val (.int (4 : Int32)), .unset, .unset, .unset, .unset] [] _
    refine XS.iloadN X0.here hx rfl (hb hby at_7) rfl ?_
    show oS p e below s₁ m 8 #[.val (.int pI1), .val (.int pI2), .val (.int (4 : Int32)), .unset, .unset, .unset, .unset] [(.int pI2)] _
    refine X0.ldcInt hx hown (mvT hZ (ow hw 0 rfl)) (g := (mkF m 8 #[.val (.int pI1), .val (.int pI2), .val (.int (4 : Int32)), .unset, .unset, .unset, .unset] [(.int pI2)])) rfl (hb hby at_8) _ ?_
    show oS p e below s₁ m 10 #[.val (.int pI1), .val (.int pI2), .val (.int (4 : Int32)), .unset, .unset, .unset, .unset] [(.int (2147483647 : Int32)), (.int pI2)] _
    refine XS.iand X0.here hx rfl (hb hby at_10) rfl ?_
    show oS p e below s₁ m 11 #[.val (.int pI1), .val (.int pI2), .val (.int (4 : Int32)), .unset, .unset, .unset, .unset] [(.int (pI2 &&& (2147483647 : Int32)))] _
    refine XS.iconst X0.here hx rfl (hb hby at_11) ?_
    show oS p e below s₁ m 12 #[.val (.int pI1), .val (.int pI2), .val (.int (4 : Int32)), .unset, .unset, .unset, .unset] [(.int (5 : Int32)), (.int (pI2 &&& (2147483647 : Int32)))] _
    refine iremM (g := (mkF m 12 #[.val (.int pI1), .val (.int pI2), .val (.int (4 : Int32)), .unset, .unset, .unset, .unset] [(.int (5 : Int32)), (.int (pI2 &&& (2147483647 : Int32)))])) X0 hx rfl (hb hby at_12) rfl (by decide) ?_
    show Steps p.tables e below (s₁.setTop (mkF m 13 #[.val (.int pI1), .val (.int pI2), .val (.int (4 : Int32)), .unset, .unset, .unset, .unset] [(.int ((pI2 &&& (2147483647 : Int32)) % (5 : Int32)))])) _
    rw [hc12]
    show oS p e below s₁ m 13 #[.val (.int pI1), .val (.int pI2), .val (.int (4 : Int32)), .unset, .unset, .unset, .unset] [(.int (0 : Int32))] _
    refine XS.istoreN X0.here hx rfl (hb hby at_13) rfl (l' := #[.val (.int pI1), .val (.int pI2), .val (.int (4 : Int32)), .val (.int (0 : Int32)), .unset, .unset, .unset]) rfl ?_
    show oS p e below s₁ m 14 #[.val (.int pI1), .val (.int pI2), .val (.int (4 : Int32)), .val (.int (0 : Int32)), .unset, .unset, .unset] [] _
    refine XS.iloadN X0.here hx rfl (hb hby at_14) rfl ?_
    show oS p e below s₁ m 15 #[.val (.int pI1), .val (.int pI2), .val (.int (4 : Int32)), .val (.int (0 : Int32)), .unset, .unset, .unset] [(.int (4 : Int32))] _
    refine st4 _ ?_
    show oS p e below T4 m 18 #[.val (.int pI1), .val (.int pI2), .val (.int (4 : Int32)), .val (.int (0 : Int32)), .unset, .unset, .unset] [(.ref pR3)] _
    refine XS.astore X4.here hx rfl (hb hby at_18) rfl rfl (l' := #[.val (.int pI1), .val (.int pI2), .val (.int (4 : Int32)), .val (.int (0 : Int32)), .val (.ref pR3), .unset, .unset]) rfl ?_
    show oS p e below T4 m 20 #[.val (.int pI1), .val (.int pI2), .val (.int (4 : Int32)), .val (.int (0 : Int32)), .val (.ref pR3), .unset, .unset] [] _
    refine XS.iloadN X4.here hx rfl (hb hby at_20) rfl ?_
    show oS p e below T4 m 21 #[.val (.int pI1), .val (.int pI2), .val (.int (4 : Int32)), .val (.int (0 : Int32)), .val (.ref pR3), .unset, .unset] [(.int (0 : Int32))] _
    refine st6 _ ?_
    show oS p e below T6 m 24 #[.val (.int pI1), .val (.int pI2), .val (.int (4 : Int32)), .val (.int (0 : Int32)), .val (.ref pR3), .unset, .unset] [(.ref pR5)] _
    refine XS.astore X6.here hx rfl (hb hby at_24) rfl rfl (l' := #[.val (.int pI1), .val (.int pI2), .val (.int (4 : Int32)), .val (.int (0 : Int32)), .val (.ref pR3), .val (.ref pR5), .unset]) rfl ?_
    show oS p e below T6 m 26 #[.val (.int pI1), .val (.int pI2), .val (.int (4 : Int32)), .val (.int (0 : Int32)), .val (.ref pR3), .val (.ref pR5), .unset] [] _
    refine XS.iloadN X6.here hx rfl (hb hby at_26) rfl ?_
    show oS p e below T6 m 27 #[.val (.int pI1), .val (.int pI2), .val (.int (4 : Int32)), .val (.int (0 : Int32)), .val (.ref pR3), .val (.ref pR5), .unset] [(.int (0 : Int32))] _
    refine XS.ifNo X6.here hx rfl (hb hby at_27) rfl ((if0 _ _).trans (teq (by decide : (0 : Int32) = (0 : Int32))).2) ?_
    show oS p e below T6 m 30 #[.val (.int pI1), .val (.int pI2), .val (.int (4 : Int32)), .val (.int (0 : Int32)), .val (.ref pR3), .val (.ref pR5), .unset] [] _
    refine XS.iloadN X6.here hx rfl (hb hby at_30) rfl ?_
    show oS p e below T6 m 31 #[.val (.int pI1), .val (.int pI2), .val (.int (4 : Int32)), .val (.int (0 : Int32)), .val (.ref pR3), .val (.ref pR5), .unset] [(.int (4 : Int32))] _
    refine XS.iconst X6.here hx rfl (hb hby at_31) ?_
    show oS p e below T6 m 32 #[.val (.int pI1), .val (.int pI2), .val (.int (4 : Int32)), .val (.int (0 : Int32)), .val (.ref pR3), .val (.ref pR5), .unset] [(.int (1 : Int32)), (.int (4 : Int32))] _
    refine XS.icmpNo X6.here hx rfl (hb hby at_32) rfl (feq (by decide : ¬ ((4 : Int32) = (1 : Int32)))).1 ?_
    show oS p e below T6 m 35 #[.val (.int pI1), .val (.int pI2), .val (.int (4 : Int32)), .val (.int (0 : Int32)), .val (.ref pR3), .val (.ref pR5), .unset] [] _
    refine XS.iloadN X6.here hx rfl (hb hby at_35) rfl ?_
    show oS p e below T6 m 36 #[.val (.int pI1), .val (.int pI2), .val (.int (4 : Int32)), .val (.int (0 : Int32)), .val (.ref pR3), .val (.ref pR5), .unset] [(.int (0 : Int32))] _
    refine XS.iconst X6.here hx rfl (hb hby at_36) ?_
    show oS p e below T6 m 37 #[.val (.int pI1), .val (.int pI2), .val (.int (4 : Int32)), .val (.int (0 : Int32)), .val (.ref pR3), .val (.ref pR5), .unset] [(.int (1 : Int32)), (.int (0 : Int32))] _
    refine XS.icmpYes X6.here hx rfl (pc0 := 37) (pc' := 45) rfl (hb hby at_37) rfl (feq (by decide : ¬ ((0 : Int32) = (1 : Int32)))).2 (by decide) (by decide) ?_
    show oS p e below T6 m 45 #[.val (.int pI1), .val (.int pI2), .val (.int (4 : Int32)), .val (.int (0 : Int32)), .val (.ref pR3), .val (.ref pR5), .unset] [] _
    refine XS.iloadN X6.here hx rfl (hb hby at_45) rfl ?_
    show oS p e below T6 m 46 #[.val (.int pI1), .val (.int pI2), .val (.int (4 : Int32)), .val (.int (0 : Int32)), .val (.ref pR3), .val (.ref pR5), .unset] [(.int (0 : Int32))] _
    refine XS.iconst X6.here hx rfl (hb hby at_46) ?_
    show oS p e below T6 m 47 #[.val (.int pI1), .val (.int pI2), .val (.int (4 : Int32)), .val (.int (0 : Int32)), .val (.ref pR3), .val (.ref pR5), .unset] [(.int (1 : Int32)), (.int (0 : Int32))] _
    refine XS.icmpYes X6.here hx rfl (pc0 := 47) (pc' := 55) rfl (hb hby at_47) rfl (feq (by decide : ¬ ((0 : Int32) = (1 : Int32)))).2 (by decide) (by decide) ?_
    show oS p e below T6 m 55 #[.val (.int pI1), .val (.int pI2), .val (.int (4 : Int32)), .val (.int (0 : Int32)), .val (.ref pR3), .val (.ref pR5), .unset] [] _
    refine XS.iloadN X6.here hx rfl (hb hby at_55) rfl ?_
    show oS p e below T6 m 56 #[.val (.int pI1), .val (.int pI2), .val (.int (4 : Int32)), .val (.int (0 : Int32)), .val (.ref pR3), .val (.ref pR5), .unset] [(.int (0 : Int32))] _
    refine XS.iconst X6.here hx rfl (hb hby at_56) ?_
    show oS p e below T6 m 57 #[.val (.int pI1), .val (.int pI2), .val (.int (4 : Int32)), .val (.int (0 : Int32)), .val (.ref pR3), .val (.ref pR5), .unset] [(.int (2 : Int32)), (.int (0 : Int32))] _
    refine XS.icmpYes X6.here hx rfl (pc0 := 57) (pc' := 65) rfl (hb hby at_57) rfl (feq (by decide : ¬ ((0 : Int32) = (2 : Int32)))).2 (by decide) (by decide) ?_
    show oS p e below T6 m 65 #[.val (.int pI1), .val (.int pI2), .val (.int (4 : Int32)), .val (.int (0 : Int32)), .val (.ref pR3), .val (.ref pR5), .unset] [] _
    refine XS.iloadN X6.here hx rfl (hb hby at_65) rfl ?_
    show oS p e below T6 m 66 #[.val (.int pI1), .val (.int pI2), .val (.int (4 : Int32)), .val (.int (0 : Int32)), .val (.ref pR3), .val (.ref pR5), .unset] [(.int (0 : Int32))] _
    refine XS.iconst X6.here hx rfl (hb hby at_66) ?_
    show oS p e below T6 m 67 #[.val (.int pI1), .val (.int pI2), .val (.int (4 : Int32)), .val (.int (0 : Int32)), .val (.ref pR3), .val (.ref pR5), .unset] [(.int (3 : Int32)), (.int (0 : Int32))] _
    refine XS.icmpYes X6.here hx rfl (pc0 := 67) (pc' := 75) rfl (hb hby at_67) rfl (feq (by decide : ¬ ((0 : Int32) = (3 : Int32)))).2 (by decide) (by decide) ?_
    show oS p e below T6 m 75 #[.val (.int pI1), .val (.int pI2), .val (.int (4 : Int32)), .val (.int (0 : Int32)), .val (.ref pR3), .val (.ref pR5), .unset] [] _
    refine XS.iloadN X6.here hx rfl (hb hby at_75) rfl ?_
    show oS p e below T6 m 76 #[.val (.int pI1), .val (.int pI2), .val (.int (4 : Int32)), .val (.int (0 : Int32)), .val (.ref pR3), .val (.ref pR5), .unset] [(.int (0 : Int32))] _
    refine XS.iconst X6.here hx rfl (hb hby at_76) ?_
    show oS p e below T6 m 77 #[.val (.int pI1), .val (.int pI2), .val (.int (4 : Int32)), .val (.int (0 : Int32)), .val (.ref pR3), .val (.ref pR5), .unset] [(.int (4 : Int32)), (.int (0 : Int32))] _
    refine XS.icmpYes X6.here hx rfl (pc0 := 77) (pc' := 85) rfl (hb hby at_77) rfl (feq (by decide : ¬ ((0 : Int32) = (4 : Int32)))).2 (by decide) (by decide) ?_
    show oS p e below T6 m 85 #[.val (.int pI1), .val (.int pI2), .val (.int (4 : Int32)), .val (.int (0 : Int32)), .val (.ref pR3), .val (.ref pR5), .unset] [] _
    refine XS.iloadN X6.here hx rfl (hb hby at_85) rfl ?_
    show oS p e below T6 m 86 #[.val (.int pI1), .val (.int pI2), .val (.int (4 : Int32)), .val (.int (0 : Int32)), .val (.ref pR3), .val (.ref pR5), .unset] [(.int (0 : Int32))] _
    refine XS.iconst X6.here hx rfl (hb hby at_86) ?_
    show oS p e below T6 m 87 #[.val (.int pI1), .val (.int pI2), .val (.int (4 : Int32)), .val (.int (0 : Int32)), .val (.ref pR3), .val (.ref pR5), .unset] [(.int (3 : Int32)), (.int (0 : Int32))] _
    refine XS.icmpYes X6.here hx rfl (pc0 := 87) (pc' := 99) rfl (hb hby at_87) rfl (feq (by decide : ¬ ((0 : Int32) = (3 : Int32)))).2 (by decide) (by decide) ?_
    show oS p e below T6 m 99 #[.val (.int pI1), .val (.int pI2), .val (.int (4 : Int32)), .val (.int (0 : Int32)), .val (.ref pR3), .val (.ref pR5), .unset] [] _
    refine XS.iconst X6.here hx rfl (hb hby at_99) ?_
    show oS p e below T6 m 100 #[.val (.int pI1), .val (.int pI2), .val (.int (4 : Int32)), .val (.int (0 : Int32)), .val (.ref pR3), .val (.ref pR5), .unset] [(.int (0 : Int32))] _
    refine XS.istore X6.here hx rfl (hb hby at_100) rfl (l' := #[.val (.int pI1), .val (.int pI2), .val (.int (4 : Int32)), .val (.int (0 : Int32)), .val (.ref pR3), .val (.ref pR5), .val (.int (0 : Int32))]) rfl ?_
    show oS p e below T6 m 102 #[.val (.int pI1), .val (.int pI2), .val (.int (4 : Int32)), .val (.int (0 : Int32)), .val (.ref pR3), .val (.ref pR5), .val (.int (0 : Int32))] [] _
    refine XS.aload X6.here hx rfl (hb hby at_102) rfl rfl ?_
    show oS p e below T6 m 104 #[.val (.int pI1), .val (.int pI2), .val (.int (4 : Int32)), .val (.int (0 : Int32)), .val (.ref pR3), .val (.ref pR5), .val (.int (0 : Int32))] [(.ref pR3)] _
    refine XS.aload X6.here hx rfl (hb hby at_104) rfl rfl ?_
    show oS p e below T6 m 106 #[.val (.int pI1), .val (.int pI2), .val (.int (4 : Int32)), .val (.int (0 : Int32)), .val (.ref pR3), .val (.ref pR5), .val (.int (0 : Int32))] [(.ref pR5), (.ref pR3)] _
    refine st8.trans ?_
    show oS p e below T8 m 109 #[.val (.int pI1), .val (.int pI2), .val (.int (4 : Int32)), .val (.int (0 : Int32)), .val (.ref pR3), .val (.ref pR5), .val (.int (0 : Int32))] [(.int (0 : Int32))] _
    refine XS.iload X8.here hx rfl (hb hby at_109) rfl ?_
    show oS p e below T8 m 111 #[.val (.int pI1), .val (.int pI2), .val (.int (4 : Int32)), .val (.int (0 : Int32)), .val (.ref pR3), .val (.ref pR5), .val (.int (0 : Int32))] [(.int (0 : Int32)), (.int (0 : Int32))] _
    refine XS.icmpNo X8.here hx rfl (hb hby at_111) rfl (teq (by decide : (0 : Int32) = (0 : Int32))).2 ?_
    show oS p e below T8 m 114 #[.val (.int pI1), .val (.int pI2), .val (.int (4 : Int32)), .val (.int (0 : Int32)), .val (.ref pR3), .val (.ref pR5), .val (.int (0 : Int32))] [] _
    refine XS.iconst X8.here hx rfl (hb hby at_114) ?_
    show oS p e below T8 m 115 #[.val (.int pI1), .val (.int pI2), .val (.int (4 : Int32)), .val (.int (0 : Int32)), .val (.ref pR3), .val (.ref pR5), .val (.int (0 : Int32))] [(.int (1 : Int32))] _
    refine XS.goto X8.here hx rfl (pc0 := 115) (pc' := 119) rfl (hb hby at_115) (by decide) (by decide) ?_
    show oS p e below T8 m 119 #[.val (.int pI1), .val (.int pI2), .val (.int (4 : Int32)), .val (.int (0 : Int32)), .val (.ref pR3), .val (.ref pR5), .val (.int (0 : Int32))] [(.int (1 : Int32))] _
    exact retN X8 hx (t := .boolean) Bd.returns (by simp) (hb hby at_119) hr
  · show Qlaw4_0 Z pI1 pI2 pR3 pR5 pR7 h0 n0 _ T8.heap _
    rw [e8]
    exact ⟨rfl, N8⟩
theorem ef_law4_1 (m : MethodId) (pI1 : Int32) (pI2 : Int32) : entryFrame m #[(.int pI1), (.int pI2)] maxLocals = mkF m 0 #[.val (.int pI1), .val (.int pI2), .unset, .unset, .unset, .unset, .unset] [] := by first | (simp [entryFrame, mkF, argsToLocals, Value.category, maxLocals]; done) | rfl
def Qlaw4_1 (Z : State) (pI1 : Int32) (pI2 : Int32) (pR3 : Addr) (pR5 : Addr) (pR7 : Addr) (h0 : Heap) (n0 : Nat) (v : Option Value) (h : Heap) (L : List Loc) : Prop := v = some (.int (1 : Int32)) ∧ Fr n0 L
set_option maxRecDepth 65536 in
set_option maxHeartbeats 40000000 in
theorem law4_1 (l : Launch) (Z : State) (a0 : Array Value) (hw : ∀ d ∈ tables_1, d.before a0 Z = true) (ws : List Jvm.Cond) (pI1 : Int32) (pI2 : Int32) (pR3 : Addr) (pR5 : Addr) (pR7 : Addr) (h0 : Heap) (n0 : Nat) (Z0 : n0 ≤ h0.size) (S_OrderSegment_NTE : Sta Z h0 "com/example/vaxwire/vaxwire/reply/OrderSegment" "NTE" "Lcom/example/vaxwire/vaxwire/reply/OrderSegment;" (.ref pR3)) (S_OrderSegment_RXA : Sta Z h0 "com/example/vaxwire/vaxwire/reply/OrderSegment" "RXA" "Lcom/example/vaxwire/vaxwire/reply/OrderSegment;" (.ref pR5)) (F_ordinal_pR3 : Fld Z h0 pR3 "java/lang/Enum" "ordinal" "I" (.int (4 : Int32))) (E_pR3 : Exa Z h0 pR3 "com/example/vaxwire/vaxwire/reply/OrderSegment") (S_OrderSegment_OBX : Sta Z h0 "com/example/vaxwire/vaxwire/reply/OrderSegment" "OBX" "Lcom/example/vaxwire/vaxwire/reply/OrderSegment;" (.ref pR7)) (ne_pR5_pR7 : pR5 ≠ pR7) (hc5 : ((pI1 &&& (2147483647 : Int32)) % (5 : Int32)) = (4 : Int32)) (hc12 : ((pI2 &&& (2147483647 : Int32)) % (5 : Int32)) = (1 : Int32)) :
    MetFree l x (head1 (Jvm.Cond.code x code maxLocals ret :: ws) room_1) (fun a U => a = #[(.int pI1), (.int pI2)] ∧ Z.Warmed39 U.vm ∧ U.heap = h0) (fun _ _ _ _ _ => True) (fun _ U o U' => ∃ v L, o = .returned v ∧ Qlaw4_1 Z pI1 pI2 pR3 pR5 pR7 h0 n0 v U'.heap L ∧ FrameEnd U o U' L room_1.cells room_1.slots) := by
  refine MetFree.of_bodySF (plainFor_of_name pn_0) hisR ?_
  intro p e s m args below meth c s₁ Bd hml0 hP hK
  obtain ⟨rfl, hZ, hh⟩ := hP
  have hx := Bd.exec
  have hby := Bd.bytes
  have hml : c.maxLocals = 7 := hml0
  have hown : s.vm.findClass "com/example/vaxwire/vaxwire/reply/OrderSegmentMayFollowPinLaw" = some m.cls := findClass_of_methodNamed Bd.named
  have hnm := (name_of_methodNamed Bd.named Bd.method).1
  have X0 : Stand p l e room_1 s m #[(.int pI1), (.int pI2)] below meth c s₁ [] 0 0 := Stand.of_body Bd
  have e0 : s₁.heap = h0 := by rw [← hh, Bd.state]; rfl
  have N0 := Fr.nil n0
  have pre0 : ∀ t, Steps p.tables e below (s₁.setTop (mkF m 0 #[.val (.int pI1), .val (.int pI2), .unset, .unset, .unset, .unset, .unset] [])) t → Steps p.tables e below (s₁.setTop (entryFrame m #[(.int pI1), (.int pI2)] maxLocals)) t := fun t k => castTop (ef_law4_1 m pI1 pI2) k
  obtain ⟨_, _, ⟨T4, L4, k4, n4⟩, -, X4, ⟨Lc4, hQ4, l4, y4, z4⟩, st4⟩ := Jvm.LawKit.callS X0 hx (y := yN0) hown (mvT hZ (ow hw 1 rfl)) (mvT hZ (ow hw 2 rfl)) (mvT hZ (ow hw 3 rfl)) (mvT hZ (ow hw 4 rfl)) (by decide) (backOf (W := 0) (pick4 l Z a0 hw [] pR3 h0 n0 Z0 S_OrderSegment_NTE) hZ (ow hw 4 rfl) (ow hw 3 rfl) (by decide) (by decide)) (g := (mkF m 15 #[.val (.int pI1), .val (.int pI2), .val (.int (4 : Int32)), .val (.int (1 : Int32)), .unset, .unset, .unset] [(.int (4 : Int32))])) rfl (by rw [hml]; rfl) (argsL := [(.int (4 : Int32))]) (rest := []) (lenOf pd_1 rfl) rfl (by show 2 * 0 + _ ≤ _; exact Nat.le_of_eq rfl) (hb hby at_15) (fun _ _ => ⟨rfl, e0, (by decide : 0 + 0 ≤ _), (by decide : 0 + 0 ≤ _)⟩)
  dsimp only [Pt.U, Pt.locs, Pt.cells, Pt.slots] at X4 l4 y4 z4 st4 hQ4
  subst l4 y4 z4
  obtain ⟨rfl, Nq4, e4⟩ := hQ4
  have N4 := Fr.app N0 Nq4
  obtain ⟨_, _, ⟨T6, L6, k6, n6⟩, -, X6, ⟨Lc6, hQ6, l6, y6, z6⟩, st6⟩ := Jvm.LawKit.callS X4 hx (y := yN0) hown (mvT hZ (ow hw 1 rfl)) (mvT hZ (ow hw 2 rfl)) (mvT hZ (ow hw 3 rfl)) (mvT hZ (ow hw 4 rfl)) (by decide) (backOf (W := 0) (pick1 l Z a0 hw [] pR5 h0 n0 Z0 S_OrderSegment_RXA) hZ (ow hw 4 rfl) (ow hw 3 rfl) (by decide) (by decide)) (g := (mkF m 21 #[.val (.int pI1), .val (.int pI2), .val (.int (4 : Int32)), .val (.int (1 : Int32)), .val (.ref pR3), .unset, .unset] [(.int (1 : Int32))])) rfl (by rw [hml]; rfl) (argsL := [(.int (1 : Int32))]) (rest := []) (lenOf pd_1 rfl) rfl (by show 2 * 0 + _ ≤ _; exact Nat.le_of_eq rfl) (hb hby at_21) (fun _ _ => ⟨rfl, e4, (by decide : 0 + 0 ≤ _), (by decide : 0 + 0 ≤ _)⟩)
  dsimp only [Pt.U, Pt.locs, Pt.cells, Pt.slots] at X6 l6 y6 z6 st6 hQ6
  subst l6 y6 z6
  obtain ⟨rfl, Nq6, e6⟩ := hQ6
  have N6 := Fr.app N4 Nq6
  obtain ⟨cq8, kq8, q8a, q8b, q8c⟩ := isOf hZ e6 E_pR3
  obtain ⟨_, _, ⟨T8, L8, k8, n8⟩, -, X8, ⟨Lc8, hQ8, l8, y8, z8⟩, st8⟩ := X6.virtualBack hx (y := yN3) (z := yN3) hown (mvT hZ (ow hw 10 rfl)) (mvT hZ (ow hw 11 rfl)) (notFace_of_selects (args := #[]) (mvT hZ (ow hw 13 rfl))) (mvT hZ (ow hw 13 rfl)) (mvT hZ (ow hw 12 rfl)) (by decide) (backOf (W := 0) (mf4d l Z a0 hw [] pR3 pR5 pR7 h0 n0 Z0 F_ordinal_pR3 E_pR3 S_OrderSegment_OBX ne_pR5_pR7) hZ (ow hw 14 rfl) (ow hw 6 rfl) (by decide) (by decide)) q8a q8c (g := (mkF m 106 #[.val (.int pI1), .val (.int pI2), .val (.int (4 : Int32)), .val (.int (1 : Int32)), .val (.ref pR3), .val (.ref pR5), .val (.int (0 : Int32))] [(.ref pR5), (.ref pR3)])) rfl (by rw [hml]; rfl) (Steps.refl _) (argsL := [(.ref pR5)]) (rest := []) (lenOf pd_2 rfl) rfl (by show 2 * 0 + _ ≤ _; exact Nat.le_of_eq rfl) (hb hby at_106) (fun _ _ => ⟨rfl, e6, (by decide : 0 + 0 ≤ _), (by decide : 0 + 0 ≤ _)⟩)
  dsimp only [Pt.U, Pt.locs, Pt.cells, Pt.slots] at X8 l8 y8 z8 st8 hQ8
  subst l8 y8 z8
  obtain ⟨rfl, Nq8, e8⟩ := hQ8
  have N8 := Fr.app N6 Nq8
  obtain ⟨fs, hr, hrun, hended, hW, hsame⟩ := X8.leave (v := some (.int (1 : Int32))) (fun h => by rw [Bd.returns] at h; cases h)
  refine ⟨_, _, pre0 _ ?_, hrun, hended, _, _, rfl, ?_, ⟨_, rfl⟩, hW, hsame.mono (by decide) (by decide)⟩
  · show oS p e below s₁ m 0 #[.val (.int pI1), .val (.int pI2), .unset, .unset, .unset, .unset, .unset] [] _
    refine XS.iloadN X0.here hx rfl (hb hby at_0) rfl ?_
    show oS p e below s₁ m 1 #[.val (.int pI1), .val (.int pI2), .unset, .unset, .unset, .unset, .unset] [(.int pI1)] _
    refine X0.ldcInt hx hown (mvT hZ (ow hw 0 rfl)) (g := (mkF m 1 #[.val (.int pI1), .val (.int pI2), .unset, .unset, .unset, .unset, .unset] [(.int pI1)])) rfl (hb hby at_1) _ ?_
    show oS p e below s₁ m 3 #[.val (.int pI1), .val (.int pI2), .unset, .unset, .unset, .unset, .unset] [(.int (2147483647 : Int32)), (.int pI1)] _
    refine XS.iand X0.here hx rfl (hb hby at_3) rfl ?_
    show oS p e below s₁ m 4 #[.val (.int pI1), .val (.int pI2), .unset, .unset, .unset, .unset, .unset] [(.int (pI1 &&& (2147483647 : Int32)))] _
    refine XS.iconst X0.here hx rfl (hb hby at_4) ?_
    show oS p e below s₁ m 5 #[.val (.int pI1), .val (.int pI2), .unset, .unset, .unset, .unset, .unset] [(.int (5 : Int32)), (.int (pI1 &&& (2147483647 : Int32)))] _
    refine iremM (g := (mkF m 5 #[.val (.int pI1), .val (.int pI2), .unset, .unset, .unset, .unset, .unset] [(.int (5 : Int32)), (.int (pI1 &&& (2147483647 : Int32)))])) X0 hx rfl (hb hby at_5) rfl (by decide) ?_
    show Steps p.tables e below (s₁.setTop (mkF m 6 #[.val (.int pI1), .val (.int pI2), .unset, .unset, .unset, .unset, .unset] [(.int ((pI1 &&& (2147483647 : Int32)) % (5 : Int32)))])) _
    rw [hc5]
    show oS p e below s₁ m 6 #[.val (.int pI1), .val (.int pI2), .unset, .unset, .unset, .unset, .unset] [(.int (4 : Int32))] _
    refine XS.istoreN X0.here hx rfl (hb hby at_6) rfl (l' := #[.val (.int pI1), .val (.int pI2), .val (.int (4 : Int32)), .unset, .unset, .unset, .unset]) rfl ?_
    show oS p e below s₁ m 7 #[.val (.int pI1), .val (.int pI2), .val (.int (4 : Int32)), .unset, .unset, .unset, .unset] [] _
    refine XS.iloadN X0.here hx rfl (hb hby at_7) rfl ?_
    show oS p e below s₁ m 8 #[.val (.int pI1), .val (.int pI2), .val (.int (4 : Int32)), .unset, .unset, .unset, .unset] [(.int pI2)] _
    refine X0.ldcInt hx hown (mvT hZ (ow hw 0 rfl)) (g := (mkF m 8 #[.val (.int pI1), .val (.int pI2), .val (.int (4 : Int32)), .unset, .unset, .unset, .unset] [(.int pI2)])) rfl (hb hby at_8) _ ?_
    show oS p e below s₁ m 10 #[.val (.int pI1), .val (.int pI2), .val (.int (4 : Int32)), .unset, .unset, .unset, .unset] [(.int (2147483647 : Int32)), (.int pI2)] _
    refine XS.iand X0.here hx rfl (hb hby at_10) rfl ?_
    show oS p e below s₁ m 11 #[.val (.int pI1), .val (.int pI2), .val (.int (4 : Int32)), .unset, .unset, .unset, .unset] [(.int (pI2 &&& (2147483647 : Int32)))] _
    refine XS.iconst X0.here hx rfl (hb hby at_11) ?_
    show oS p e below s₁ m 12 #[.val (.int pI1), .val (.int pI2), .val (.int (4 : Int32)), .unset, .unset, .unset, .unset] [(.int (5 : Int32)), (.int (pI2 &&& (2147483647 : Int32)))] _
    refine iremM (g := (mkF m 12 #[.val (.int pI1), .val (.int pI2), .val (.int (4 : Int32)), .unset, .unset, .unset, .unset] [(.int (5 : Int32)), (.int (pI2 &&& (2147483647 : Int32)))])) X0 hx rfl (hb hby at_12) rfl (by decide) ?_
    show Steps p.tables e below (s₁.setTop (mkF m 13 #[.val (.int pI1), .val (.int pI2), .val (.int (4 : Int32)), .unset, .unset, .unset, .unset] [(.int ((pI2 &&& (2147483647 : Int32)) % (5 : Int32)))])) _
    rw [hc12]
    show oS p e below s₁ m 13 #[.val (.int pI1), .val (.int pI2), .val (.int (4 : Int32)), .unset, .unset, .unset, .unset] [(.int (1 : Int32))] _
    refine XS.istoreN X0.here hx rfl (hb hby at_13) rfl (l' := #[.val (.int pI1), .val (.int pI2), .val (.int (4 : Int32)), .val (.int (1 : Int32)), .unset, .unset, .unset]) rfl ?_
    show oS p e below s₁ m 14 #[.val (.int pI1), .val (.int pI2), .val (.int (4 : Int32)), .val (.int (1 : Int32)), .unset, .unset, .unset] [] _
    refine XS.iloadN X0.here hx rfl (hb hby at_14) rfl ?_
    show oS p e below s₁ m 15 #[.val (.int pI1), .val (.int pI2), .val (.int (4 : Int32)), .val (.int (1 : Int32)), .unset, .unset, .unset] [(.int (4 : Int32))] _
    refine st4 _ ?_
    show oS p e below T4 m 18 #[.val (.int pI1), .val (.int pI2), .val (.int (4 : Int32)), .val (.int (1 : Int32)), .unset, .unset, .unset] [(.ref pR3)] _
    refine XS.astore X4.here hx rfl (hb hby at_18) rfl rfl (l' := #[.val (.int pI1), .val (.int pI2), .val (.int (4 : Int32)), .val (.int (1 : Int32)), .val (.ref pR3), .unset, .unset]) rfl ?_
    show oS p e below T4 m 20 #[.val (.int pI1), .val (.int pI2), .val (.int (4 : Int32)), .val (.int (1 : Int32)), .val (.ref pR3), .unset, .unset] [] _
    refine XS.iloadN X4.here hx rfl (hb hby at_20) rfl ?_
    show oS p e below T4 m 21 #[.val (.int pI1), .val (.int pI2), .val (.int (4 : Int32)), .val (.int (1 : Int32)), .val (.ref pR3), .unset, .unset] [(.int (1 : Int32))] _
    refine st6 _ ?_
    show oS p e below T6 m 24 #[.val (.int pI1), .val (.int pI2), .val (.int (4 : Int32)), .val (.int (1 : Int32)), .val (.ref pR3), .unset, .unset] [(.ref pR5)] _
    refine XS.astore X6.here hx rfl (hb hby at_24) rfl rfl (l' := #[.val (.int pI1), .val (.int pI2), .val (.int (4 : Int32)), .val (.int (1 : Int32)), .val (.ref pR3), .val (.ref pR5), .unset]) rfl ?_
    show oS p e below T6 m 26 #[.val (.int pI1), .val (.int pI2), .val (.int (4 : Int32)), .val (.int (1 : Int32)), .val (.ref pR3), .val (.ref pR5), .unset] [] _
    refine XS.iloadN X6.here hx rfl (hb hby at_26) rfl ?_
    show oS p e below T6 m 27 #[.val (.int pI1), .val (.int pI2), .val (.int (4 : Int32)), .val (.int (1 : Int32)), .val (.ref pR3), .val (.ref pR5), .unset] [(.int (1 : Int32))] _
    refine XS.ifYes X6.here hx rfl (pc0 := 27) (pc' := 35) rfl (hb hby at_27) rfl ((if0 _ _).trans (feq (by decide : ¬ ((1 : Int32) = (0 : Int32)))).2) (by decide) (by decide) ?_
    show oS p e below T6 m 35 #[.val (.int pI1), .val (.int pI2), .val (.int (4 : Int32)), .val (.int (1 : Int32)), .val (.ref pR3), .val (.ref pR5), .unset] [] _
    refine XS.iloadN X6.here hx rfl (hb hby at_35) rfl ?_
    show oS p e below T6 m 36 #[.val (.int pI1), .val (.int pI2), .val (.int (4 : Int32)), .val (.int (1 : Int32)), .val (.ref pR3), .val (.ref pR5), .unset] [(.int (1 : Int32))] _
    refine XS.iconst X6.here hx rfl (hb hby at_36) ?_
    show oS p e below T6 m 37 #[.val (.int pI1), .val (.int pI2), .val (.int (4 : Int32)), .val (.int (1 : Int32)), .val (.ref pR3), .val (.ref pR5), .unset] [(.int (1 : Int32)), (.int (1 : Int32))] _
    refine XS.icmpNo X6.here hx rfl (hb hby at_37) rfl (teq (by decide : (1 : Int32) = (1 : Int32))).2 ?_
    show oS p e below T6 m 40 #[.val (.int pI1), .val (.int pI2), .val (.int (4 : Int32)), .val (.int (1 : Int32)), .val (.ref pR3), .val (.ref pR5), .unset] [] _
    refine XS.iloadN X6.here hx rfl (hb hby at_40) rfl ?_
    show oS p e below T6 m 41 #[.val (.int pI1), .val (.int pI2), .val (.int (4 : Int32)), .val (.int (1 : Int32)), .val (.ref pR3), .val (.ref pR5), .unset] [(.int (4 : Int32))] _
    refine XS.iconst X6.here hx rfl (hb hby at_41) ?_
    show oS p e below T6 m 42 #[.val (.int pI1), .val (.int pI2), .val (.int (4 : Int32)), .val (.int (1 : Int32)), .val (.ref pR3), .val (.ref pR5), .unset] [(.int (2 : Int32)), (.int (4 : Int32))] _
    refine XS.icmpNo X6.here hx rfl (hb hby at_42) rfl (feq (by decide : ¬ ((4 : Int32) = (2 : Int32)))).1 ?_
    show oS p e below T6 m 45 #[.val (.int pI1), .val (.int pI2), .val (.int (4 : Int32)), .val (.int (1 : Int32)), .val (.ref pR3), .val (.ref pR5), .unset] [] _
    refine XS.iloadN X6.here hx rfl (hb hby at_45) rfl ?_
    show oS p e below T6 m 46 #[.val (.int pI1), .val (.int pI2), .val (.int (4 : Int32)), .val (.int (1 : Int32)), .val (.ref pR3), .val (.ref pR5), .unset] [(.int (1 : Int32))] _
    refine XS.iconst X6.here hx rfl (hb hby at_46) ?_
    show oS p e below T6 m 47 #[.val (.int pI1), .val (.int pI2), .val (.int (4 : Int32)), .val (.int (1 : Int32)), .val (.ref pR3), .val (.ref pR5), .unset] [(.int (1 : Int32)), (.int (1 : Int32))] _
    refine XS.icmpNo X6.here hx rfl (hb hby at_47) rfl (teq (by decide : (1 : Int32) = (1 : Int32))).2 ?_
    show oS p e below T6 m 50 #[.val (.int pI1), .val (.int pI2), .val (.int (4 : Int32)), .val (.int (1 : Int32)), .val (.ref pR3), .val (.ref pR5), .unset] [] _
    refine XS.iloadN X6.here hx rfl (hb hby at_50) rfl ?_
    show oS p e below T6 m 51 #[.val (.int pI1), .val (.int pI2), .val (.int (4 : Int32)), .val (.int (1 : Int32)), .val (.ref pR3), .val (.ref pR5), .unset] [(.int (4 : Int32))] _
    refine XS.iconst X6.here hx rfl (hb hby at_51) ?_
    show oS p e below T6 m 52 #[.val (.int pI1), .val (.int pI2), .val (.int (4 : Int32)), .val (.int (1 : Int32)), .val (.ref pR3), .val (.ref pR5), .unset] [(.int (3 : Int32)), (.int (4 : Int32))] _
    refine XS.icmpNo X6.here hx rfl (hb hby at_52) rfl (feq (by decide : ¬ ((4 : Int32) = (3 : Int32)))).1 ?_
    show oS p e below T6 m 55 #[.val (.int pI1), .val (.int pI2), .val (.int (4 : Int32)), .val (.int (1 : Int32)), .val (.ref pR3), .val (.ref pR5), .unset] [] _
    refine XS.iloadN X6.here hx rfl (hb hby at_55) rfl ?_
    show oS p e below T6 m 56 #[.val (.int pI1), .val (.int pI2), .val (.int (4 : Int32)), .val (.int (1 : Int32)), .val (.ref pR3), .val (.ref pR5), .unset] [(.int (1 : Int32))] _
    refine XS.iconst X6.here hx rfl (hb hby at_56) ?_
    show oS p e below T6 m 57 #[.val (.int pI1), .val (.int pI2), .val (.int (4 : Int32)), .val (.int (1 : Int32)), .val (.ref pR3), .val (.ref pR5), .unset] [(.int (2 : Int32)), (.int (1 : Int32))] _
    refine XS.icmpYes X6.here hx rfl (pc0 := 57) (pc' := 65) rfl (hb hby at_57) rfl (feq (by decide : ¬ ((1 : Int32) = (2 : Int32)))).2 (by decide) (by decide) ?_
    show oS p e below T6 m 65 #[.val (.int pI1), .val (.int pI2), .val (.int (4 : Int32)), .val (.int (1 : Int32)), .val (.ref pR3), .val (.ref pR5), .unset] [] _
    refine XS.iloadN X6.here hx rfl (hb hby at_65) rfl ?_
    show oS p e below T6 m 66 #[.val (.int pI1), .val (.int pI2), .val (.int (4 : Int32)), .val (.int (1 : Int32)), .val (.ref pR3), .val (.ref pR5), .unset] [(.int (1 : Int32))] _
    refine XS.iconst X6.here hx rfl (hb hby at_66) ?_
    show oS p e below T6 m 67 #[.val (.int pI1), .val (.int pI2), .val (.int (4 : Int32)), .val (.int (1 : Int32)), .val (.ref pR3), .val (.ref pR5), .unset] [(.int (3 : Int32)), (.int (1 : Int32))] _
    refine XS.icmpYes X6.here hx rfl (pc0 := 67) (pc' := 75) rfl (hb hby at_67) rfl (feq (by decide : ¬ ((1 : Int32) = (3 : Int32)))).2 (by decide) (by decide) ?_
    show oS p e below T6 m 75 #[.val (.int pI1), .val (.int pI2), .val (.int (4 : Int32)), .val (.int (1 : Int32)), .val (.ref pR3), .val (.ref pR5), .unset] [] _
    refine XS.iloadN X6.here hx rfl (hb hby at_75) rfl ?_
    show oS p e below T6 m 76 #[.val (.int pI1), .val (.int pI2), .val (.int (4 : Int32)), .val (.int (1 : Int32)), .val (.ref pR3), .val (.ref pR5), .unset] [(.int (1 : Int32))] _
    refine XS.iconst X6.here hx rfl (hb hby at_76) ?_
    show oS p e below T6 m 77 #[.val (.int pI1), .val (.int pI2), .val (.int (4 : Int32)), .val (.int (1 : Int32)), .val (.ref pR3), .val (.ref pR5), .unset] [(.int (4 : Int32)), (.int (1 : Int32))] _
    refine XS.icmpYes X6.here hx rfl (pc0 := 77) (pc' := 85) rfl (hb hby at_77) rfl (feq (by decide : ¬ ((1 : Int32) = (4 : Int32)))).2 (by decide) (by decide) ?_
    show oS p e below T6 m 85 #[.val (.int pI1), .val (.int pI2), .val (.int (4 : Int32)), .val (.int (1 : Int32)), .val (.ref pR3), .val (.ref pR5), .unset] [] _
    refine XS.iloadN X6.here hx rfl (hb hby at_85) rfl ?_
    show oS p e below T6 m 86 #[.val (.int pI1), .val (.int pI2), .val (.int (4 : Int32)), .val (.int (1 : Int32)), .val (.ref pR3), .val (.ref pR5), .unset] [(.int (1 : Int32))] _
    refine XS.iconst X6.here hx rfl (hb hby at_86) ?_
    show oS p e below T6 m 87 #[.val (.int pI1), .val (.int pI2), .val (.int (4 : Int32)), .val (.int (1 : Int32)), .val (.ref pR3), .val (.ref pR5), .unset] [(.int (3 : Int32)), (.int (1 : Int32))] _
    refine XS.icmpYes X6.here hx rfl (pc0 := 87) (pc' := 99) rfl (hb hby at_87) rfl (feq (by decide : ¬ ((1 : Int32) = (3 : Int32)))).2 (by decide) (by decide) ?_
    show oS p e below T6 m 99 #[.val (.int pI1), .val (.int pI2), .val (.int (4 : Int32)), .val (.int (1 : Int32)), .val (.ref pR3), .val (.ref pR5), .unset] [] _
    refine XS.iconst X6.here hx rfl (hb hby at_99) ?_
    show oS p e below T6 m 100 #[.val (.int pI1), .val (.int pI2), .val (.int (4 : Int32)), .val (.int (1 : Int32)), .val (.ref pR3), .val (.ref pR5), .unset] [(.int (0 : Int32))] _
    refine XS.istore X6.here hx rfl (hb hby at_100) rfl (l' := #[.val (.int pI1), .val (.int pI2), .val (.int (4 : Int32)), .val (.int (1 : Int32)), .val (.ref pR3), .val (.ref pR5), .val (.int (0 : Int32))]) rfl ?_
    show oS p e below T6 m 102 #[.val (.int pI1), .val (.int pI2), .val (.int (4 : Int32)), .val (.int (1 : Int32)), .val (.ref pR3), .val (.ref pR5), .val (.int (0 : Int32))] [] _
    refine XS.aload X6.here hx rfl (hb hby at_102) rfl rfl ?_
    show oS p e below T6 m 104 #[.val (.int pI1), .val (.int pI2), .val (.int (4 : Int32)), .val (.int (1 : Int32)), .val (.ref pR3), .val (.ref pR5), .val (.int (0 : Int32))] [(.ref pR3)] _
    refine XS.aload X6.here hx rfl (hb hby at_104) rfl rfl ?_
    show oS p e below T6 m 106 #[.val (.int pI1), .val (.int pI2), .val (.int (4 : Int32)), .val (.int (1 : Int32)), .val (.ref pR3), .val (.ref pR5), .val (.int (0 : Int32))] [(.ref pR5), (.ref pR3)] _
    refine st8.trans ?_
    show oS p e below T8 m 109 #[.val (.int pI1), .val (.int pI2), .val (.int (4 : Int32)), .val (.int (1 : Int32)), .val (.ref pR3), .val (.ref pR5), .val (.int (0 : Int32))] [(.int (0 : Int32))] _
    refine XS.iload X8.here hx rfl (hb hby at_109) rfl ?_
    show oS p e below T8 m 111 #[.val (.int pI1), .val (.int pI2), .val (.int (4 : Int32)), .val (.int (1 : Int32)), .val (.ref pR3), .val (.ref pR5), .val (.int (0 : Int32))] [(.int (0 : Int32)), (.int (0 : Int32))] _
    refine XS.icmpNo X8.here hx rfl (hb hby at_111) rfl (teq (by decide : (0 : Int32) = (0 : Int32))).2 ?_
    show oS p e below T8 m 114 #[.val (.int pI1), .val (.int pI2), .val (.int (4 : Int32)), .val (.int (1 : Int32)), .val (.ref pR3), .val (.ref pR5), .val (.int (0 : Int32))] [] _
    refine XS.iconst X8.here hx rfl (hb hby at_114) ?_
    show oS p e below T8 m 115 #[.val (.int pI1), .val (.int pI2), .val (.int (4 : Int32)), .val (.int (1 : Int32)), .val (.ref pR3), .val (.ref pR5), .val (.int (0 : Int32))] [(.int (1 : Int32))] _
    refine XS.goto X8.here hx rfl (pc0 := 115) (pc' := 119) rfl (hb hby at_115) (by decide) (by decide) ?_
    show oS p e below T8 m 119 #[.val (.int pI1), .val (.int pI2), .val (.int (4 : Int32)), .val (.int (1 : Int32)), .val (.ref pR3), .val (.ref pR5), .val (.int (0 : Int32))] [(.int (1 : Int32))] _
    exact retN X8 hx (t := .boolean) Bd.returns (by simp) (hb hby at_119) hr
  · show Qlaw4_1 Z pI1 pI2 pR3 pR5 pR7 h0 n0 _ T8.heap _
    rw [e8]
    exact ⟨rfl, N8⟩
theorem ef_law4_2 (m : MethodId) (pI1 : Int32) (pI2 : Int32) : entryFrame m #[(.int pI1), (.int pI2)] maxLocals = mkF m 0 #[.val (.int pI1), .val (.int pI2), .unset, .unset, .unset, .unset, .unset] [] := by first | (simp [entryFrame, mkF, argsToLocals, Value.category, maxLocals]; done) | rfl
def Qlaw4_2 (Z : State) (pI1 : Int32) (pI2 : Int32) (pR3 : Addr) (pR5 : Addr) (pR7 : Addr) (h0 : Heap) (n0 : Nat) (v : Option Value) (h : Heap) (L : List Loc) : Prop := v = some (.int (1 : Int32)) ∧ Fr n0 L
set_option maxRecDepth 65536 in
set_option maxHeartbeats 40000000 in
theorem law4_2 (l : Launch) (Z : State) (a0 : Array Value) (hw : ∀ d ∈ tables_1, d.before a0 Z = true) (ws : List Jvm.Cond) (pI1 : Int32) (pI2 : Int32) (pR3 : Addr) (pR5 : Addr) (pR7 : Addr) (h0 : Heap) (n0 : Nat) (Z0 : n0 ≤ h0.size) (S_OrderSegment_NTE : Sta Z h0 "com/example/vaxwire/vaxwire/reply/OrderSegment" "NTE" "Lcom/example/vaxwire/vaxwire/reply/OrderSegment;" (.ref pR3)) (S_OrderSegment_RXR : Sta Z h0 "com/example/vaxwire/vaxwire/reply/OrderSegment" "RXR" "Lcom/example/vaxwire/vaxwire/reply/OrderSegment;" (.ref pR5)) (F_ordinal_pR3 : Fld Z h0 pR3 "java/lang/Enum" "ordinal" "I" (.int (4 : Int32))) (E_pR3 : Exa Z h0 pR3 "com/example/vaxwire/vaxwire/reply/OrderSegment") (S_OrderSegment_OBX : Sta Z h0 "com/example/vaxwire/vaxwire/reply/OrderSegment" "OBX" "Lcom/example/vaxwire/vaxwire/reply/OrderSegment;" (.ref pR7)) (ne_pR5_pR7 : pR5 ≠ pR7) (hc5 : ((pI1 &&& (2147483647 : Int32)) % (5 : Int32)) = (4 : Int32)) (hc12 : ((pI2 &&& (2147483647 : Int32)) % (5 : Int32)) = (2 : Int32)) :
    MetFree l x (head1 (Jvm.Cond.code x code maxLocals ret :: ws) room_1) (fun a U => a = #[(.int pI1), (.int pI2)] ∧ Z.Warmed39 U.vm ∧ U.heap = h0) (fun _ _ _ _ _ => True) (fun _ U o U' => ∃ v L, o = .returned v ∧ Qlaw4_2 Z pI1 pI2 pR3 pR5 pR7 h0 n0 v U'.heap L ∧ FrameEnd U o U' L room_1.cells room_1.slots) := by
  refine MetFree.of_bodySF (plainFor_of_name pn_0) hisR ?_
  intro p e s m args below meth c s₁ Bd hml0 hP hK
  obtain ⟨rfl, hZ, hh⟩ := hP
  have hx := Bd.exec
  have hby := Bd.bytes
  have hml : c.maxLocals = 7 := hml0
  have hown : s.vm.findClass "com/example/vaxwire/vaxwire/reply/OrderSegmentMayFollowPinLaw" = some m.cls := findClass_of_methodNamed Bd.named
  have hnm := (name_of_methodNamed Bd.named Bd.method).1
  have X0 : Stand p l e room_1 s m #[(.int pI1), (.int pI2)] below meth c s₁ [] 0 0 := Stand.of_body Bd
  have e0 : s₁.heap = h0 := by rw [← hh, Bd.state]; rfl
  have N0 := Fr.nil n0
  have pre0 : ∀ t, Steps p.tables e below (s₁.setTop (mkF m 0 #[.val (.int pI1), .val (.int pI2), .unset, .unset, .unset, .unset, .unset] [])) t → Steps p.tables e below (s₁.setTop (entryFrame m #[(.int pI1), (.int pI2)] maxLocals)) t := fun t k => castTop (ef_law4_2 m pI1 pI2) k
  obtain ⟨_, _, ⟨T4, L4, k4, n4⟩, -, X4, ⟨Lc4, hQ4, l4, y4, z4⟩, st4⟩ := Jvm.LawKit.callS X0 hx (y := yN0) hown (mvT hZ (ow hw 1 rfl)) (mvT hZ (ow hw 2 rfl)) (mvT hZ (ow hw 3 rfl)) (mvT hZ (ow hw 4 rfl)) (by decide) (backOf (W := 0) (pick4 l Z a0 hw [] pR3 h0 n0 Z0 S_OrderSegment_NTE) hZ (ow hw 4 rfl) (ow hw 3 rfl) (by decide) (by decide)) (g := (mkF m 15 #[.val (.int pI1), .val (.int pI2), .val (.int (4 : Int32)), .val (.int (2 : Int32)), .unset, .unset, .unset] [(.int (4 : Int32))])) rfl (by rw [hml]; rfl) (argsL := [(.int (4 : Int32))]) (rest := []) (lenOf pd_1 rfl) rfl (by show 2 * 0 + _ ≤ _; exact Nat.le_of_eq rfl) (hb hby at_15) (fun _ _ => ⟨rfl, e0, (by decide : 0 + 0 ≤ _), (by decide : 0 + 0 ≤ _)⟩)
  dsimp only [Pt.U, Pt.locs, Pt.cells, Pt.slots] at X4 l4 y4 z4 st4 hQ4
  subst l4 y4 z4
  obtain ⟨rfl, Nq4, e4⟩ := hQ4
  have N4 := Fr.app N0 Nq4
  obtain ⟨_, _, ⟨T6, L6, k6, n6⟩, -, X6, ⟨Lc6, hQ6, l6, y6, z6⟩, st6⟩ := Jvm.LawKit.callS X4 hx (y := yN0) hown (mvT hZ (ow hw 1 rfl)) (mvT hZ (ow hw 2 rfl)) (mvT hZ (ow hw 3 rfl)) (mvT hZ (ow hw 4 rfl)) (by decide) (backOf (W := 0) (pick2 l Z a0 hw [] pR5 h0 n0 Z0 S_OrderSegment_RXR) hZ (ow hw 4 rfl) (ow hw 3 rfl) (by decide) (by decide)) (g := (mkF m 21 #[.val (.int pI1), .val (.int pI2), .val (.int (4 : Int32)), .val (.int (2 : Int32)), .val (.ref pR3), .unset, .unset] [(.int (2 : Int32))])) rfl (by rw [hml]; rfl) (argsL := [(.int (2 : Int32))]) (rest := []) (lenOf pd_1 rfl) rfl (by show 2 * 0 + _ ≤ _; exact Nat.le_of_eq rfl) (hb hby at_21) (fun _ _ => ⟨rfl, e4, (by decide : 0 + 0 ≤ _), (by decide : 0 + 0 ≤ _)⟩)
  dsimp only [Pt.U, Pt.locs, Pt.cells, Pt.slots] at X6 l6 y6 z6 st6 hQ6
  subst l6 y6 z6
  obtain ⟨rfl, Nq6, e6⟩ := hQ6
  have N6 := Fr.app N4 Nq6
  obtain ⟨cq8, kq8, q8a, q8b, q8c⟩ := isOf hZ e6 E_pR3
  obtain ⟨_, _, ⟨T8, L8, k8, n8⟩, -, X8, ⟨Lc8, hQ8, l8, y8, z8⟩, st8⟩ := X6.virtualBack hx (y := yN3) (z := yN3) hown (mvT hZ (ow hw 10 rfl)) (mvT hZ (ow hw 11 rfl)) (notFace_of_selects (args := #[]) (mvT hZ (ow hw 13 rfl))) (mvT hZ (ow hw 13 rfl)) (mvT hZ (ow hw 12 rfl)) (by decide) (backOf (W := 0) (mf4d l Z a0 hw [] pR3 pR5 pR7 h0 n0 Z0 F_ordinal_pR3 E_pR3 S_OrderSegment_OBX ne_pR5_pR7) hZ (ow hw 14 rfl) (ow hw 6 rfl) (by decide) (by decide)) q8a q8c (g := (mkF m 106 #[.val (.int pI1), .val (.int pI2), .val (.int (4 : Int32)), .val (.int (2 : Int32)), .val (.ref pR3), .val (.ref pR5), .val (.int (0 : Int32))] [(.ref pR5), (.ref pR3)])) rfl (by rw [hml]; rfl) (Steps.refl _) (argsL := [(.ref pR5)]) (rest := []) (lenOf pd_2 rfl) rfl (by show 2 * 0 + _ ≤ _; exact Nat.le_of_eq rfl) (hb hby at_106) (fun _ _ => ⟨rfl, e6, (by decide : 0 + 0 ≤ _), (by decide : 0 + 0 ≤ _)⟩)
  dsimp only [Pt.U, Pt.locs, Pt.cells, Pt.slots] at X8 l8 y8 z8 st8 hQ8
  subst l8 y8 z8
  obtain ⟨rfl, Nq8, e8⟩ := hQ8
  have N8 := Fr.app N6 Nq8
  obtain ⟨fs, hr, hrun, hended, hW, hsame⟩ := X8.leave (v := some (.int (1 : Int32))) (fun h => by rw [Bd.returns] at h; cases h)
  refine ⟨_, _, pre0 _ ?_, hrun, hended, _, _, rfl, ?_, ⟨_, rfl⟩, hW, hsame.mono (by decide) (by decide)⟩
  · show oS p e below s₁ m 0 #[.val (.int pI1), .val (.int pI2), .unset, .unset, .unset, .unset, .unset] [] _
    refine XS.iloadN X0.here hx rfl (hb hby at_0) rfl ?_
    show oS p e below s₁ m 1 #[.val (.int pI1), .val (.int pI2), .unset, .unset, .unset, .unset, .unset] [(.int pI1)] _
    refine X0.ldcInt hx hown (mvT hZ (ow hw 0 rfl)) (g := (mkF m 1 #[.val (.int pI1), .val (.int pI2), .unset, .unset, .unset, .unset, .unset] [(.int pI1)])) rfl (hb hby at_1) _ ?_
    show oS p e below s₁ m 3 #[.val (.int pI1), .val (.int pI2), .unset, .unset, .unset, .unset, .unset] [(.int (2147483647 : Int32)), (.int pI1)] _
    refine XS.iand X0.here hx rfl (hb hby at_3) rfl ?_
    show oS p e below s₁ m 4 #[.val (.int pI1), .val (.int pI2), .unset, .unset, .unset, .unset, .unset] [(.int (pI1 &&& (2147483647 : Int32)))] _
    refine XS.iconst X0.here hx rfl (hb hby at_4) ?_
    show oS p e below s₁ m 5 #[.val (.int pI1), .val (.int pI2), .unset, .unset, .unset, .unset, .unset] [(.int (5 : Int32)), (.int (pI1 &&& (2147483647 : Int32)))] _
    refine iremM (g := (mkF m 5 #[.val (.int pI1), .val (.int pI2), .unset, .unset, .unset, .unset, .unset] [(.int (5 : Int32)), (.int (pI1 &&& (2147483647 : Int32)))])) X0 hx rfl (hb hby at_5) rfl (by decide) ?_
    show Steps p.tables e below (s₁.setTop (mkF m 6 #[.val (.int pI1), .val (.int pI2), .unset, .unset, .unset, .unset, .unset] [(.int ((pI1 &&& (2147483647 : Int32)) % (5 : Int32)))])) _
    rw [hc5]
    show oS p e below s₁ m 6 #[.val (.int pI1), .val (.int pI2), .unset, .unset, .unset, .unset, .unset] [(.int (4 : Int32))] _
    refine XS.istoreN X0.here hx rfl (hb hby at_6) rfl (l' := #[.val (.int pI1), .val (.int pI2), .val (.int (4 : Int32)), .unset, .unset, .unset, .unset]) rfl ?_
    show oS p e below s₁ m 7 #[.val (.int pI1), .val (.int pI2), .val (.int (4 : Int32)), .unset, .unset, .unset, .unset] [] _
    refine XS.iloadN X0.here hx rfl (hb hby at_7) rfl ?_
    show oS p e below s₁ m 8 #[.val (.int pI1), .val (.int pI2), .val (.int (4 : Int32)), .unset, .unset, .unset, .unset] [(.int pI2)] _
    refine X0.ldcInt hx hown (mvT hZ (ow hw 0 rfl)) (g := (mkF m 8 #[.val (.int pI1), .val (.int pI2), .val (.int (4 : Int32)), .unset, .unset, .unset, .unset] [(.int pI2)])) rfl (hb hby at_8) _ ?_
    show oS p e below s₁ m 10 #[.val (.int pI1), .val (.int pI2), .val (.int (4 : Int32)), .unset, .unset, .unset, .unset] [(.int (2147483647 : Int32)), (.int pI2)] _
    refine XS.iand X0.here hx rfl (hb hby at_10) rfl ?_
    show oS p e below s₁ m 11 #[.val (.int pI1), .val (.int pI2), .val (.int (4 : Int32)), .unset, .unset, .unset, .unset] [(.int (pI2 &&& (2147483647 : Int32)))] _
    refine XS.iconst X0.here hx rfl (hb hby at_11) ?_
    show oS p e below s₁ m 12 #[.val (.int pI1), .val (.int pI2), .val (.int (4 : Int32)), .unset, .unset, .unset, .unset] [(.int (5 : Int32)), (.int (pI2 &&& (2147483647 : Int32)))] _
    refine iremM (g := (mkF m 12 #[.val (.int pI1), .val (.int pI2), .val (.int (4 : Int32)), .unset, .unset, .unset, .unset] [(.int (5 : Int32)), (.int (pI2 &&& (2147483647 : Int32)))])) X0 hx rfl (hb hby at_12) rfl (by decide) ?_
    show Steps p.tables e below (s₁.setTop (mkF m 13 #[.val (.int pI1), .val (.int pI2), .val (.int (4 : Int32)), .unset, .unset, .unset, .unset] [(.int ((pI2 &&& (2147483647 : Int32)) % (5 : Int32)))])) _
    rw [hc12]
    show oS p e below s₁ m 13 #[.val (.int pI1), .val (.int pI2), .val (.int (4 : Int32)), .unset, .unset, .unset, .unset] [(.int (2 : Int32))] _
    refine XS.istoreN X0.here hx rfl (hb hby at_13) rfl (l' := #[.val (.int pI1), .val (.int pI2), .val (.int (4 : Int32)), .val (.int (2 : Int32)), .unset, .unset, .unset]) rfl ?_
    show oS p e below s₁ m 14 #[.val (.int pI1), .val (.int pI2), .val (.int (4 : Int32)), .val (.int (2 : Int32)), .unset, .unset, .unset] [] _
    refine XS.iloadN X0.here hx rfl (hb hby at_14) rfl ?_
    show oS p e below s₁ m 15 #[.val (.int pI1), .val (.int pI2), .val (.int (4 : Int32)), .val (.int (2 : Int32)), .unset, .unset, .unset] [(.int (4 : Int32))] _
    refine st4 _ ?_
    show oS p e below T4 m 18 #[.val (.int pI1), .val (.int pI2), .val (.int (4 : Int32)), .val (.int (2 : Int32)), .unset, .unset, .unset] [(.ref pR3)] _
    refine XS.astore X4.here hx rfl (hb hby at_18) rfl rfl (l' := #[.val (.int pI1), .val (.int pI2), .val (.int (4 : Int32)), .val (.int (2 : Int32)), .val (.ref pR3), .unset, .unset]) rfl ?_
    show oS p e below T4 m 20 #[.val (.int pI1), .val (.int pI2), .val (.int (4 : Int32)), .val (.int (2 : Int32)), .val (.ref pR3), .unset, .unset] [] _
    refine XS.iloadN X4.here hx rfl (hb hby at_20) rfl ?_
    show oS p e below T4 m 21 #[.val (.int pI1), .val (.int pI2), .val (.int (4 : Int32)), .val (.int (2 : Int32)), .val (.ref pR3), .unset, .unset] [(.int (2 : Int32))] _
    refine st6 _ ?_
    show oS p e below T6 m 24 #[.val (.int pI1), .val (.int pI2), .val (.int (4 : Int32)), .val (.int (2 : Int32)), .val (.ref pR3), .unset, .unset] [(.ref pR5)] _
    refine XS.astore X6.here hx rfl (hb hby at_24) rfl rfl (l' := #[.val (.int pI1), .val (.int pI2), .val (.int (4 : Int32)), .val (.int (2 : Int32)), .val (.ref pR3), .val (.ref pR5), .unset]) rfl ?_
    show oS p e below T6 m 26 #[.val (.int pI1), .val (.int pI2), .val (.int (4 : Int32)), .val (.int (2 : Int32)), .val (.ref pR3), .val (.ref pR5), .unset] [] _
    refine XS.iloadN X6.here hx rfl (hb hby at_26) rfl ?_
    show oS p e below T6 m 27 #[.val (.int pI1), .val (.int pI2), .val (.int (4 : Int32)), .val (.int (2 : Int32)), .val (.ref pR3), .val (.ref pR5), .unset] [(.int (2 : Int32))] _
    refine XS.ifYes X6.here hx rfl (pc0 := 27) (pc' := 35) rfl (hb hby at_27) rfl ((if0 _ _).trans (feq (by decide : ¬ ((2 : Int32) = (0 : Int32)))).2) (by decide) (by decide) ?_
    show oS p e below T6 m 35 #[.val (.int pI1), .val (.int pI2), .val (.int (4 : Int32)), .val (.int (2 : Int32)), .val (.ref pR3), .val (.ref pR5), .unset] [] _
    refine XS.iloadN X6.here hx rfl (hb hby at_35) rfl ?_
    show oS p e below T6 m 36 #[.val (.int pI1), .val (.int pI2), .val (.int (4 : Int32)), .val (.int (2 : Int32)), .val (.ref pR3), .val (.ref pR5), .unset] [(.int (2 : Int32))] _
    refine XS.iconst X6.here hx rfl (hb hby at_36) ?_
    show oS p e below T6 m 37 #[.val (.int pI1), .val (.int pI2), .val (.int (4 : Int32)), .val (.int (2 : Int32)), .val (.ref pR3), .val (.ref pR5), .unset] [(.int (1 : Int32)), (.int (2 : Int32))] _
    refine XS.icmpYes X6.here hx rfl (pc0 := 37) (pc' := 45) rfl (hb hby at_37) rfl (feq (by decide : ¬ ((2 : Int32) = (1 : Int32)))).2 (by decide) (by decide) ?_
    show oS p e below T6 m 45 #[.val (.int pI1), .val (.int pI2), .val (.int (4 : Int32)), .val (.int (2 : Int32)), .val (.ref pR3), .val (.ref pR5), .unset] [] _
    refine XS.iloadN X6.here hx rfl (hb hby at_45) rfl ?_
    show oS p e below T6 m 46 #[.val (.int pI1), .val (.int pI2), .val (.int (4 : Int32)), .val (.int (2 : Int32)), .val (.ref pR3), .val (.ref pR5), .unset] [(.int (2 : Int32))] _
    refine XS.iconst X6.here hx rfl (hb hby at_46) ?_
    show oS p e below T6 m 47 #[.val (.int pI1), .val (.int pI2), .val (.int (4 : Int32)), .val (.int (2 : Int32)), .val (.ref pR3), .val (.ref pR5), .unset] [(.int (1 : Int32)), (.int (2 : Int32))] _
    refine XS.icmpYes X6.here hx rfl (pc0 := 47) (pc' := 55) rfl (hb hby at_47) rfl (feq (by decide : ¬ ((2 : Int32) = (1 : Int32)))).2 (by decide) (by decide) ?_
    show oS p e below T6 m 55 #[.val (.int pI1), .val (.int pI2), .val (.int (4 : Int32)), .val (.int (2 : Int32)), .val (.ref pR3), .val (.ref pR5), .unset] [] _
    refine XS.iloadN X6.here hx rfl (hb hby at_55) rfl ?_
    show oS p e below T6 m 56 #[.val (.int pI1), .val (.int pI2), .val (.int (4 : Int32)), .val (.int (2 : Int32)), .val (.ref pR3), .val (.ref pR5), .unset] [(.int (2 : Int32))] _
    refine XS.iconst X6.here hx rfl (hb hby at_56) ?_
    show oS p e below T6 m 57 #[.val (.int pI1), .val (.int pI2), .val (.int (4 : Int32)), .val (.int (2 : Int32)), .val (.ref pR3), .val (.ref pR5), .unset] [(.int (2 : Int32)), (.int (2 : Int32))] _
    refine XS.icmpNo X6.here hx rfl (hb hby at_57) rfl (teq (by decide : (2 : Int32) = (2 : Int32))).2 ?_
    show oS p e below T6 m 60 #[.val (.int pI1), .val (.int pI2), .val (.int (4 : Int32)), .val (.int (2 : Int32)), .val (.ref pR3), .val (.ref pR5), .unset] [] _
    refine XS.iloadN X6.here hx rfl (hb hby at_60) rfl ?_
    show oS p e below T6 m 61 #[.val (.int pI1), .val (.int pI2), .val (.int (4 : Int32)), .val (.int (2 : Int32)), .val (.ref pR3), .val (.ref pR5), .unset] [(.int (4 : Int32))] _
    refine XS.iconst X6.here hx rfl (hb hby at_61) ?_
    show oS p e below T6 m 62 #[.val (.int pI1), .val (.int pI2), .val (.int (4 : Int32)), .val (.int (2 : Int32)), .val (.ref pR3), .val (.ref pR5), .unset] [(.int (3 : Int32)), (.int (4 : Int32))] _
    refine XS.icmpNo X6.here hx rfl (hb hby at_62) rfl (feq (by decide : ¬ ((4 : Int32) = (3 : Int32)))).1 ?_
    show oS p e below T6 m 65 #[.val (.int pI1), .val (.int pI2), .val (.int (4 : Int32)), .val (.int (2 : Int32)), .val (.ref pR3), .val (.ref pR5), .unset] [] _
    refine XS.iloadN X6.here hx rfl (hb hby at_65) rfl ?_
    show oS p e below T6 m 66 #[.val (.int pI1), .val (.int pI2), .val (.int (4 : Int32)), .val (.int (2 : Int32)), .val (.ref pR3), .val (.ref pR5), .unset] [(.int (2 : Int32))] _
    refine XS.iconst X6.here hx rfl (hb hby at_66) ?_
    show oS p e below T6 m 67 #[.val (.int pI1), .val (.int pI2), .val (.int (4 : Int32)), .val (.int (2 : Int32)), .val (.ref pR3), .val (.ref pR5), .unset] [(.int (3 : Int32)), (.int (2 : Int32))] _
    refine XS.icmpYes X6.here hx rfl (pc0 := 67) (pc' := 75) rfl (hb hby at_67) rfl (feq (by decide : ¬ ((2 : Int32) = (3 : Int32)))).2 (by decide) (by decide) ?_
    show oS p e below T6 m 75 #[.val (.int pI1), .val (.int pI2), .val (.int (4 : Int32)), .val (.int (2 : Int32)), .val (.ref pR3), .val (.ref pR5), .unset] [] _
    refine XS.iloadN X6.here hx rfl (hb hby at_75) rfl ?_
    show oS p e below T6 m 76 #[.val (.int pI1), .val (.int pI2), .val (.int (4 : Int32)), .val (.int (2 : Int32)), .val (.ref pR3), .val (.ref pR5), .unset] [(.int (2 : Int32))] _
    refine XS.iconst X6.here hx rfl (hb hby at_76) ?_
    show oS p e below T6 m 77 #[.val (.int pI1), .val (.int pI2), .val (.int (4 : Int32)), .val (.int (2 : Int32)), .val (.ref pR3), .val (.ref pR5), .unset] [(.int (4 : Int32)), (.int (2 : Int32))] _
    refine XS.icmpYes X6.here hx rfl (pc0 := 77) (pc' := 85) rfl (hb hby at_77) rfl (feq (by decide : ¬ ((2 : Int32) = (4 : Int32)))).2 (by decide) (by decide) ?_
    show oS p e below T6 m 85 #[.val (.int pI1), .val (.int pI2), .val (.int (4 : Int32)), .val (.int (2 : Int32)), .val (.ref pR3), .val (.ref pR5), .unset] [] _
    refine XS.iloadN X6.here hx rfl (hb hby at_85) rfl ?_
    show oS p e below T6 m 86 #[.val (.int pI1), .val (.int pI2), .val (.int (4 : Int32)), .val (.int (2 : Int32)), .val (.ref pR3), .val (.ref pR5), .unset] [(.int (2 : Int32))] _
    refine XS.iconst X6.here hx rfl (hb hby at_86) ?_
    show oS p e below T6 m 87 #[.val (.int pI1), .val (.int pI2), .val (.int (4 : Int32)), .val (.int (2 : Int32)), .val (.ref pR3), .val (.ref pR5), .unset] [(.int (3 : Int32)), (.int (2 : Int32))] _
    refine XS.icmpYes X6.here hx rfl (pc0 := 87) (pc' := 99) rfl (hb hby at_87) rfl (feq (by decide : ¬ ((2 : Int32) = (3 : Int32)))).2 (by decide) (by decide) ?_
    show oS p e below T6 m 99 #[.val (.int pI1), .val (.int pI2), .val (.int (4 : Int32)), .val (.int (2 : Int32)), .val (.ref pR3), .val (.ref pR5), .unset] [] _
    refine XS.iconst X6.here hx rfl (hb hby at_99) ?_
    show oS p e below T6 m 100 #[.val (.int pI1), .val (.int pI2), .val (.int (4 : Int32)), .val (.int (2 : Int32)), .val (.ref pR3), .val (.ref pR5), .unset] [(.int (0 : Int32))] _
    refine XS.istore X6.here hx rfl (hb hby at_100) rfl (l' := #[.val (.int pI1), .val (.int pI2), .val (.int (4 : Int32)), .val (.int (2 : Int32)), .val (.ref pR3), .val (.ref pR5), .val (.int (0 : Int32))]) rfl ?_
    show oS p e below T6 m 102 #[.val (.int pI1), .val (.int pI2), .val (.int (4 : Int32)), .val (.int (2 : Int32)), .val (.ref pR3), .val (.ref pR5), .val (.int (0 : Int32))] [] _
    refine XS.aload X6.here hx rfl (hb hby at_102) rfl rfl ?_
    show oS p e below T6 m 104 #[.val (.int pI1), .val (.int pI2), .val (.int (4 : Int32)), .val (.int (2 : Int32)), .val (.ref pR3), .val (.ref pR5), .val (.int (0 : Int32))] [(.ref pR3)] _
    refine XS.aload X6.here hx rfl (hb hby at_104) rfl rfl ?_
    show oS p e below T6 m 106 #[.val (.int pI1), .val (.int pI2), .val (.int (4 : Int32)), .val (.int (2 : Int32)), .val (.ref pR3), .val (.ref pR5), .val (.int (0 : Int32))] [(.ref pR5), (.ref pR3)] _
    refine st8.trans ?_
    show oS p e below T8 m 109 #[.val (.int pI1), .val (.int pI2), .val (.int (4 : Int32)), .val (.int (2 : Int32)), .val (.ref pR3), .val (.ref pR5), .val (.int (0 : Int32))] [(.int (0 : Int32))] _
    refine XS.iload X8.here hx rfl (hb hby at_109) rfl ?_
    show oS p e below T8 m 111 #[.val (.int pI1), .val (.int pI2), .val (.int (4 : Int32)), .val (.int (2 : Int32)), .val (.ref pR3), .val (.ref pR5), .val (.int (0 : Int32))] [(.int (0 : Int32)), (.int (0 : Int32))] _
    refine XS.icmpNo X8.here hx rfl (hb hby at_111) rfl (teq (by decide : (0 : Int32) = (0 : Int32))).2 ?_
    show oS p e below T8 m 114 #[.val (.int pI1), .val (.int pI2), .val (.int (4 : Int32)), .val (.int (2 : Int32)), .val (.ref pR3), .val (.ref pR5), .val (.int (0 : Int32))] [] _
    refine XS.iconst X8.here hx rfl (hb hby at_114) ?_
    show oS p e below T8 m 115 #[.val (.int pI1), .val (.int pI2), .val (.int (4 : Int32)), .val (.int (2 : Int32)), .val (.ref pR3), .val (.ref pR5), .val (.int (0 : Int32))] [(.int (1 : Int32))] _
    refine XS.goto X8.here hx rfl (pc0 := 115) (pc' := 119) rfl (hb hby at_115) (by decide) (by decide) ?_
    show oS p e below T8 m 119 #[.val (.int pI1), .val (.int pI2), .val (.int (4 : Int32)), .val (.int (2 : Int32)), .val (.ref pR3), .val (.ref pR5), .val (.int (0 : Int32))] [(.int (1 : Int32))] _
    exact retN X8 hx (t := .boolean) Bd.returns (by simp) (hb hby at_119) hr
  · show Qlaw4_2 Z pI1 pI2 pR3 pR5 pR7 h0 n0 _ T8.heap _
    rw [e8]
    exact ⟨rfl, N8⟩
theorem ef_law4_3 (m : MethodId) (pI1 : Int32) (pI2 : Int32) : entryFrame m #[(.int pI1), (.int pI2)] maxLocals = mkF m 0 #[.val (.int pI1), .val (.int pI2), .unset, .unset, .unset, .unset, .unset] [] := by first | (simp [entryFrame, mkF, argsToLocals, Value.category, maxLocals]; done) | rfl
def Qlaw4_3 (Z : State) (pI1 : Int32) (pI2 : Int32) (pR3 : Addr) (pR5 : Addr) (h0 : Heap) (n0 : Nat) (v : Option Value) (h : Heap) (L : List Loc) : Prop := v = some (.int (1 : Int32)) ∧ Fr n0 L
set_option maxRecDepth 65536 in
set_option maxHeartbeats 40000000 in
theorem law4_3 (l : Launch) (Z : State) (a0 : Array Value) (hw : ∀ d ∈ tables_1, d.before a0 Z = true) (ws : List Jvm.Cond) (pI1 : Int32) (pI2 : Int32) (pR3 : Addr) (pR5 : Addr) (h0 : Heap) (n0 : Nat) (Z0 : n0 ≤ h0.size) (S_OrderSegment_NTE : Sta Z h0 "com/example/vaxwire/vaxwire/reply/OrderSegment" "NTE" "Lcom/example/vaxwire/vaxwire/reply/OrderSegment;" (.ref pR3)) (S_OrderSegment_OBX : Sta Z h0 "com/example/vaxwire/vaxwire/reply/OrderSegment" "OBX" "Lcom/example/vaxwire/vaxwire/reply/OrderSegment;" (.ref pR5)) (F_ordinal_pR3 : Fld Z h0 pR3 "java/lang/Enum" "ordinal" "I" (.int (4 : Int32))) (E_pR3 : Exa Z h0 pR3 "com/example/vaxwire/vaxwire/reply/OrderSegment") (hc5 : ((pI1 &&& (2147483647 : Int32)) % (5 : Int32)) = (4 : Int32)) (hc12 : ((pI2 &&& (2147483647 : Int32)) % (5 : Int32)) = (3 : Int32)) :
    MetFree l x (head1 (Jvm.Cond.code x code maxLocals ret :: ws) room_1) (fun a U => a = #[(.int pI1), (.int pI2)] ∧ Z.Warmed39 U.vm ∧ U.heap = h0) (fun _ _ _ _ _ => True) (fun _ U o U' => ∃ v L, o = .returned v ∧ Qlaw4_3 Z pI1 pI2 pR3 pR5 h0 n0 v U'.heap L ∧ FrameEnd U o U' L room_1.cells room_1.slots) := by
  refine MetFree.of_bodySF (plainFor_of_name pn_0) hisR ?_
  intro p e s m args below meth c s₁ Bd hml0 hP hK
  obtain ⟨rfl, hZ, hh⟩ := hP
  have hx := Bd.exec
  have hby := Bd.bytes
  have hml : c.maxLocals = 7 := hml0
  have hown : s.vm.findClass "com/example/vaxwire/vaxwire/reply/OrderSegmentMayFollowPinLaw" = some m.cls := findClass_of_methodNamed Bd.named
  have hnm := (name_of_methodNamed Bd.named Bd.method).1
  have X0 : Stand p l e room_1 s m #[(.int pI1), (.int pI2)] below meth c s₁ [] 0 0 := Stand.of_body Bd
  have e0 : s₁.heap = h0 := by rw [← hh, Bd.state]; rfl
  have N0 := Fr.nil n0
  have pre0 : ∀ t, Steps p.tables e below (s₁.setTop (mkF m 0 #[.val (.int pI1), .val (.int pI2), .unset, .unset, .unset, .unset, .unset] [])) t → Steps p.tables e below (s₁.setTop (entryFrame m #[(.int pI1), (.int pI2)] maxLocals)) t := fun t k => castTop (ef_law4_3 m pI1 pI2) k
  obtain ⟨_, _, ⟨T4, L4, k4, n4⟩, -, X4, ⟨Lc4, hQ4, l4, y4, z4⟩, st4⟩ := Jvm.LawKit.callS X0 hx (y := yN0) hown (mvT hZ (ow hw 1 rfl)) (mvT hZ (ow hw 2 rfl)) (mvT hZ (ow hw 3 rfl)) (mvT hZ (ow hw 4 rfl)) (by decide) (backOf (W := 0) (pick4 l Z a0 hw [] pR3 h0 n0 Z0 S_OrderSegment_NTE) hZ (ow hw 4 rfl) (ow hw 3 rfl) (by decide) (by decide)) (g := (mkF m 15 #[.val (.int pI1), .val (.int pI2), .val (.int (4 : Int32)), .val (.int (3 : Int32)), .unset, .unset, .unset] [(.int (4 : Int32))])) rfl (by rw [hml]; rfl) (argsL := [(.int (4 : Int32))]) (rest := []) (lenOf pd_1 rfl) rfl (by show 2 * 0 + _ ≤ _; exact Nat.le_of_eq rfl) (hb hby at_15) (fun _ _ => ⟨rfl, e0, (by decide : 0 + 0 ≤ _), (by decide : 0 + 0 ≤ _)⟩)
  dsimp only [Pt.U, Pt.locs, Pt.cells, Pt.slots] at X4 l4 y4 z4 st4 hQ4
  subst l4 y4 z4
  obtain ⟨rfl, Nq4, e4⟩ := hQ4
  have N4 := Fr.app N0 Nq4
  obtain ⟨_, _, ⟨T6, L6, k6, n6⟩, -, X6, ⟨Lc6, hQ6, l6, y6, z6⟩, st6⟩ := Jvm.LawKit.callS X4 hx (y := yN0) hown (mvT hZ (ow hw 1 rfl)) (mvT hZ (ow hw 2 rfl)) (mvT hZ (ow hw 3 rfl)) (mvT hZ (ow hw 4 rfl)) (by decide) (backOf (W := 0) (pick3 l Z a0 hw [] pR5 h0 n0 Z0 S_OrderSegment_OBX) hZ (ow hw 4 rfl) (ow hw 3 rfl) (by decide) (by decide)) (g := (mkF m 21 #[.val (.int pI1), .val (.int pI2), .val (.int (4 : Int32)), .val (.int (3 : Int32)), .val (.ref pR3), .unset, .unset] [(.int (3 : Int32))])) rfl (by rw [hml]; rfl) (argsL := [(.int (3 : Int32))]) (rest := []) (lenOf pd_1 rfl) rfl (by show 2 * 0 + _ ≤ _; exact Nat.le_of_eq rfl) (hb hby at_21) (fun _ _ => ⟨rfl, e4, (by decide : 0 + 0 ≤ _), (by decide : 0 + 0 ≤ _)⟩)
  dsimp only [Pt.U, Pt.locs, Pt.cells, Pt.slots] at X6 l6 y6 z6 st6 hQ6
  subst l6 y6 z6
  obtain ⟨rfl, Nq6, e6⟩ := hQ6
  have N6 := Fr.app N4 Nq6
  obtain ⟨cq7, kq7, q7a, q7b, q7c⟩ := isOf hZ e6 E_pR3
  obtain ⟨_, _, ⟨T7, L7, k7, n7⟩, -, X7, ⟨Lc7, hQ7, l7, y7, z7⟩, st7⟩ := X6.virtualBack hx (y := yN3) (z := yN3) hown (mvT hZ (ow hw 10 rfl)) (mvT hZ (ow hw 11 rfl)) (notFace_of_selects (args := #[]) (mvT hZ (ow hw 13 rfl))) (mvT hZ (ow hw 13 rfl)) (mvT hZ (ow hw 12 rfl)) (by decide) (backOf (W := 0) (mf4s l Z a0 hw [] pR3 pR5 pR5 h0 n0 Z0 F_ordinal_pR3 E_pR3 S_OrderSegment_OBX rfl) hZ (ow hw 14 rfl) (ow hw 6 rfl) (by decide) (by decide)) q7a q7c (g := (mkF m 106 #[.val (.int pI1), .val (.int pI2), .val (.int (4 : Int32)), .val (.int (3 : Int32)), .val (.ref pR3), .val (.ref pR5), .val (.int (1 : Int32))] [(.ref pR5), (.ref pR3)])) rfl (by rw [hml]; rfl) (Steps.refl _) (argsL := [(.ref pR5)]) (rest := []) (lenOf pd_2 rfl) rfl (by show 2 * 0 + _ ≤ _; exact Nat.le_of_eq rfl) (hb hby at_106) (fun _ _ => ⟨rfl, e6, (by decide : 0 + 0 ≤ _), (by decide : 0 + 0 ≤ _)⟩)
  dsimp only [Pt.U, Pt.locs, Pt.cells, Pt.slots] at X7 l7 y7 z7 st7 hQ7
  subst l7 y7 z7
  obtain ⟨rfl, Nq7, e7⟩ := hQ7
  have N7 := Fr.app N6 Nq7
  obtain ⟨fs, hr, hrun, hended, hW, hsame⟩ := X7.leave (v := some (.int (1 : Int32))) (fun h => by rw [Bd.returns] at h; cases h)
  refine ⟨_, _, pre0 _ ?_, hrun, hended, _, _, rfl, ?_, ⟨_, rfl⟩, hW, hsame.mono (by decide) (by decide)⟩
  · show oS p e below s₁ m 0 #[.val (.int pI1), .val (.int pI2), .unset, .unset, .unset, .unset, .unset] [] _
    refine XS.iloadN X0.here hx rfl (hb hby at_0) rfl ?_
    show oS p e below s₁ m 1 #[.val (.int pI1), .val (.int pI2), .unset, .unset, .unset, .unset, .unset] [(.int pI1)] _
    refine X0.ldcInt hx hown (mvT hZ (ow hw 0 rfl)) (g := (mkF m 1 #[.val (.int pI1), .val (.int pI2), .unset, .unset, .unset, .unset, .unset] [(.int pI1)])) rfl (hb hby at_1) _ ?_
    show oS p e below s₁ m 3 #[.val (.int pI1), .val (.int pI2), .unset, .unset, .unset, .unset, .unset] [(.int (2147483647 : Int32)), (.int pI1)] _
    refine XS.iand X0.here hx rfl (hb hby at_3) rfl ?_
    show oS p e below s₁ m 4 #[.val (.int pI1), .val (.int pI2), .unset, .unset, .unset, .unset, .unset] [(.int (pI1 &&& (2147483647 : Int32)))] _
    refine XS.iconst X0.here hx rfl (hb hby at_4) ?_
    show oS p e below s₁ m 5 #[.val (.int pI1), .val (.int pI2), .unset, .unset, .unset, .unset, .unset] [(.int (5 : Int32)), (.int (pI1 &&& (2147483647 : Int32)))] _
    refine iremM (g := (mkF m 5 #[.val (.int pI1), .val (.int pI2), .unset, .unset, .unset, .unset, .unset] [(.int (5 : Int32)), (.int (pI1 &&& (2147483647 : Int32)))])) X0 hx rfl (hb hby at_5) rfl (by decide) ?_
    show Steps p.tables e below (s₁.setTop (mkF m 6 #[.val (.int pI1), .val (.int pI2), .unset, .unset, .unset, .unset, .unset] [(.int ((pI1 &&& (2147483647 : Int32)) % (5 : Int32)))])) _
    rw [hc5]
    show oS p e below s₁ m 6 #[.val (.int pI1), .val (.int pI2), .unset, .unset, .unset, .unset, .unset] [(.int (4 : Int32))] _
    refine XS.istoreN X0.here hx rfl (hb hby at_6) rfl (l' := #[.val (.int pI1), .val (.int pI2), .val (.int (4 : Int32)), .unset, .unset, .unset, .unset]) rfl ?_
    show oS p e below s₁ m 7 #[.val (.int pI1), .val (.int pI2), .val (.int (4 : Int32)), .unset, .unset, .unset, .unset] [] _
    refine XS.iloadN X0.here hx rfl (hb hby at_7) rfl ?_
    show oS p e below s₁ m 8 #[.val (.int pI1), .val (.int pI2), .val (.int (4 : Int32)), .unset, .unset, .unset, .unset] [(.int pI2)] _
    refine X0.ldcInt hx hown (mvT hZ (ow hw 0 rfl)) (g := (mkF m 8 #[.val (.int pI1), .val (.int pI2), .val (.int (4 : Int32)), .unset, .unset, .unset, .unset] [(.int pI2)])) rfl (hb hby at_8) _ ?_
    show oS p e below s₁ m 10 #[.val (.int pI1), .val (.int pI2), .val (.int (4 : Int32)), .unset, .unset, .unset, .unset] [(.int (2147483647 : Int32)), (.int pI2)] _
    refine XS.iand X0.here hx rfl (hb hby at_10) rfl ?_
    show oS p e below s₁ m 11 #[.val (.int pI1), .val (.int pI2), .val (.int (4 : Int32)), .unset, .unset, .unset, .unset] [(.int (pI2 &&& (2147483647 : Int32)))] _
    refine XS.iconst X0.here hx rfl (hb hby at_11) ?_
    show oS p e below s₁ m 12 #[.val (.int pI1), .val (.int pI2), .val (.int (4 : Int32)), .unset, .unset, .unset, .unset] [(.int (5 : Int32)), (.int (pI2 &&& (2147483647 : Int32)))] _
    refine iremM (g := (mkF m 12 #[.val (.int pI1), .val (.int pI2), .val (.int (4 : Int32)), .unset, .unset, .unset, .unset] [(.int (5 : Int32)), (.int (pI2 &&& (2147483647 : Int32)))])) X0 hx rfl (hb hby at_12) rfl (by decide) ?_
    show Steps p.tables e below (s₁.setTop (mkF m 13 #[.val (.int pI1), .val (.int pI2), .val (.int (4 : Int32)), .unset, .unset, .unset, .unset] [(.int ((pI2 &&& (2147483647 : Int32)) % (5 : Int32)))])) _
    rw [hc12]
    show oS p e below s₁ m 13 #[.val (.int pI1), .val (.int pI2), .val (.int (4 : Int32)), .unset, .unset, .unset, .unset] [(.int (3 : Int32))] _
    refine XS.istoreN X0.here hx rfl (hb hby at_13) rfl (l' := #[.val (.int pI1), .val (.int pI2), .val (.int (4 : Int32)), .val (.int (3 : Int32)), .unset, .unset, .unset]) rfl ?_
    show oS p e below s₁ m 14 #[.val (.int pI1), .val (.int pI2), .val (.int (4 : Int32)), .val (.int (3 : Int32)), .unset, .unset, .unset] [] _
    refine XS.iloadN X0.here hx rfl (hb hby at_14) rfl ?_
    show oS p e below s₁ m 15 #[.val (.int pI1), .val (.int pI2), .val (.int (4 : Int32)), .val (.int (3 : Int32)), .unset, .unset, .unset] [(.int (4 : Int32))] _
    refine st4 _ ?_
    show oS p e below T4 m 18 #[.val (.int pI1), .val (.int pI2), .val (.int (4 : Int32)), .val (.int (3 : Int32)), .unset, .unset, .unset] [(.ref pR3)] _
    refine XS.astore X4.here hx rfl (hb hby at_18) rfl rfl (l' := #[.val (.int pI1), .val (.int pI2), .val (.int (4 : Int32)), .val (.int (3 : Int32)), .val (.ref pR3), .unset, .unset]) rfl ?_
    show oS p e below T4 m 20 #[.val (.int pI1), .val (.int pI2), .val (.int (4 : Int32)), .val (.int (3 : Int32)), .val (.ref pR3), .unset, .unset] [] _
    refine XS.iloadN X4.here hx rfl (hb hby at_20) rfl ?_
    show oS p e below T4 m 21 #[.val (.int pI1), .val (.int pI2), .val (.int (4 : Int32)), .val (.int (3 : Int32)), .val (.ref pR3), .unset, .unset] [(.int (3 : Int32))] _
    refine st6 _ ?_
    show oS p e below T6 m 24 #[.val (.int pI1), .val (.int pI2), .val (.int (4 : Int32)), .val (.int (3 : Int32)), .val (.ref pR3), .unset, .unset] [(.ref pR5)] _
    refine XS.astore X6.here hx rfl (hb hby at_24) rfl rfl (l' := #[.val (.int pI1), .val (.int pI2), .val (.int (4 : Int32)), .val (.int (3 : Int32)), .val (.ref pR3), .val (.ref pR5), .unset]) rfl ?_
    show oS p e below T6 m 26 #[.val (.int pI1), .val (.int pI2), .val (.int (4 : Int32)), .val (.int (3 : Int32)), .val (.ref pR3), .val (.ref pR5), .unset] [] _
    refine XS.iloadN X6.here hx rfl (hb hby at_26) rfl ?_
    show oS p e below T6 m 27 #[.val (.int pI1), .val (.int pI2), .val (.int (4 : Int32)), .val (.int (3 : Int32)), .val (.ref pR3), .val (.ref pR5), .unset] [(.int (3 : Int32))] _
    refine XS.ifYes X6.here hx rfl (pc0 := 27) (pc' := 35) rfl (hb hby at_27) rfl ((if0 _ _).trans (feq (by decide : ¬ ((3 : Int32) = (0 : Int32)))).2) (by decide) (by decide) ?_
    show oS p e below T6 m 35 #[.val (.int pI1), .val (.int pI2), .val (.int (4 : Int32)), .val (.int (3 : Int32)), .val (.ref pR3), .val (.ref pR5), .unset] [] _
    refine XS.iloadN X6.here hx rfl (hb hby at_35) rfl ?_
    show oS p e below T6 m 36 #[.val (.int pI1), .val (.int pI2), .val (.int (4 : Int32)), .val (.int (3 : Int32)), .val (.ref pR3), .val (.ref pR5), .unset] [(.int (3 : Int32))] _
    refine XS.iconst X6.here hx rfl (hb hby at_36) ?_
    show oS p e below T6 m 37 #[.val (.int pI1), .val (.int pI2), .val (.int (4 : Int32)), .val (.int (3 : Int32)), .val (.ref pR3), .val (.ref pR5), .unset] [(.int (1 : Int32)), (.int (3 : Int32))] _
    refine XS.icmpYes X6.here hx rfl (pc0 := 37) (pc' := 45) rfl (hb hby at_37) rfl (feq (by decide : ¬ ((3 : Int32) = (1 : Int32)))).2 (by decide) (by decide) ?_
    show oS p e below T6 m 45 #[.val (.int pI1), .val (.int pI2), .val (.int (4 : Int32)), .val (.int (3 : Int32)), .val (.ref pR3), .val (.ref pR5), .unset] [] _
    refine XS.iloadN X6.here hx rfl (hb hby at_45) rfl ?_
    show oS p e below T6 m 46 #[.val (.int pI1), .val (.int pI2), .val (.int (4 : Int32)), .val (.int (3 : Int32)), .val (.ref pR3), .val (.ref pR5), .unset] [(.int (3 : Int32))] _
    refine XS.iconst X6.here hx rfl (hb hby at_46) ?_
    show oS p e below T6 m 47 #[.val (.int pI1), .val (.int pI2), .val (.int (4 : Int32)), .val (.int (3 : Int32)), .val (.ref pR3), .val (.ref pR5), .unset] [(.int (1 : Int32)), (.int (3 : Int32))] _
    refine XS.icmpYes X6.here hx rfl (pc0 := 47) (pc' := 55) rfl (hb hby at_47) rfl (feq (by decide : ¬ ((3 : Int32) = (1 : Int32)))).2 (by decide) (by decide) ?_
    show oS p e below T6 m 55 #[.val (.int pI1), .val (.int pI2), .val (.int (4 : Int32)), .val (.int (3 : Int32)), .val (.ref pR3), .val (.ref pR5), .unset] [] _
    refine XS.iloadN X6.here hx rfl (hb hby at_55) rfl ?_
    show oS p e below T6 m 56 #[.val (.int pI1), .val (.int pI2), .val (.int (4 : Int32)), .val (.int (3 : Int32)), .val (.ref pR3), .val (.ref pR5), .unset] [(.int (3 : Int32))] _
    refine XS.iconst X6.here hx rfl (hb hby at_56) ?_
    show oS p e below T6 m 57 #[.val (.int pI1), .val (.int pI2), .val (.int (4 : Int32)), .val (.int (3 : Int32)), .val (.ref pR3), .val (.ref pR5), .unset] [(.int (2 : Int32)), (.int (3 : Int32))] _
    refine XS.icmpYes X6.here hx rfl (pc0 := 57) (pc' := 65) rfl (hb hby at_57) rfl (feq (by decide : ¬ ((3 : Int32) = (2 : Int32)))).2 (by decide) (by decide) ?_
    show oS p e below T6 m 65 #[.val (.int pI1), .val (.int pI2), .val (.int (4 : Int32)), .val (.int (3 : Int32)), .val (.ref pR3), .val (.ref pR5), .unset] [] _
    refine XS.iloadN X6.here hx rfl (hb hby at_65) rfl ?_
    show oS p e below T6 m 66 #[.val (.int pI1), .val (.int pI2), .val (.int (4 : Int32)), .val (.int (3 : Int32)), .val (.ref pR3), .val (.ref pR5), .unset] [(.int (3 : Int32))] _
    refine XS.iconst X6.here hx rfl (hb hby at_66) ?_
    show oS p e below T6 m 67 #[.val (.int pI1), .val (.int pI2), .val (.int (4 : Int32)), .val (.int (3 : Int32)), .val (.ref pR3), .val (.ref pR5), .unset] [(.int (3 : Int32)), (.int (3 : Int32))] _
    refine XS.icmpNo X6.here hx rfl (hb hby at_67) rfl (teq (by decide : (3 : Int32) = (3 : Int32))).2 ?_
    show oS p e below T6 m 70 #[.val (.int pI1), .val (.int pI2), .val (.int (4 : Int32)), .val (.int (3 : Int32)), .val (.ref pR3), .val (.ref pR5), .unset] [] _
    refine XS.iloadN X6.here hx rfl (hb hby at_70) rfl ?_
    show oS p e below T6 m 71 #[.val (.int pI1), .val (.int pI2), .val (.int (4 : Int32)), .val (.int (3 : Int32)), .val (.ref pR3), .val (.ref pR5), .unset] [(.int (4 : Int32))] _
    refine XS.iconst X6.here hx rfl (hb hby at_71) ?_
    show oS p e below T6 m 72 #[.val (.int pI1), .val (.int pI2), .val (.int (4 : Int32)), .val (.int (3 : Int32)), .val (.ref pR3), .val (.ref pR5), .unset] [(.int (3 : Int32)), (.int (4 : Int32))] _
    refine XS.icmpNo X6.here hx rfl (hb hby at_72) rfl (feq (by decide : ¬ ((4 : Int32) = (3 : Int32)))).1 ?_
    show oS p e below T6 m 75 #[.val (.int pI1), .val (.int pI2), .val (.int (4 : Int32)), .val (.int (3 : Int32)), .val (.ref pR3), .val (.ref pR5), .unset] [] _
    refine XS.iloadN X6.here hx rfl (hb hby at_75) rfl ?_
    show oS p e below T6 m 76 #[.val (.int pI1), .val (.int pI2), .val (.int (4 : Int32)), .val (.int (3 : Int32)), .val (.ref pR3), .val (.ref pR5), .unset] [(.int (3 : Int32))] _
    refine XS.iconst X6.here hx rfl (hb hby at_76) ?_
    show oS p e below T6 m 77 #[.val (.int pI1), .val (.int pI2), .val (.int (4 : Int32)), .val (.int (3 : Int32)), .val (.ref pR3), .val (.ref pR5), .unset] [(.int (4 : Int32)), (.int (3 : Int32))] _
    refine XS.icmpYes X6.here hx rfl (pc0 := 77) (pc' := 85) rfl (hb hby at_77) rfl (feq (by decide : ¬ ((3 : Int32) = (4 : Int32)))).2 (by decide) (by decide) ?_
    show oS p e below T6 m 85 #[.val (.int pI1), .val (.int pI2), .val (.int (4 : Int32)), .val (.int (3 : Int32)), .val (.ref pR3), .val (.ref pR5), .unset] [] _
    refine XS.iloadN X6.here hx rfl (hb hby at_85) rfl ?_
    show oS p e below T6 m 86 #[.val (.int pI1), .val (.int pI2), .val (.int (4 : Int32)), .val (.int (3 : Int32)), .val (.ref pR3), .val (.ref pR5), .unset] [(.int (3 : Int32))] _
    refine XS.iconst X6.here hx rfl (hb hby at_86) ?_
    show oS p e below T6 m 87 #[.val (.int pI1), .val (.int pI2), .val (.int (4 : Int32)), .val (.int (3 : Int32)), .val (.ref pR3), .val (.ref pR5), .unset] [(.int (3 : Int32)), (.int (3 : Int32))] _
    refine XS.icmpNo X6.here hx rfl (hb hby at_87) rfl (teq (by decide : (3 : Int32) = (3 : Int32))).2 ?_
    show oS p e below T6 m 90 #[.val (.int pI1), .val (.int pI2), .val (.int (4 : Int32)), .val (.int (3 : Int32)), .val (.ref pR3), .val (.ref pR5), .unset] [] _
    refine XS.iloadN X6.here hx rfl (hb hby at_90) rfl ?_
    show oS p e below T6 m 91 #[.val (.int pI1), .val (.int pI2), .val (.int (4 : Int32)), .val (.int (3 : Int32)), .val (.ref pR3), .val (.ref pR5), .unset] [(.int (4 : Int32))] _
    refine XS.iconst X6.here hx rfl (hb hby at_91) ?_
    show oS p e below T6 m 92 #[.val (.int pI1), .val (.int pI2), .val (.int (4 : Int32)), .val (.int (3 : Int32)), .val (.ref pR3), .val (.ref pR5), .unset] [(.int (4 : Int32)), (.int (4 : Int32))] _
    refine XS.icmpNo X6.here hx rfl (hb hby at_92) rfl (teq (by decide : (4 : Int32) = (4 : Int32))).2 ?_
    show oS p e below T6 m 95 #[.val (.int pI1), .val (.int pI2), .val (.int (4 : Int32)), .val (.int (3 : Int32)), .val (.ref pR3), .val (.ref pR5), .unset] [] _
    refine XS.iconst X6.here hx rfl (hb hby at_95) ?_
    show oS p e below T6 m 96 #[.val (.int pI1), .val (.int pI2), .val (.int (4 : Int32)), .val (.int (3 : Int32)), .val (.ref pR3), .val (.ref pR5), .unset] [(.int (1 : Int32))] _
    refine XS.goto X6.here hx rfl (pc0 := 96) (pc' := 100) rfl (hb hby at_96) (by decide) (by decide) ?_
    show oS p e below T6 m 100 #[.val (.int pI1), .val (.int pI2), .val (.int (4 : Int32)), .val (.int (3 : Int32)), .val (.ref pR3), .val (.ref pR5), .unset] [(.int (1 : Int32))] _
    refine XS.istore X6.here hx rfl (hb hby at_100) rfl (l' := #[.val (.int pI1), .val (.int pI2), .val (.int (4 : Int32)), .val (.int (3 : Int32)), .val (.ref pR3), .val (.ref pR5), .val (.int (1 : Int32))]) rfl ?_
    show oS p e below T6 m 102 #[.val (.int pI1), .val (.int pI2), .val (.int (4 : Int32)), .val (.int (3 : Int32)), .val (.ref pR3), .val (.ref pR5), .val (.int (1 : Int32))] [] _
    refine XS.aload X6.here hx rfl (hb hby at_102) rfl rfl ?_
    show oS p e below T6 m 104 #[.val (.int pI1), .val (.int pI2), .val (.int (4 : Int32)), .val (.int (3 : Int32)), .val (.ref pR3), .val (.ref pR5), .val (.int (1 : Int32))] [(.ref pR3)] _
    refine XS.aload X6.here hx rfl (hb hby at_104) rfl rfl ?_
    show oS p e below T6 m 106 #[.val (.int pI1), .val (.int pI2), .val (.int (4 : Int32)), .val (.int (3 : Int32)), .val (.ref pR3), .val (.ref pR5), .val (.int (1 : Int32))] [(.ref pR5), (.ref pR3)] _
    refine st7.trans ?_
    show oS p e below T7 m 109 #[.val (.int pI1), .val (.int pI2), .val (.int (4 : Int32)), .val (.int (3 : Int32)), .val (.ref pR3), .val (.ref pR5), .val (.int (1 : Int32))] [(.int (1 : Int32))] _
    refine XS.iload X7.here hx rfl (hb hby at_109) rfl ?_
    show oS p e below T7 m 111 #[.val (.int pI1), .val (.int pI2), .val (.int (4 : Int32)), .val (.int (3 : Int32)), .val (.ref pR3), .val (.ref pR5), .val (.int (1 : Int32))] [(.int (1 : Int32)), (.int (1 : Int32))] _
    refine XS.icmpNo X7.here hx rfl (hb hby at_111) rfl (teq (by decide : (1 : Int32) = (1 : Int32))).2 ?_
    show oS p e below T7 m 114 #[.val (.int pI1), .val (.int pI2), .val (.int (4 : Int32)), .val (.int (3 : Int32)), .val (.ref pR3), .val (.ref pR5), .val (.int (1 : Int32))] [] _
    refine XS.iconst X7.here hx rfl (hb hby at_114) ?_
    show oS p e below T7 m 115 #[.val (.int pI1), .val (.int pI2), .val (.int (4 : Int32)), .val (.int (3 : Int32)), .val (.ref pR3), .val (.ref pR5), .val (.int (1 : Int32))] [(.int (1 : Int32))] _
    refine XS.goto X7.here hx rfl (pc0 := 115) (pc' := 119) rfl (hb hby at_115) (by decide) (by decide) ?_
    show oS p e below T7 m 119 #[.val (.int pI1), .val (.int pI2), .val (.int (4 : Int32)), .val (.int (3 : Int32)), .val (.ref pR3), .val (.ref pR5), .val (.int (1 : Int32))] [(.int (1 : Int32))] _
    exact retN X7 hx (t := .boolean) Bd.returns (by simp) (hb hby at_119) hr
  · show Qlaw4_3 Z pI1 pI2 pR3 pR5 h0 n0 _ T7.heap _
    rw [e7]
    exact ⟨rfl, N7⟩
theorem ef_law4_4 (m : MethodId) (pI1 : Int32) (pI2 : Int32) : entryFrame m #[(.int pI1), (.int pI2)] maxLocals = mkF m 0 #[.val (.int pI1), .val (.int pI2), .unset, .unset, .unset, .unset, .unset] [] := by first | (simp [entryFrame, mkF, argsToLocals, Value.category, maxLocals]; done) | rfl
def Qlaw4_4 (Z : State) (pI1 : Int32) (pI2 : Int32) (pR3 : Addr) (pR6 : Addr) (h0 : Heap) (n0 : Nat) (v : Option Value) (h : Heap) (L : List Loc) : Prop := v = some (.int (1 : Int32)) ∧ Fr n0 L
set_option maxRecDepth 65536 in
set_option maxHeartbeats 40000000 in
theorem law4_4 (l : Launch) (Z : State) (a0 : Array Value) (hw : ∀ d ∈ tables_1, d.before a0 Z = true) (ws : List Jvm.Cond) (pI1 : Int32) (pI2 : Int32) (pR3 : Addr) (pR6 : Addr) (h0 : Heap) (n0 : Nat) (Z0 : n0 ≤ h0.size) (S_OrderSegment_NTE : Sta Z h0 "com/example/vaxwire/vaxwire/reply/OrderSegment" "NTE" "Lcom/example/vaxwire/vaxwire/reply/OrderSegment;" (.ref pR3)) (F_ordinal_pR3 : Fld Z h0 pR3 "java/lang/Enum" "ordinal" "I" (.int (4 : Int32))) (E_pR3 : Exa Z h0 pR3 "com/example/vaxwire/vaxwire/reply/OrderSegment") (S_OrderSegment_OBX : Sta Z h0 "com/example/vaxwire/vaxwire/reply/OrderSegment" "OBX" "Lcom/example/vaxwire/vaxwire/reply/OrderSegment;" (.ref pR6)) (ne_pR3_pR6 : pR3 ≠ pR6) (hc5 : ((pI1 &&& (2147483647 : Int32)) % (5 : Int32)) = (4 : Int32)) (hc12 : ((pI2 &&& (2147483647 : Int32)) % (5 : Int32)) = (4 : Int32)) :
    MetFree l x (head1 (Jvm.Cond.code x code maxLocals ret :: ws) room_1) (fun a U => a = #[(.int pI1), (.int pI2)] ∧ Z.Warmed39 U.vm ∧ U.heap = h0) (fun _ _ _ _ _ => True) (fun _ U o U' => ∃ v L, o = .returned v ∧ Qlaw4_4 Z pI1 pI2 pR3 pR6 h0 n0 v U'.heap L ∧ FrameEnd U o U' L room_1.cells room_1.slots) := by
  refine MetFree.of_bodySF (plainFor_of_name pn_0) hisR ?_
  intro p e s m args below meth c s₁ Bd hml0 hP hK
  obtain ⟨rfl, hZ, hh⟩ := hP
  have hx := Bd.exec
  have hby := Bd.bytes
  have hml : c.maxLocals = 7 := hml0
  have hown : s.vm.findClass "com/example/vaxwire/vaxwire/reply/OrderSegmentMayFollowPinLaw" = some m.cls := findClass_of_methodNamed Bd.named
  have hnm := (name_of_methodNamed Bd.named Bd.method).1
  have X0 : Stand p l e room_1 s m #[(.int pI1), (.int pI2)] below meth c s₁ [] 0 0 := Stand.of_body Bd
  have e0 : s₁.heap = h0 := by rw [← hh, Bd.state]; rfl
  have N0 := Fr.nil n0
  have pre0 : ∀ t, Steps p.tables e below (s₁.setTop (mkF m 0 #[.val (.int pI1), .val (.int pI2), .unset, .unset, .unset, .unset, .unset] [])) t → Steps p.tables e below (s₁.setTop (entryFrame m #[(.int pI1), (.int pI2)] maxLocals)) t := fun t k => castTop (ef_law4_4 m pI1 pI2) k
  obtain ⟨_, _, ⟨T4, L4, k4, n4⟩, -, X4, ⟨Lc4, hQ4, l4, y4, z4⟩, st4⟩ := Jvm.LawKit.callS X0 hx (y := yN0) hown (mvT hZ (ow hw 1 rfl)) (mvT hZ (ow hw 2 rfl)) (mvT hZ (ow hw 3 rfl)) (mvT hZ (ow hw 4 rfl)) (by decide) (backOf (W := 0) (pick4 l Z a0 hw [] pR3 h0 n0 Z0 S_OrderSegment_NTE) hZ (ow hw 4 rfl) (ow hw 3 rfl) (by decide) (by decide)) (g := (mkF m 15 #[.val (.int pI1), .val (.int pI2), .val (.int (4 : Int32)), .val (.int (4 : Int32)), .unset, .unset, .unset] [(.int (4 : Int32))])) rfl (by rw [hml]; rfl) (argsL := [(.int (4 : Int32))]) (rest := []) (lenOf pd_1 rfl) rfl (by show 2 * 0 + _ ≤ _; exact Nat.le_of_eq rfl) (hb hby at_15) (fun _ _ => ⟨rfl, e0, (by decide : 0 + 0 ≤ _), (by decide : 0 + 0 ≤ _)⟩)
  dsimp only [Pt.U, Pt.locs, Pt.cells, Pt.slots] at X4 l4 y4 z4 st4 hQ4
  subst l4 y4 z4
  obtain ⟨rfl, Nq4, e4⟩ := hQ4
  have N4 := Fr.app N0 Nq4
  obtain ⟨_, _, ⟨T5, L5, k5, n5⟩, -, X5, ⟨Lc5, hQ5, l5, y5, z5⟩, st5⟩ := Jvm.LawKit.callS X4 hx (y := yN0) hown (mvT hZ (ow hw 1 rfl)) (mvT hZ (ow hw 2 rfl)) (mvT hZ (ow hw 3 rfl)) (mvT hZ (ow hw 4 rfl)) (by decide) (backOf (W := 0) (pick4 l Z a0 hw [] pR3 h0 n0 Z0 S_OrderSegment_NTE) hZ (ow hw 4 rfl) (ow hw 3 rfl) (by decide) (by decide)) (g := (mkF m 21 #[.val (.int pI1), .val (.int pI2), .val (.int (4 : Int32)), .val (.int (4 : Int32)), .val (.ref pR3), .unset, .unset] [(.int (4 : Int32))])) rfl (by rw [hml]; rfl) (argsL := [(.int (4 : Int32))]) (rest := []) (lenOf pd_1 rfl) rfl (by show 2 * 0 + _ ≤ _; exact Nat.le_of_eq rfl) (hb hby at_21) (fun _ _ => ⟨rfl, e4, (by decide : 0 + 0 ≤ _), (by decide : 0 + 0 ≤ _)⟩)
  dsimp only [Pt.U, Pt.locs, Pt.cells, Pt.slots] at X5 l5 y5 z5 st5 hQ5
  subst l5 y5 z5
  obtain ⟨rfl, Nq5, e5⟩ := hQ5
  have N5 := Fr.app N4 Nq5
  obtain ⟨cq7, kq7, q7a, q7b, q7c⟩ := isOf hZ e5 E_pR3
  obtain ⟨_, _, ⟨T7, L7, k7, n7⟩, -, X7, ⟨Lc7, hQ7, l7, y7, z7⟩, st7⟩ := X5.virtualBack hx (y := yN3) (z := yN3) hown (mvT hZ (ow hw 10 rfl)) (mvT hZ (ow hw 11 rfl)) (notFace_of_selects (args := #[]) (mvT hZ (ow hw 13 rfl))) (mvT hZ (ow hw 13 rfl)) (mvT hZ (ow hw 12 rfl)) (by decide) (backOf (W := 0) (mf4d l Z a0 hw [] pR3 pR3 pR6 h0 n0 Z0 F_ordinal_pR3 E_pR3 S_OrderSegment_OBX ne_pR3_pR6) hZ (ow hw 14 rfl) (ow hw 6 rfl) (by decide) (by decide)) q7a q7c (g := (mkF m 106 #[.val (.int pI1), .val (.int pI2), .val (.int (4 : Int32)), .val (.int (4 : Int32)), .val (.ref pR3), .val (.ref pR3), .val (.int (0 : Int32))] [(.ref pR3), (.ref pR3)])) rfl (by rw [hml]; rfl) (Steps.refl _) (argsL := [(.ref pR3)]) (rest := []) (lenOf pd_2 rfl) rfl (by show 2 * 0 + _ ≤ _; exact Nat.le_of_eq rfl) (hb hby at_106) (fun _ _ => ⟨rfl, e5, (by decide : 0 + 0 ≤ _), (by decide : 0 + 0 ≤ _)⟩)
  dsimp only [Pt.U, Pt.locs, Pt.cells, Pt.slots] at X7 l7 y7 z7 st7 hQ7
  subst l7 y7 z7
  obtain ⟨rfl, Nq7, e7⟩ := hQ7
  have N7 := Fr.app N5 Nq7
  obtain ⟨fs, hr, hrun, hended, hW, hsame⟩ := X7.leave (v := some (.int (1 : Int32))) (fun h => by rw [Bd.returns] at h; cases h)
  refine ⟨_, _, pre0 _ ?_, hrun, hended, _, _, rfl, ?_, ⟨_, rfl⟩, hW, hsame.mono (by decide) (by decide)⟩
  · show oS p e below s₁ m 0 #[.val (.int pI1), .val (.int pI2), .unset, .unset, .unset, .unset, .unset] [] _
    refine XS.iloadN X0.here hx rfl (hb hby at_0) rfl ?_
    show oS p e below s₁ m 1 #[.val (.int pI1), .val (.int pI2), .unset, .unset, .unset, .unset, .unset] [(.int pI1)] _
    refine X0.ldcInt hx hown (mvT hZ (ow hw 0 rfl)) (g := (mkF m 1 #[.val (.int pI1), .val (.int pI2), .unset, .unset, .unset, .unset, .unset] [(.int pI1)])) rfl (hb hby at_1) _ ?_
    show oS p e below s₁ m 3 #[.val (.int pI1), .val (.int pI2), .unset, .unset, .unset, .unset, .unset] [(.int (2147483647 : Int32)), (.int pI1)] _
    refine XS.iand X0.here hx rfl (hb hby at_3) rfl ?_
    show oS p e below s₁ m 4 #[.val (.int pI1), .val (.int pI2), .unset, .unset, .unset, .unset, .unset] [(.int (pI1 &&& (2147483647 : Int32)))] _
    refine XS.iconst X0.here hx rfl (hb hby at_4) ?_
    show oS p e below s₁ m 5 #[.val (.int pI1), .val (.int pI2), .unset, .unset, .unset, .unset, .unset] [(.int (5 : Int32)), (.int (pI1 &&& (2147483647 : Int32)))] _
    refine iremM (g := (mkF m 5 #[.val (.int pI1), .val (.int pI2), .unset, .unset, .unset, .unset, .unset] [(.int (5 : Int32)), (.int (pI1 &&& (2147483647 : Int32)))])) X0 hx rfl (hb hby at_5) rfl (by decide) ?_
    show Steps p.tables e below (s₁.setTop (mkF m 6 #[.val (.int pI1), .val (.int pI2), .unset, .unset, .unset, .unset, .unset] [(.int ((pI1 &&& (2147483647 : Int32)) % (5 : Int32)))])) _
    rw [hc5]
    show oS p e below s₁ m 6 #[.val (.int pI1), .val (.int pI2), .unset, .unset, .unset, .unset, .unset] [(.int (4 : Int32))] _
    refine XS.istoreN X0.here hx rfl (hb hby at_6) rfl (l' := #[.val (.int pI1), .val (.int pI2), .val (.int (4 : Int32)), .unset, .unset, .unset, .unset]) rfl ?_
    show oS p e below s₁ m 7 #[.val (.int pI1), .val (.int pI2), .val (.int (4 : Int32)), .unset, .unset, .unset, .unset] [] _
    refine XS.iloadN X0.here hx rfl (hb hby at_7) rfl ?_
    show oS p e below s₁ m 8 #[.val (.int pI1), .val (.int pI2), .val (.int (4 : Int32)), .unset, .unset, .unset, .unset] [(.int pI2)] _
    refine X0.ldcInt hx hown (mvT hZ (ow hw 0 rfl)) (g := (mkF m 8 #[.val (.int pI1), .val (.int pI2), .val (.int (4 : Int32)), .unset, .unset, .unset, .unset] [(.int pI2)])) rfl (hb hby at_8) _ ?_
    show oS p e below s₁ m 10 #[.val (.int pI1), .val (.int pI2), .val (.int (4 : Int32)), .unset, .unset, .unset, .unset] [(.int (2147483647 : Int32)), (.int pI2)] _
    refine XS.iand X0.here hx rfl (hb hby at_10) rfl ?_
    show oS p e below s₁ m 11 #[.val (.int pI1), .val (.int pI2), .val (.int (4 : Int32)), .unset, .unset, .unset, .unset] [(.int (pI2 &&& (2147483647 : Int32)))] _
    refine XS.iconst X0.here hx rfl (hb hby at_11) ?_
    show oS p e below s₁ m 12 #[.val (.int pI1), .val (.int pI2), .val (.int (4 : Int32)), .unset, .unset, .unset, .unset] [(.int (5 : Int32)), (.int (pI2 &&& (2147483647 : Int32)))] _
    refine iremM (g := (mkF m 12 #[.val (.int pI1), .val (.int pI2), .val (.int (4 : Int32)), .unset, .unset, .unset, .unset] [(.int (5 : Int32)), (.int (pI2 &&& (2147483647 : Int32)))])) X0 hx rfl (hb hby at_12) rfl (by decide) ?_
    show Steps p.tables e below (s₁.setTop (mkF m 13 #[.val (.int pI1), .val (.int pI2), .val (.int (4 : Int32)), .unset, .unset, .unset, .unset] [(.int ((pI2 &&& (2147483647 : Int32)) % (5 : Int32)))])) _
    rw [hc12]
    show oS p e below s₁ m 13 #[.val (.int pI1), .val (.int pI2), .val (.int (4 : Int32)), .unset, .unset, .unset, .unset] [(.int (4 : Int32))] _
    refine XS.istoreN X0.here hx rfl (hb hby at_13) rfl (l' := #[.val (.int pI1), .val (.int pI2), .val (.int (4 : Int32)), .val (.int (4 : Int32)), .unset, .unset, .unset]) rfl ?_
    show oS p e below s₁ m 14 #[.val (.int pI1), .val (.int pI2), .val (.int (4 : Int32)), .val (.int (4 : Int32)), .unset, .unset, .unset] [] _
    refine XS.iloadN X0.here hx rfl (hb hby at_14) rfl ?_
    show oS p e below s₁ m 15 #[.val (.int pI1), .val (.int pI2), .val (.int (4 : Int32)), .val (.int (4 : Int32)), .unset, .unset, .unset] [(.int (4 : Int32))] _
    refine st4 _ ?_
    show oS p e below T4 m 18 #[.val (.int pI1), .val (.int pI2), .val (.int (4 : Int32)), .val (.int (4 : Int32)), .unset, .unset, .unset] [(.ref pR3)] _
    refine XS.astore X4.here hx rfl (hb hby at_18) rfl rfl (l' := #[.val (.int pI1), .val (.int pI2), .val (.int (4 : Int32)), .val (.int (4 : Int32)), .val (.ref pR3), .unset, .unset]) rfl ?_
    show oS p e below T4 m 20 #[.val (.int pI1), .val (.int pI2), .val (.int (4 : Int32)), .val (.int (4 : Int32)), .val (.ref pR3), .unset, .unset] [] _
    refine XS.iloadN X4.here hx rfl (hb hby at_20) rfl ?_
    show oS p e below T4 m 21 #[.val (.int pI1), .val (.int pI2), .val (.int (4 : Int32)), .val (.int (4 : Int32)), .val (.ref pR3), .unset, .unset] [(.int (4 : Int32))] _
    refine st5 _ ?_
    show oS p e below T5 m 24 #[.val (.int pI1), .val (.int pI2), .val (.int (4 : Int32)), .val (.int (4 : Int32)), .val (.ref pR3), .unset, .unset] [(.ref pR3)] _
    refine XS.astore X5.here hx rfl (hb hby at_24) rfl rfl (l' := #[.val (.int pI1), .val (.int pI2), .val (.int (4 : Int32)), .val (.int (4 : Int32)), .val (.ref pR3), .val (.ref pR3), .unset]) rfl ?_
    show oS p e below T5 m 26 #[.val (.int pI1), .val (.int pI2), .val (.int (4 : Int32)), .val (.int (4 : Int32)), .val (.ref pR3), .val (.ref pR3), .unset] [] _
    refine XS.iloadN X5.here hx rfl (hb hby at_26) rfl ?_
    show oS p e below T5 m 27 #[.val (.int pI1), .val (.int pI2), .val (.int (4 : Int32)), .val (.int (4 : Int32)), .val (.ref pR3), .val (.ref pR3), .unset] [(.int (4 : Int32))] _
    refine XS.ifYes X5.here hx rfl (pc0 := 27) (pc' := 35) rfl (hb hby at_27) rfl ((if0 _ _).trans (feq (by decide : ¬ ((4 : Int32) = (0 : Int32)))).2) (by decide) (by decide) ?_
    show oS p e below T5 m 35 #[.val (.int pI1), .val (.int pI2), .val (.int (4 : Int32)), .val (.int (4 : Int32)), .val (.ref pR3), .val (.ref pR3), .unset] [] _
    refine XS.iloadN X5.here hx rfl (hb hby at_35) rfl ?_
    show oS p e below T5 m 36 #[.val (.int pI1), .val (.int pI2), .val (.int (4 : Int32)), .val (.int (4 : Int32)), .val (.ref pR3), .val (.ref pR3), .unset] [(.int (4 : Int32))] _
    refine XS.iconst X5.here hx rfl (hb hby at_36) ?_
    show oS p e below T5 m 37 #[.val (.int pI1), .val (.int pI2), .val (.int (4 : Int32)), .val (.int (4 : Int32)), .val (.ref pR3), .val (.ref pR3), .unset] [(.int (1 : Int32)), (.int (4 : Int32))] _
    refine XS.icmpYes X5.here hx rfl (pc0 := 37) (pc' := 45) rfl (hb hby at_37) rfl (feq (by decide : ¬ ((4 : Int32) = (1 : Int32)))).2 (by decide) (by decide) ?_
    show oS p e below T5 m 45 #[.val (.int pI1), .val (.int pI2), .val (.int (4 : Int32)), .val (.int (4 : Int32)), .val (.ref pR3), .val (.ref pR3), .unset] [] _
    refine XS.iloadN X5.here hx rfl (hb hby at_45) rfl ?_
    show oS p e below T5 m 46 #[.val (.int pI1), .val (.int pI2), .val (.int (4 : Int32)), .val (.int (4 : Int32)), .val (.ref pR3), .val (.ref pR3), .unset] [(.int (4 : Int32))] _
    refine XS.iconst X5.here hx rfl (hb hby at_46) ?_
    show oS p e below T5 m 47 #[.val (.int pI1), .val (.int pI2), .val (.int (4 : Int32)), .val (.int (4 : Int32)), .val (.ref pR3), .val (.ref pR3), .unset] [(.int (1 : Int32)), (.int (4 : Int32))] _
    refine XS.icmpYes X5.here hx rfl (pc0 := 47) (pc' := 55) rfl (hb hby at_47) rfl (feq (by decide : ¬ ((4 : Int32) = (1 : Int32)))).2 (by decide) (by decide) ?_
    show oS p e below T5 m 55 #[.val (.int pI1), .val (.int pI2), .val (.int (4 : Int32)), .val (.int (4 : Int32)), .val (.ref pR3), .val (.ref pR3), .unset] [] _
    refine XS.iloadN X5.here hx rfl (hb hby at_55) rfl ?_
    show oS p e below T5 m 56 #[.val (.int pI1), .val (.int pI2), .val (.int (4 : Int32)), .val (.int (4 : Int32)), .val (.ref pR3), .val (.ref pR3), .unset] [(.int (4 : Int32))] _
    refine XS.iconst X5.here hx rfl (hb hby at_56) ?_
    show oS p e below T5 m 57 #[.val (.int pI1), .val (.int pI2), .val (.int (4 : Int32)), .val (.int (4 : Int32)), .val (.ref pR3), .val (.ref pR3), .unset] [(.int (2 : Int32)), (.int (4 : Int32))] _
    refine XS.icmpYes X5.here hx rfl (pc0 := 57) (pc' := 65) rfl (hb hby at_57) rfl (feq (by decide : ¬ ((4 : Int32) = (2 : Int32)))).2 (by decide) (by decide) ?_
    show oS p e below T5 m 65 #[.val (.int pI1), .val (.int pI2), .val (.int (4 : Int32)), .val (.int (4 : Int32)), .val (.ref pR3), .val (.ref pR3), .unset] [] _
    refine XS.iloadN X5.here hx rfl (hb hby at_65) rfl ?_
    show oS p e below T5 m 66 #[.val (.int pI1), .val (.int pI2), .val (.int (4 : Int32)), .val (.int (4 : Int32)), .val (.ref pR3), .val (.ref pR3), .unset] [(.int (4 : Int32))] _
    refine XS.iconst X5.here hx rfl (hb hby at_66) ?_
    show oS p e below T5 m 67 #[.val (.int pI1), .val (.int pI2), .val (.int (4 : Int32)), .val (.int (4 : Int32)), .val (.ref pR3), .val (.ref pR3), .unset] [(.int (3 : Int32)), (.int (4 : Int32))] _
    refine XS.icmpYes X5.here hx rfl (pc0 := 67) (pc' := 75) rfl (hb hby at_67) rfl (feq (by decide : ¬ ((4 : Int32) = (3 : Int32)))).2 (by decide) (by decide) ?_
    show oS p e below T5 m 75 #[.val (.int pI1), .val (.int pI2), .val (.int (4 : Int32)), .val (.int (4 : Int32)), .val (.ref pR3), .val (.ref pR3), .unset] [] _
    refine XS.iloadN X5.here hx rfl (hb hby at_75) rfl ?_
    show oS p e below T5 m 76 #[.val (.int pI1), .val (.int pI2), .val (.int (4 : Int32)), .val (.int (4 : Int32)), .val (.ref pR3), .val (.ref pR3), .unset] [(.int (4 : Int32))] _
    refine XS.iconst X5.here hx rfl (hb hby at_76) ?_
    show oS p e below T5 m 77 #[.val (.int pI1), .val (.int pI2), .val (.int (4 : Int32)), .val (.int (4 : Int32)), .val (.ref pR3), .val (.ref pR3), .unset] [(.int (4 : Int32)), (.int (4 : Int32))] _
    refine XS.icmpNo X5.here hx rfl (hb hby at_77) rfl (teq (by decide : (4 : Int32) = (4 : Int32))).2 ?_
    show oS p e below T5 m 80 #[.val (.int pI1), .val (.int pI2), .val (.int (4 : Int32)), .val (.int (4 : Int32)), .val (.ref pR3), .val (.ref pR3), .unset] [] _
    refine XS.iloadN X5.here hx rfl (hb hby at_80) rfl ?_
    show oS p e below T5 m 81 #[.val (.int pI1), .val (.int pI2), .val (.int (4 : Int32)), .val (.int (4 : Int32)), .val (.ref pR3), .val (.ref pR3), .unset] [(.int (4 : Int32))] _
    refine XS.iconst X5.here hx rfl (hb hby at_81) ?_
    show oS p e below T5 m 82 #[.val (.int pI1), .val (.int pI2), .val (.int (4 : Int32)), .val (.int (4 : Int32)), .val (.ref pR3), .val (.ref pR3), .unset] [(.int (3 : Int32)), (.int (4 : Int32))] _
    refine XS.icmpNo X5.here hx rfl (hb hby at_82) rfl (feq (by decide : ¬ ((4 : Int32) = (3 : Int32)))).1 ?_
    show oS p e below T5 m 85 #[.val (.int pI1), .val (.int pI2), .val (.int (4 : Int32)), .val (.int (4 : Int32)), .val (.ref pR3), .val (.ref pR3), .unset] [] _
    refine XS.iloadN X5.here hx rfl (hb hby at_85) rfl ?_
    show oS p e below T5 m 86 #[.val (.int pI1), .val (.int pI2), .val (.int (4 : Int32)), .val (.int (4 : Int32)), .val (.ref pR3), .val (.ref pR3), .unset] [(.int (4 : Int32))] _
    refine XS.iconst X5.here hx rfl (hb hby at_86) ?_
    show oS p e below T5 m 87 #[.val (.int pI1), .val (.int pI2), .val (.int (4 : Int32)), .val (.int (4 : Int32)), .val (.ref pR3), .val (.ref pR3), .unset] [(.int (3 : Int32)), (.int (4 : Int32))] _
    refine XS.icmpYes X5.here hx rfl (pc0 := 87) (pc' := 99) rfl (hb hby at_87) rfl (feq (by decide : ¬ ((4 : Int32) = (3 : Int32)))).2 (by decide) (by decide) ?_
    show oS p e below T5 m 99 #[.val (.int pI1), .val (.int pI2), .val (.int (4 : Int32)), .val (.int (4 : Int32)), .val (.ref pR3), .val (.ref pR3), .unset] [] _
    refine XS.iconst X5.here hx rfl (hb hby at_99) ?_
    show oS p e below T5 m 100 #[.val (.int pI1), .val (.int pI2), .val (.int (4 : Int32)), .val (.int (4 : Int32)), .val (.ref pR3), .val (.ref pR3), .unset] [(.int (0 : Int32))] _
    refine XS.istore X5.here hx rfl (hb hby at_100) rfl (l' := #[.val (.int pI1), .val (.int pI2), .val (.int (4 : Int32)), .val (.int (4 : Int32)), .val (.ref pR3), .val (.ref pR3), .val (.int (0 : Int32))]) rfl ?_
    show oS p e below T5 m 102 #[.val (.int pI1), .val (.int pI2), .val (.int (4 : Int32)), .val (.int (4 : Int32)), .val (.ref pR3), .val (.ref pR3), .val (.int (0 : Int32))] [] _
    refine XS.aload X5.here hx rfl (hb hby at_102) rfl rfl ?_
    show oS p e below T5 m 104 #[.val (.int pI1), .val (.int pI2), .val (.int (4 : Int32)), .val (.int (4 : Int32)), .val (.ref pR3), .val (.ref pR3), .val (.int (0 : Int32))] [(.ref pR3)] _
    refine XS.aload X5.here hx rfl (hb hby at_104) rfl rfl ?_
    show oS p e below T5 m 106 #[.val (.int pI1), .val (.int pI2), .val (.int (4 : Int32)), .val (.int (4 : Int32)), .val (.ref pR3), .val (.ref pR3), .val (.int (0 : Int32))] [(.ref pR3), (.ref pR3)] _
    refine st7.trans ?_
    show oS p e below T7 m 109 #[.val (.int pI1), .val (.int pI2), .val (.int (4 : Int32)), .val (.int (4 : Int32)), .val (.ref pR3), .val (.ref pR3), .val (.int (0 : Int32))] [(.int (0 : Int32))] _
    refine XS.iload X7.here hx rfl (hb hby at_109) rfl ?_
    show oS p e below T7 m 111 #[.val (.int pI1), .val (.int pI2), .val (.int (4 : Int32)), .val (.int (4 : Int32)), .val (.ref pR3), .val (.ref pR3), .val (.int (0 : Int32))] [(.int (0 : Int32)), (.int (0 : Int32))] _
    refine XS.icmpNo X7.here hx rfl (hb hby at_111) rfl (teq (by decide : (0 : Int32) = (0 : Int32))).2 ?_
    show oS p e below T7 m 114 #[.val (.int pI1), .val (.int pI2), .val (.int (4 : Int32)), .val (.int (4 : Int32)), .val (.ref pR3), .val (.ref pR3), .val (.int (0 : Int32))] [] _
    refine XS.iconst X7.here hx rfl (hb hby at_114) ?_
    show oS p e below T7 m 115 #[.val (.int pI1), .val (.int pI2), .val (.int (4 : Int32)), .val (.int (4 : Int32)), .val (.ref pR3), .val (.ref pR3), .val (.int (0 : Int32))] [(.int (1 : Int32))] _
    refine XS.goto X7.here hx rfl (pc0 := 115) (pc' := 119) rfl (hb hby at_115) (by decide) (by decide) ?_
    show oS p e below T7 m 119 #[.val (.int pI1), .val (.int pI2), .val (.int (4 : Int32)), .val (.int (4 : Int32)), .val (.ref pR3), .val (.ref pR3), .val (.int (0 : Int32))] [(.int (1 : Int32))] _
    exact retN X7 hx (t := .boolean) Bd.returns (by simp) (hb hby at_119) hr
  · show Qlaw4_4 Z pI1 pI2 pR3 pR6 h0 n0 _ T7.heap _
    rw [e7]
    exact ⟨rfl, N7⟩
set_option maxRecDepth 65536 in
set_option maxHeartbeats 40000000 in
theorem comes_1 {Post : Tables → Env → Array Value → State → Outcome → State → Prop} (hpost : ∀ tb e args s v u, (limb_1_1.after args s (.returned v) u = true ∧ limb_1_2.after args s (.returned v) u = true ∧ True) → FrameEnd s (.returned v) u (Jvm.fieldLocs frame_1_writes args s ++ Jvm.arrayLocs frame_1_arrays args s ++ Jvm.staticLocs frame_1_statics s) 0 0 → Post tb e args s (.returned v) u) :
    ArmFor flags0 classFile x code maxLocals ret World_1 tables_1 room_1 Calls_1 rest_1 Pre_1 Post := by
  intro l hfl _ _ p e ha hc hk s m args below hf hA hF happ hP
  obtain ⟨hcalls, hrest, hpre⟩ := hP
  obtain ⟨-, -, -, hnamed, -, -, -, hat⟩ := (Spec.applies_iff hf).mp happ
  obtain ⟨hg, hn⟩ := and_e (Cond.before_iff.mp (show (Jvm.Cond.and given_1 narrow_1).before args s = true from hpre))
  obtain ⟨w1, w2⟩ := and_e hg
  obtain ⟨w3, w4⟩ := and_e w2
  obtain ⟨w5, w6⟩ := and_e hn
  obtain ⟨w7, w8⟩ := and_e w6
  obtain ⟨w9, w10⟩ := and_e w8
  obtain ⟨w11, w12⟩ := and_e w10
  obtain ⟨w13, w14⟩ := and_e w12
  obtain ⟨w15, w16⟩ := and_e w14
  obtain ⟨w17, w18⟩ := and_e w16
  obtain ⟨w19, w20⟩ := and_e w18
  obtain ⟨w21, w22⟩ := and_e w20
  obtain ⟨v0, v1, rfl⟩ : ∃ v0 v1 : Value, args = #[v0, v1] := by
    have hs : args.size = 2 := by simpa [Cond.value, given_1] using w1
    obtain ⟨L⟩ := args
    match L, hs with
    | [v0, v1], _ => exact ⟨v0, v1, rfl⟩
  have hw := fun d (hd : d ∈ tables_1) => atoms_spec (ws := Jvm.Cond.code x code maxLocals ret :: tables_1) hat d (List.mem_cons_of_mem _ hd)
  have hfit : Fit s := fun {y c} hc i hi => by
    obtain ⟨ha, rfl⟩ := Array.getElem?_eq_some_iff.mp hc
    have q := List.all_eq_true.mp ((Array.all_eq_true_iff_forall_mem.mp hF) _ (Array.getElem_mem ha)) i (List.mem_range.mpr hi)
    simpa [Array.getElem?_eq_getElem hi] using q
  obtain ⟨i0, ei0⟩ := is_v w3
  obtain rfl : v0 = (.int i0) := Option.some.inj ei0
  obtain ⟨i1, ei1⟩ := is_v w4
  obtain rfl : v1 = (.int i1) := Option.some.inj ei1
  obtain ⟨bR23, ev24⟩ := exa_v w5
  have S25 : Sta s s.heap "com/example/vaxwire/vaxwire/reply/OrderSegment" "ORC" "Lcom/example/vaxwire/vaxwire/reply/OrderSegment;" (.ref bR23) := Sta.start ev24 (Or.inr ⟨(ow hw 6 rfl), (ow hw 7 rfl)⟩)
  have E26 : Exa s s.heap bR23 "com/example/vaxwire/vaxwire/reply/OrderSegment" := Exa.start ev24 w5
  obtain ⟨bR27, ev28⟩ := exa_v w7
  have S29 : Sta s s.heap "com/example/vaxwire/vaxwire/reply/OrderSegment" "OBX" "Lcom/example/vaxwire/vaxwire/reply/OrderSegment;" (.ref bR27) := Sta.start ev28 (Or.inr ⟨(ow hw 6 rfl), (ow hw 9 rfl)⟩)
  have E30 : Exa s s.heap bR27 "com/example/vaxwire/vaxwire/reply/OrderSegment" := Exa.start ev28 w7
  obtain ⟨bR31, ev32⟩ := exa_v w11
  have S33 : Sta s s.heap "com/example/vaxwire/vaxwire/reply/OrderSegment" "NTE" "Lcom/example/vaxwire/vaxwire/reply/OrderSegment;" (.ref bR31) := Sta.start ev32 (Or.inr ⟨(ow hw 6 rfl), (ow hw 25 rfl)⟩)
  have E34 : Exa s s.heap bR31 "com/example/vaxwire/vaxwire/reply/OrderSegment" := Exa.start ev32 w11
  obtain ⟨bR35, ev36⟩ := exa_v w13
  have S37 : Sta s s.heap "com/example/vaxwire/vaxwire/reply/OrderSegment" "RXA" "Lcom/example/vaxwire/vaxwire/reply/OrderSegment;" (.ref bR35) := Sta.start ev36 (Or.inr ⟨(ow hw 6 rfl), (ow hw 27 rfl)⟩)
  have E38 : Exa s s.heap bR35 "com/example/vaxwire/vaxwire/reply/OrderSegment" := Exa.start ev36 w13
  obtain ⟨bR39, ev40⟩ := exa_v w21
  have S41 : Sta s s.heap "com/example/vaxwire/vaxwire/reply/OrderSegment" "RXR" "Lcom/example/vaxwire/vaxwire/reply/OrderSegment;" (.ref bR39) := Sta.start ev40 (Or.inr ⟨(ow hw 6 rfl), (ow hw 31 rfl)⟩)
  have E42 : Exa s s.heap bR39 "com/example/vaxwire/vaxwire/reply/OrderSegment" := Exa.start ev40 w21
  have ev43 := Cond.eq_int (Cond.before_iff.mpr w9) rfl
  have F44 : Fld s s.heap bR23 "java/lang/Enum" "ordinal" "I" (.int (0 : Int32)) := Fld.start ((fld_at ev24).symm.trans ev43)
  have ev45 := Cond.eq_int (Cond.before_iff.mpr w15) rfl
  have F46 : Fld s s.heap bR31 "java/lang/Enum" "ordinal" "I" (.int (4 : Int32)) := Fld.start ((fld_at ev32).symm.trans ev45)
  have ev47 := Cond.eq_int (Cond.before_iff.mpr w17) rfl
  have F48 : Fld s s.heap bR35 "java/lang/Enum" "ordinal" "I" (.int (1 : Int32)) := Fld.start ((fld_at ev36).symm.trans ev47)
  have ev49 := Cond.eq_int (Cond.before_iff.mpr w19) rfl
  have F50 : Fld s s.heap bR27 "java/lang/Enum" "ordinal" "I" (.int (3 : Int32)) := Fld.start ((fld_at ev28).symm.trans ev49)
  have ev51 := Cond.eq_int (Cond.before_iff.mpr w22) rfl
  have F52 : Fld s s.heap bR39 "java/lang/Enum" "ordinal" "I" (.int (2 : Int32)) := Fld.start ((fld_at ev40).symm.trans ev51)
  obtain ⟨hm0, hm1⟩ := own_mod i0 (5 : Int32) 5 (by decide) (by decide)
  obtain ⟨hm2, hm3⟩ := own_mod i1 (5 : Int32) 5 (by decide) (by decide)
  rcases own_in5 hm0 hm1 with hcs | hcs | hcs | hcs | hcs
  · rcases own_in5 hm2 hm3 with hcr | hcr | hcr | hcr | hcr
    · obtain ⟨n, o, h1, h2, h3, _, L, rfl, ⟨rfl, N⟩, hq⟩ := law0_0 l s _ hw tables_1 i0 i1 bR23 s.heap s.heap.size (Nat.le_refl _) S25 F44 E26 hcs hcr p e ha hc hk s m _ below hf ((Spec.applies_iff_loose hf).mp happ).1 ⟨rfl, State.Warmed39.refl s, rfl⟩ trivial
      exact ⟨n, _, h1, h2, h3, hpost _ _ _ _ _ _ ⟨Cond.after_iff.mpr rfl, Cond.after_iff.mpr (eq_i res_at (Term.int_eval (1)) rfl), trivial⟩ ⟨hq.1, hq.2.1, (hq.2.2.sift fun y hy => Or.inr (N y hy)).mono (by decide) (by decide)⟩⟩
    · obtain ⟨n, o, h1, h2, h3, _, L, rfl, ⟨rfl, N⟩, hq⟩ := law0_1 l s _ hw tables_1 i0 i1 bR23 bR35 s.heap s.heap.size (Nat.le_refl _) S25 S37 F44 E26 hcs hcr p e ha hc hk s m _ below hf ((Spec.applies_iff_loose hf).mp happ).1 ⟨rfl, State.Warmed39.refl s, rfl⟩ trivial
      exact ⟨n, _, h1, h2, h3, hpost _ _ _ _ _ _ ⟨Cond.after_iff.mpr rfl, Cond.after_iff.mpr (eq_i res_at (Term.int_eval (1)) rfl), trivial⟩ ⟨hq.1, hq.2.1, (hq.2.2.sift fun y hy => Or.inr (N y hy)).mono (by decide) (by decide)⟩⟩
    · obtain ⟨n, o, h1, h2, h3, _, L, rfl, ⟨rfl, N⟩, hq⟩ := law0_2 l s _ hw tables_1 i0 i1 bR23 bR39 s.heap s.heap.size (Nat.le_refl _) S25 S41 F44 E26 hcs hcr p e ha hc hk s m _ below hf ((Spec.applies_iff_loose hf).mp happ).1 ⟨rfl, State.Warmed39.refl s, rfl⟩ trivial
      exact ⟨n, _, h1, h2, h3, hpost _ _ _ _ _ _ ⟨Cond.after_iff.mpr rfl, Cond.after_iff.mpr (eq_i res_at (Term.int_eval (1)) rfl), trivial⟩ ⟨hq.1, hq.2.1, (hq.2.2.sift fun y hy => Or.inr (N y hy)).mono (by decide) (by decide)⟩⟩
    · obtain ⟨n, o, h1, h2, h3, _, L, rfl, ⟨rfl, N⟩, hq⟩ := law0_3 l s _ hw tables_1 i0 i1 bR23 bR27 s.heap s.heap.size (Nat.le_refl _) S25 S29 F44 E26 hcs hcr p e ha hc hk s m _ below hf ((Spec.applies_iff_loose hf).mp happ).1 ⟨rfl, State.Warmed39.refl s, rfl⟩ trivial
      exact ⟨n, _, h1, h2, h3, hpost _ _ _ _ _ _ ⟨Cond.after_iff.mpr rfl, Cond.after_iff.mpr (eq_i res_at (Term.int_eval (1)) rfl), trivial⟩ ⟨hq.1, hq.2.1, (hq.2.2.sift fun y hy => Or.inr (N y hy)).mono (by decide) (by decide)⟩⟩
    · obtain ⟨n, o, h1, h2, h3, _, L, rfl, ⟨rfl, N⟩, hq⟩ := law0_4 l s _ hw tables_1 i0 i1 bR23 bR31 s.heap s.heap.size (Nat.le_refl _) S25 S33 F44 E26 hcs hcr p e ha hc hk s m _ below hf ((Spec.applies_iff_loose hf).mp happ).1 ⟨rfl, State.Warmed39.refl s, rfl⟩ trivial
      exact ⟨n, _, h1, h2, h3, hpost _ _ _ _ _ _ ⟨Cond.after_iff.mpr rfl, Cond.after_iff.mpr (eq_i res_at (Term.int_eval (1)) rfl), trivial⟩ ⟨hq.1, hq.2.1, (hq.2.2.sift fun y hy => Or.inr (N y hy)).mono (by decide) (by decide)⟩⟩
  · rcases own_in5 hm2 hm3 with hcr | hcr | hcr | hcr | hcr
    · obtain ⟨n, o, h1, h2, h3, _, L, rfl, ⟨rfl, N⟩, hq⟩ := law1_0 l s _ hw tables_1 i0 i1 bR35 bR23 s.heap s.heap.size (Nat.le_refl _) S37 S25 F48 E38 hcs hcr p e ha hc hk s m _ below hf ((Spec.applies_iff_loose hf).mp happ).1 ⟨rfl, State.Warmed39.refl s, rfl⟩ trivial
      exact ⟨n, _, h1, h2, h3, hpost _ _ _ _ _ _ ⟨Cond.after_iff.mpr rfl, Cond.after_iff.mpr (eq_i res_at (Term.int_eval (1)) rfl), trivial⟩ ⟨hq.1, hq.2.1, (hq.2.2.sift fun y hy => Or.inr (N y hy)).mono (by decide) (by decide)⟩⟩
    · obtain ⟨n, o, h1, h2, h3, _, L, rfl, ⟨rfl, N⟩, hq⟩ := law1_1 l s _ hw tables_1 i0 i1 bR35 bR23 s.heap s.heap.size (Nat.le_refl _) S37 F48 E38 S25 (Fld.ne F48 F44 (fun q => absurd (Value.int.inj q) (by decide))) hcs hcr p e ha hc hk s m _ below hf ((Spec.applies_iff_loose hf).mp happ).1 ⟨rfl, State.Warmed39.refl s, rfl⟩ trivial
      exact ⟨n, _, h1, h2, h3, hpost _ _ _ _ _ _ ⟨Cond.after_iff.mpr rfl, Cond.after_iff.mpr (eq_i res_at (Term.int_eval (1)) rfl), trivial⟩ ⟨hq.1, hq.2.1, (hq.2.2.sift fun y hy => Or.inr (N y hy)).mono (by decide) (by decide)⟩⟩
    · obtain ⟨n, o, h1, h2, h3, _, L, rfl, ⟨rfl, N⟩, hq⟩ := law1_2 l s _ hw tables_1 i0 i1 bR35 bR39 bR23 s.heap s.heap.size (Nat.le_refl _) S37 S41 F48 E38 S25 (Fld.ne F52 F44 (fun q => absurd (Value.int.inj q) (by decide))) hcs hcr p e ha hc hk s m _ below hf ((Spec.applies_iff_loose hf).mp happ).1 ⟨rfl, State.Warmed39.refl s, rfl⟩ trivial
      exact ⟨n, _, h1, h2, h3, hpost _ _ _ _ _ _ ⟨Cond.after_iff.mpr rfl, Cond.after_iff.mpr (eq_i res_at (Term.int_eval (1)) rfl), trivial⟩ ⟨hq.1, hq.2.1, (hq.2.2.sift fun y hy => Or.inr (N y hy)).mono (by decide) (by decide)⟩⟩
    · obtain ⟨n, o, h1, h2, h3, _, L, rfl, ⟨rfl, N⟩, hq⟩ := law1_3 l s _ hw tables_1 i0 i1 bR35 bR27 bR23 s.heap s.heap.size (Nat.le_refl _) S37 S29 F48 E38 S25 (Fld.ne F50 F44 (fun q => absurd (Value.int.inj q) (by decide))) hcs hcr p e ha hc hk s m _ below hf ((Spec.applies_iff_loose hf).mp happ).1 ⟨rfl, State.Warmed39.refl s, rfl⟩ trivial
      exact ⟨n, _, h1, h2, h3, hpost _ _ _ _ _ _ ⟨Cond.after_iff.mpr rfl, Cond.after_iff.mpr (eq_i res_at (Term.int_eval (1)) rfl), trivial⟩ ⟨hq.1, hq.2.1, (hq.2.2.sift fun y hy => Or.inr (N y hy)).mono (by decide) (by decide)⟩⟩
    · obtain ⟨n, o, h1, h2, h3, _, L, rfl, ⟨rfl, N⟩, hq⟩ := law1_4 l s _ hw tables_1 i0 i1 bR35 bR31 bR23 s.heap s.heap.size (Nat.le_refl _) S37 S33 F48 E38 S25 (Fld.ne F46 F44 (fun q => absurd (Value.int.inj q) (by decide))) hcs hcr p e ha hc hk s m _ below hf ((Spec.applies_iff_loose hf).mp happ).1 ⟨rfl, State.Warmed39.refl s, rfl⟩ trivial
      exact ⟨n, _, h1, h2, h3, hpost _ _ _ _ _ _ ⟨Cond.after_iff.mpr rfl, Cond.after_iff.mpr (eq_i res_at (Term.int_eval (1)) rfl), trivial⟩ ⟨hq.1, hq.2.1, (hq.2.2.sift fun y hy => Or.inr (N y hy)).mono (by decide) (by decide)⟩⟩
  · rcases own_in5 hm2 hm3 with hcr | hcr | hcr | hcr | hcr
    · obtain ⟨n, o, h1, h2, h3, _, L, rfl, ⟨rfl, N⟩, hq⟩ := law2_0 l s _ hw tables_1 i0 i1 bR39 bR23 bR35 s.heap s.heap.size (Nat.le_refl _) S41 S25 F52 E42 S37 (Fld.ne F44 F48 (fun q => absurd (Value.int.inj q) (by decide))) hcs hcr p e ha hc hk s m _ below hf ((Spec.applies_iff_loose hf).mp happ).1 ⟨rfl, State.Warmed39.refl s, rfl⟩ trivial
      exact ⟨n, _, h1, h2, h3, hpost _ _ _ _ _ _ ⟨Cond.after_iff.mpr rfl, Cond.after_iff.mpr (eq_i res_at (Term.int_eval (1)) rfl), trivial⟩ ⟨hq.1, hq.2.1, (hq.2.2.sift fun y hy => Or.inr (N y hy)).mono (by decide) (by decide)⟩⟩
    · obtain ⟨n, o, h1, h2, h3, _, L, rfl, ⟨rfl, N⟩, hq⟩ := law2_1 l s _ hw tables_1 i0 i1 bR39 bR35 s.heap s.heap.size (Nat.le_refl _) S41 S37 F52 E42 hcs hcr p e ha hc hk s m _ below hf ((Spec.applies_iff_loose hf).mp happ).1 ⟨rfl, State.Warmed39.refl s, rfl⟩ trivial
      exact ⟨n, _, h1, h2, h3, hpost _ _ _ _ _ _ ⟨Cond.after_iff.mpr rfl, Cond.after_iff.mpr (eq_i res_at (Term.int_eval (1)) rfl), trivial⟩ ⟨hq.1, hq.2.1, (hq.2.2.sift fun y hy => Or.inr (N y hy)).mono (by decide) (by decide)⟩⟩
    · obtain ⟨n, o, h1, h2, h3, _, L, rfl, ⟨rfl, N⟩, hq⟩ := law2_2 l s _ hw tables_1 i0 i1 bR39 bR35 s.heap s.heap.size (Nat.le_refl _) S41 F52 E42 S37 (Fld.ne F52 F48 (fun q => absurd (Value.int.inj q) (by decide))) hcs hcr p e ha hc hk s m _ below hf ((Spec.applies_iff_loose hf).mp happ).1 ⟨rfl, State.Warmed39.refl s, rfl⟩ trivial
      exact ⟨n, _, h1, h2, h3, hpost _ _ _ _ _ _ ⟨Cond.after_iff.mpr rfl, Cond.after_iff.mpr (eq_i res_at (Term.int_eval (1)) rfl), trivial⟩ ⟨hq.1, hq.2.1, (hq.2.2.sift fun y hy => Or.inr (N y hy)).mono (by decide) (by decide)⟩⟩
    · obtain ⟨n, o, h1, h2, h3, _, L, rfl, ⟨rfl, N⟩, hq⟩ := law2_3 l s _ hw tables_1 i0 i1 bR39 bR27 bR35 s.heap s.heap.size (Nat.le_refl _) S41 S29 F52 E42 S37 (Fld.ne F50 F48 (fun q => absurd (Value.int.inj q) (by decide))) hcs hcr p e ha hc hk s m _ below hf ((Spec.applies_iff_loose hf).mp happ).1 ⟨rfl, State.Warmed39.refl s, rfl⟩ trivial
      exact ⟨n, _, h1, h2, h3, hpost _ _ _ _ _ _ ⟨Cond.after_iff.mpr rfl, Cond.after_iff.mpr (eq_i res_at (Term.int_eval (1)) rfl), trivial⟩ ⟨hq.1, hq.2.1, (hq.2.2.sift fun y hy => Or.inr (N y hy)).mono (by decide) (by decide)⟩⟩
    · obtain ⟨n, o, h1, h2, h3, _, L, rfl, ⟨rfl, N⟩, hq⟩ := law2_4 l s _ hw tables_1 i0 i1 bR39 bR31 bR35 s.heap s.heap.size (Nat.le_refl _) S41 S33 F52 E42 S37 (Fld.ne F46 F48 (fun q => absurd (Value.int.inj q) (by decide))) hcs hcr p e ha hc hk s m _ below hf ((Spec.applies_iff_loose hf).mp happ).1 ⟨rfl, State.Warmed39.refl s, rfl⟩ trivial
      exact ⟨n, _, h1, h2, h3, hpost _ _ _ _ _ _ ⟨Cond.after_iff.mpr rfl, Cond.after_iff.mpr (eq_i res_at (Term.int_eval (1)) rfl), trivial⟩ ⟨hq.1, hq.2.1, (hq.2.2.sift fun y hy => Or.inr (N y hy)).mono (by decide) (by decide)⟩⟩
  · rcases own_in5 hm2 hm3 with hcr | hcr | hcr | hcr | hcr
    · obtain ⟨n, o, h1, h2, h3, _, L, rfl, ⟨rfl, N⟩, hq⟩ := law3_0 l s _ hw tables_1 i0 i1 bR27 bR23 s.heap s.heap.size (Nat.le_refl _) S29 S25 F50 E30 hcs hcr p e ha hc hk s m _ below hf ((Spec.applies_iff_loose hf).mp happ).1 ⟨rfl, State.Warmed39.refl s, rfl⟩ trivial
      exact ⟨n, _, h1, h2, h3, hpost _ _ _ _ _ _ ⟨Cond.after_iff.mpr rfl, Cond.after_iff.mpr (eq_i res_at (Term.int_eval (1)) rfl), trivial⟩ ⟨hq.1, hq.2.1, (hq.2.2.sift fun y hy => Or.inr (N y hy)).mono (by decide) (by decide)⟩⟩
    · obtain ⟨n, o, h1, h2, h3, _, L, rfl, ⟨rfl, N⟩, hq⟩ := law3_1 l s _ hw tables_1 i0 i1 bR27 bR35 bR23 s.heap s.heap.size (Nat.le_refl _) S29 S37 F50 E30 S25 (Fld.ne F48 F44 (fun q => absurd (Value.int.inj q) (by decide))) hcs hcr p e ha hc hk s m _ below hf ((Spec.applies_iff_loose hf).mp happ).1 ⟨rfl, State.Warmed39.refl s, rfl⟩ trivial
      exact ⟨n, _, h1, h2, h3, hpost _ _ _ _ _ _ ⟨Cond.after_iff.mpr rfl, Cond.after_iff.mpr (eq_i res_at (Term.int_eval (1)) rfl), trivial⟩ ⟨hq.1, hq.2.1, (hq.2.2.sift fun y hy => Or.inr (N y hy)).mono (by decide) (by decide)⟩⟩
    · obtain ⟨n, o, h1, h2, h3, _, L, rfl, ⟨rfl, N⟩, hq⟩ := law3_2 l s _ hw tables_1 i0 i1 bR27 bR39 bR23 s.heap s.heap.size (Nat.le_refl _) S29 S41 F50 E30 S25 (Fld.ne F52 F44 (fun q => absurd (Value.int.inj q) (by decide))) hcs hcr p e ha hc hk s m _ below hf ((Spec.applies_iff_loose hf).mp happ).1 ⟨rfl, State.Warmed39.refl s, rfl⟩ trivial
      exact ⟨n, _, h1, h2, h3, hpost _ _ _ _ _ _ ⟨Cond.after_iff.mpr rfl, Cond.after_iff.mpr (eq_i res_at (Term.int_eval (1)) rfl), trivial⟩ ⟨hq.1, hq.2.1, (hq.2.2.sift fun y hy => Or.inr (N y hy)).mono (by decide) (by decide)⟩⟩
    · obtain ⟨n, o, h1, h2, h3, _, L, rfl, ⟨rfl, N⟩, hq⟩ := law3_3 l s _ hw tables_1 i0 i1 bR27 bR23 s.heap s.heap.size (Nat.le_refl _) S29 F50 E30 S25 (Fld.ne F50 F44 (fun q => absurd (Value.int.inj q) (by decide))) hcs hcr p e ha hc hk s m _ below hf ((Spec.applies_iff_loose hf).mp happ).1 ⟨rfl, State.Warmed39.refl s, rfl⟩ trivial
      exact ⟨n, _, h1, h2, h3, hpost _ _ _ _ _ _ ⟨Cond.after_iff.mpr rfl, Cond.after_iff.mpr (eq_i res_at (Term.int_eval (1)) rfl), trivial⟩ ⟨hq.1, hq.2.1, (hq.2.2.sift fun y hy => Or.inr (N y hy)).mono (by decide) (by decide)⟩⟩
    · obtain ⟨n, o, h1, h2, h3, _, L, rfl, ⟨rfl, N⟩, hq⟩ := law3_4 l s _ hw tables_1 i0 i1 bR27 bR31 bR23 s.heap s.heap.size (Nat.le_refl _) S29 S33 F50 E30 S25 (Fld.ne F46 F44 (fun q => absurd (Value.int.inj q) (by decide))) hcs hcr p e ha hc hk s m _ below hf ((Spec.applies_iff_loose hf).mp happ).1 ⟨rfl, State.Warmed39.refl s, rfl⟩ trivial
      exact ⟨n, _, h1, h2, h3, hpost _ _ _ _ _ _ ⟨Cond.after_iff.mpr rfl, Cond.after_iff.mpr (eq_i res_at (Term.int_eval (1)) rfl), trivial⟩ ⟨hq.1, hq.2.1, (hq.2.2.sift fun y hy => Or.inr (N y hy)).mono (by decide) (by decide)⟩⟩
  · rcases own_in5 hm2 hm3 with hcr | hcr | hcr | hcr | hcr
    · obtain ⟨n, o, h1, h2, h3, _, L, rfl, ⟨rfl, N⟩, hq⟩ := law4_0 l s _ hw tables_1 i0 i1 bR31 bR23 bR27 s.heap s.heap.size (Nat.le_refl _) S33 S25 F46 E34 S29 (Fld.ne F44 F50 (fun q => absurd (Value.int.inj q) (by decide))) hcs hcr p e ha hc hk s m _ below hf ((Spec.applies_iff_loose hf).mp happ).1 ⟨rfl, State.Warmed39.refl s, rfl⟩ trivial
      exact ⟨n, _, h1, h2, h3, hpost _ _ _ _ _ _ ⟨Cond.after_iff.mpr rfl, Cond.after_iff.mpr (eq_i res_at (Term.int_eval (1)) rfl), trivial⟩ ⟨hq.1, hq.2.1, (hq.2.2.sift fun y hy => Or.inr (N y hy)).mono (by decide) (by decide)⟩⟩
    · obtain ⟨n, o, h1, h2, h3, _, L, rfl, ⟨rfl, N⟩, hq⟩ := law4_1 l s _ hw tables_1 i0 i1 bR31 bR35 bR27 s.heap s.heap.size (Nat.le_refl _) S33 S37 F46 E34 S29 (Fld.ne F48 F50 (fun q => absurd (Value.int.inj q) (by decide))) hcs hcr p e ha hc hk s m _ below hf ((Spec.applies_iff_loose hf).mp happ).1 ⟨rfl, State.Warmed39.refl s, rfl⟩ trivial
      exact ⟨n, _, h1, h2, h3, hpost _ _ _ _ _ _ ⟨Cond.after_iff.mpr rfl, Cond.after_iff.mpr (eq_i res_at (Term.int_eval (1)) rfl), trivial⟩ ⟨hq.1, hq.2.1, (hq.2.2.sift fun y hy => Or.inr (N y hy)).mono (by decide) (by decide)⟩⟩
    · obtain ⟨n, o, h1, h2, h3, _, L, rfl, ⟨rfl, N⟩, hq⟩ := law4_2 l s _ hw tables_1 i0 i1 bR31 bR39 bR27 s.heap s.heap.size (Nat.le_refl _) S33 S41 F46 E34 S29 (Fld.ne F52 F50 (fun q => absurd (Value.int.inj q) (by decide))) hcs hcr p e ha hc hk s m _ below hf ((Spec.applies_iff_loose hf).mp happ).1 ⟨rfl, State.Warmed39.refl s, rfl⟩ trivial
      exact ⟨n, _, h1, h2, h3, hpost _ _ _ _ _ _ ⟨Cond.after_iff.mpr rfl, Cond.after_iff.mpr (eq_i res_at (Term.int_eval (1)) rfl), trivial⟩ ⟨hq.1, hq.2.1, (hq.2.2.sift fun y hy => Or.inr (N y hy)).mono (by decide) (by decide)⟩⟩
    · obtain ⟨n, o, h1, h2, h3, _, L, rfl, ⟨rfl, N⟩, hq⟩ := law4_3 l s _ hw tables_1 i0 i1 bR31 bR27 s.heap s.heap.size (Nat.le_refl _) S33 S29 F46 E34 hcs hcr p e ha hc hk s m _ below hf ((Spec.applies_iff_loose hf).mp happ).1 ⟨rfl, State.Warmed39.refl s, rfl⟩ trivial
      exact ⟨n, _, h1, h2, h3, hpost _ _ _ _ _ _ ⟨Cond.after_iff.mpr rfl, Cond.after_iff.mpr (eq_i res_at (Term.int_eval (1)) rfl), trivial⟩ ⟨hq.1, hq.2.1, (hq.2.2.sift fun y hy => Or.inr (N y hy)).mono (by decide) (by decide)⟩⟩
    · obtain ⟨n, o, h1, h2, h3, _, L, rfl, ⟨rfl, N⟩, hq⟩ := law4_4 l s _ hw tables_1 i0 i1 bR31 bR27 s.heap s.heap.size (Nat.le_refl _) S33 F46 E34 S29 (Fld.ne F46 F50 (fun q => absurd (Value.int.inj q) (by decide))) hcs hcr p e ha hc hk s m _ below hf ((Spec.applies_iff_loose hf).mp happ).1 ⟨rfl, State.Warmed39.refl s, rfl⟩ trivial
      exact ⟨n, _, h1, h2, h3, hpost _ _ _ _ _ _ ⟨Cond.after_iff.mpr rfl, Cond.after_iff.mpr (eq_i res_at (Term.int_eval (1)) rfl), trivial⟩ ⟨hq.1, hq.2.1, (hq.2.2.sift fun y hy => Or.inr (N y hy)).mono (by decide) (by decide)⟩⟩
theorem main_1_1 : Claimed_1_1 := comes_1 fun _ _ _ _ _ _ h hF => ⟨h.1, hF⟩
theorem main_1_2 : Claimed_1_2 := comes_1 fun _ _ _ _ _ _ h hF => ⟨h.2.1, hF⟩
end Jvm.Pilot.@@N@@
namespace Jvm.Pilot.@@N@@
open Jvm Jvm.ClassFile Sem Op Lib Jvm.Free Jvm.Stand Jvm.Pilot.@@N@@.Jvm.D
/-! MADE BY PROGRAM (witnessworld.py) out of the Statement's table words and the real class files: 12 classes; the members and pool entries that the words name. The judged class is class 1, her method 2. -/
namespace start1
open Jvm.ClassFile
def u (s : String) : CpInfo := .utf8 (stringToUtf16 s)
/-- a pool by its gaps: so many unusable entries, then the entry; so many at the end -/
def gap : Nat → List CpInfo → List CpInfo
  | 0, r => r
  | n + 1, r => .unusable :: gap n r
def poolList (es : List (Nat × CpInfo)) (last : Nat) : List CpInfo := es.foldr (fun e r => gap e.1 (e.2 :: r)) (gap last [])
def pool (es : List (Nat × CpInfo)) (last : Nat) : Array CpInfo := ⟨poolList es last⟩
def fileOf (pool : Array CpInfo) (this : Nat) (attrs : Array Attribute := #[]) (ms : Array MethodInfo := #[]) (fl : Nat := 33) (sup : Nat := 0) (ifs : Array Nat := #[]) (fds : Array FieldInfo := #[]) : ClassFile where
  minorVersion := 0
  majorVersion := 65
  constantPool := pool
  accessFlags := fl
  thisClass := this
  superClass := sup
  interfaces := ifs
  fields := fds
  methods := ms
  attributes := attrs
def plain (name : String) (sup : Option ClassId) : Class where
  name := name
  kind := .ordinary
  loader := none
  accessFlags := 33
  super := sup
  interfaces := #[]
  cf := none
  fields := #[]
  methods := #[]
  instanceTypes := #[]
  staticTypes := #[]
  resolved := #[]
  callSites := []
  init := .initialized
  statics := none
  mirror := none

def pool0 : Array CpInfo := pool [(5, u "<init>"), (0, u "()V"), (1, .class_ 10), (1, u "java/lang/Object")] 113

def k0m0 : Method := { name := "<init>", desc := "()V", sig := { parameters := [], returnType := none }, accessFlags := 1, code := none }
/-- java/lang/Object -/
def k0 : Class := { plain "java/lang/Object" none with
  accessFlags := 33
  interfaces := #[]
  cf := some (fileOf pool0 8 #[] #[{ accessFlags := 1, nameIndex := 5, descriptorIndex := 6, attributes := #[] }] 33 0 #[] #[])
  fields := #[]
  methods := #[k0m0]
  instanceTypes := #[]
  staticTypes := #[]
  resolved := Array.replicate 124 none
  statics := none }

def pool1 : Array CpInfo := pool [(2, .class_ 4), (1, u "java/lang/Object"), (0, u "<init>"), (0, u "()V"), (0, .fieldref 8 9), (0, .class_ 10), (0, .nameAndType 11 12), (0, u "com/example/vaxwire/vaxwire/reply/OrderSegment"), (0, u "ORC"), (0, u "Lcom/example/vaxwire/vaxwire/reply/OrderSegment;"), (0, .fieldref 8 14), (0, .nameAndType 15 12), (0, u "RXA"), (0, .fieldref 8 17), (0, .nameAndType 18 12), (0, u "RXR"), (0, .fieldref 8 20), (0, .nameAndType 21 12), (0, u "OBX"), (0, .fieldref 8 23), (0, .nameAndType 24 12), (0, u "NTE"), (0, .integer 2147483647), (0, .methodref 27 28), (0, .class_ 29), (0, .nameAndType 30 31), (0, u "com/example/vaxwire/vaxwire/reply/OrderSegmentMayFollowPinLaw"), (0, u "pick"), (0, u "(I)Lcom/example/vaxwire/vaxwire/reply/OrderSegment;"), (0, .methodref 8 33), (0, .nameAndType 34 35), (0, u "mayFollow"), (0, u "(Lcom/example/vaxwire/vaxwire/reply/OrderSegment;)Z"), (3, u "law"), (0, u "(II)Z")] 2

def k1m0 : Method := { name := "<init>", desc := "()V", sig := { parameters := [], returnType := none }, accessFlags := 1, code := none }
def k1c1 : Code := { maxStack := 2, maxLocals := 1, code := method_2_code, exceptionTable := #[], attributes := #[] }
def k1m1 : Method := { name := "pick", desc := "(I)Lcom/example/vaxwire/vaxwire/reply/OrderSegment;", sig := { parameters := [.int], returnType := some (.object "com/example/vaxwire/vaxwire/reply/OrderSegment") }, accessFlags := 10, code := some k1c1 }
def k1c2 : Code := { maxStack := 2, maxLocals := 7, code := code, exceptionTable := #[], attributes := #[] }
def k1m2 : Method := { name := "law", desc := "(II)Z", sig := { parameters := [.int, .int], returnType := some .boolean }, accessFlags := 9, code := some k1c2 }
/-- com/example/vaxwire/vaxwire/reply/OrderSegmentMayFollowPinLaw -/
def k1 : Class := { plain "com/example/vaxwire/vaxwire/reply/OrderSegmentMayFollowPinLaw" (some 0) with
  accessFlags := 49
  interfaces := #[]
  cf := some (fileOf pool1 27 #[] #[{ accessFlags := 1, nameIndex := 5, descriptorIndex := 6, attributes := #[] }, { accessFlags := 10, nameIndex := 30, descriptorIndex := 31, attributes := #[] }, { accessFlags := 9, nameIndex := 39, descriptorIndex := 40, attributes := #[] }] 49 2 #[] #[])
  fields := #[]
  methods := #[k1m0, k1m1, k1m2]
  instanceTypes := #[]
  staticTypes := #[]
  resolved := Array.replicate 43 none
  statics := none }

def pool2 : Array CpInfo := pool [(1, .class_ 2), (0, u "java/lang/constant/Constable"), (0, .class_ 4), (0, u "java/lang/Object")] 6

/-- java/lang/constant/Constable -/
def k2 : Class := { plain "java/lang/constant/Constable" (some 0) with
  accessFlags := 1537
  interfaces := #[]
  cf := some (fileOf pool2 1 #[] #[] 1537 3 #[] #[])
  fields := #[]
  methods := #[]
  instanceTypes := #[]
  staticTypes := #[]
  resolved := Array.replicate 11 none
  statics := none }

def pool3 : Array CpInfo := pool [(1, .class_ 2), (0, u "java/lang/Comparable"), (0, .class_ 4), (0, u "java/lang/Object")] 7

/-- java/lang/Comparable -/
def k3 : Class := { plain "java/lang/Comparable" (some 0) with
  accessFlags := 1537
  interfaces := #[]
  cf := some (fileOf pool3 1 #[] #[] 1537 3 #[] #[])
  fields := #[]
  methods := #[]
  instanceTypes := #[]
  staticTypes := #[]
  resolved := Array.replicate 12 none
  statics := none }

def pool4 : Array CpInfo := pool [(1, .class_ 2), (0, u "java/io/Serializable"), (0, .class_ 4), (0, u "java/lang/Object")] 2

/-- java/io/Serializable -/
def k4 : Class := { plain "java/io/Serializable" (some 0) with
  accessFlags := 1537
  interfaces := #[]
  cf := some (fileOf pool4 1 #[] #[] 1537 3 #[] #[])
  fields := #[]
  methods := #[]
  instanceTypes := #[]
  staticTypes := #[]
  resolved := Array.replicate 7 none
  statics := none }

def pool5 : Array CpInfo := pool [(2, .class_ 4), (1, u "java/lang/Enum"), (0, u "name"), (0, u "Ljava/lang/String;"), (0, .fieldref 2 8), (0, .nameAndType 9 10), (0, u "ordinal"), (0, u "I"), (1, .class_ 14), (1, u "java/lang/Object"), (4, u "hash"), (86, .class_ 108), (1, u "java/lang/Enum$EnumDesc"), (2, .class_ 112), (0, u "java/lang/constant/Constable"), (0, .class_ 114), (0, u "java/lang/Comparable"), (0, .class_ 116), (0, u "java/io/Serializable"), (9, u "()I")] 77

def k5c0 : Code := { maxStack := 1, maxLocals := 1, code := jdk_37_method_2_code, exceptionTable := #[], attributes := #[] }
def k5m0 : Method := { name := "ordinal", desc := "()I", sig := { parameters := [], returnType := some .int }, accessFlags := 17, code := some k5c0 }
/-- java/lang/Enum -/
def k5 : Class := { plain "java/lang/Enum" (some 0) with
  accessFlags := 1057
  interfaces := #[2, 3, 4]
  cf := some (fileOf pool5 2 #[.nestMembers #[106]] #[{ accessFlags := 17, nameIndex := 9, descriptorIndex := 126, attributes := #[] }] 1057 12 #[111, 113, 115] #[{ accessFlags := 18, nameIndex := 5, descriptorIndex := 6, attributes := #[] }, { accessFlags := 18, nameIndex := 9, descriptorIndex := 10, attributes := #[] }, { accessFlags := 2, nameIndex := 19, descriptorIndex := 10, attributes := #[] }])
  fields := #[{ name := "name", type := (.object "java/lang/String"), accessFlags := 18, slot := 0, constantValue := 0 }, { name := "ordinal", type := .int, accessFlags := 18, slot := 1, constantValue := 0 }, { name := "hash", type := .int, accessFlags := 2, slot := 2, constantValue := 0 }]
  methods := #[k5m0]
  instanceTypes := #[(.object "java/lang/String"), .int, .int]
  staticTypes := #[]
  resolved := Array.replicate 204 none
  statics := none }

def pool6 : Array CpInfo := pool [(1, .class_ 2), (0, u "com/example/vaxwire/vaxwire/reply/OrderSegment"), (0, .fieldref 1 4), (0, .nameAndType 5 6), (0, u "ORC"), (0, u "Lcom/example/vaxwire/vaxwire/reply/OrderSegment;"), (0, .fieldref 1 8), (0, .nameAndType 9 6), (0, u "RXA"), (2, u "RXR"), (0, .fieldref 1 14), (0, .nameAndType 15 6), (0, u "OBX"), (2, u "NTE"), (2, u "$VALUES"), (0, u "[Lcom/example/vaxwire/vaxwire/reply/OrderSegment;"), (6, .class_ 31), (1, u "java/lang/Enum"), (6, .methodref 1 39), (0, .nameAndType 40 41), (0, u "ordinal"), (0, u "()I"), (22, u "mayFollow"), (0, u "(Lcom/example/vaxwire/vaxwire/reply/OrderSegment;)Z")] 5

def k6c0 : Code := { maxStack := 4, maxLocals := 2, code := prog_104_method_4_code, exceptionTable := #[], attributes := #[] }
def k6m0 : Method := { name := "mayFollow", desc := "(Lcom/example/vaxwire/vaxwire/reply/OrderSegment;)Z", sig := { parameters := [(.object "com/example/vaxwire/vaxwire/reply/OrderSegment")], returnType := some .boolean }, accessFlags := 0, code := some k6c0 }
/-- com/example/vaxwire/vaxwire/reply/OrderSegment -/
def k6 : Class := { plain "com/example/vaxwire/vaxwire/reply/OrderSegment" (some 5) with
  accessFlags := 16432
  interfaces := #[]
  cf := some (fileOf pool6 1 #[] #[{ accessFlags := 0, nameIndex := 64, descriptorIndex := 65, attributes := #[] }] 16432 29 #[] #[{ accessFlags := 16409, nameIndex := 5, descriptorIndex := 6, attributes := #[] }, { accessFlags := 16409, nameIndex := 9, descriptorIndex := 6, attributes := #[] }, { accessFlags := 16409, nameIndex := 12, descriptorIndex := 6, attributes := #[] }, { accessFlags := 16409, nameIndex := 15, descriptorIndex := 6, attributes := #[] }, { accessFlags := 16409, nameIndex := 18, descriptorIndex := 6, attributes := #[] }, { accessFlags := 4122, nameIndex := 21, descriptorIndex := 22, attributes := #[] }])
  fields := #[{ name := "ORC", type := (.object "com/example/vaxwire/vaxwire/reply/OrderSegment"), accessFlags := 16409, slot := 0, constantValue := 0 }, { name := "RXA", type := (.object "com/example/vaxwire/vaxwire/reply/OrderSegment"), accessFlags := 16409, slot := 1, constantValue := 0 }, { name := "RXR", type := (.object "com/example/vaxwire/vaxwire/reply/OrderSegment"), accessFlags := 16409, slot := 2, constantValue := 0 }, { name := "OBX", type := (.object "com/example/vaxwire/vaxwire/reply/OrderSegment"), accessFlags := 16409, slot := 3, constantValue := 0 }, { name := "NTE", type := (.object "com/example/vaxwire/vaxwire/reply/OrderSegment"), accessFlags := 16409, slot := 4, constantValue := 0 }, { name := "$VALUES", type := (.array (.object "com/example/vaxwire/vaxwire/reply/OrderSegment")), accessFlags := 4122, slot := 5, constantValue := 0 }]
  methods := #[k6m0]
  instanceTypes := #[(.object "java/lang/String"), .int, .int]
  staticTypes := #[(.object "com/example/vaxwire/vaxwire/reply/OrderSegment"), (.object "com/example/vaxwire/vaxwire/reply/OrderSegment"), (.object "com/example/vaxwire/vaxwire/reply/OrderSegment"), (.object "com/example/vaxwire/vaxwire/reply/OrderSegment"), (.object "com/example/vaxwire/vaxwire/reply/OrderSegment"), (.array (.object "com/example/vaxwire/vaxwire/reply/OrderSegment"))]
  resolved := Array.replicate 71 none
  statics := some 0 }

def pool7 : Array CpInfo := pool [(1, u "java/lang/Cloneable"), (0, .class_ 1), (0, u "java/lang/Object"), (0, .class_ 3)] 3

/-- java/lang/Cloneable -/
def k7 : Class := { plain "java/lang/Cloneable" (some 0) with
  accessFlags := 1537
  interfaces := #[]
  cf := some (fileOf pool7 2 #[] #[] 1537 4 #[] #[])
  fields := #[]
  methods := #[]
  instanceTypes := #[]
  staticTypes := #[]
  resolved := Array.replicate 8 none
  statics := none }

/-- the primitive byte -/
def k8 : Class := { plain "byte" none with kind := .primitive 'B', accessFlags := 0x411 }
/-- [B -/
def k9 : Class := { plain "[B" (some 0) with kind := .array 8 .byte, interfaces := #[7, 4], accessFlags := 1041 }

/-- the primitive int -/
def k10 : Class := { plain "int" none with kind := .primitive 'I', accessFlags := 0x411 }
/-- [I -/
def k11 : Class := { plain "[I" (some 0) with kind := .array 10 .int, interfaces := #[7, 4], accessFlags := 1041 }

def heap : Heap := #[{ cls := 6, slots := #[.ref 1, .ref 2, .ref 3, .ref 4, .ref 5, .null], vm := .statics 6 },
  { cls := 6, slots := #[.null, .int 0, .int 0], vm := .none },
  { cls := 6, slots := #[.null, .int 1, .int 0], vm := .none },
  { cls := 6, slots := #[.null, .int 2, .int 0], vm := .none },
  { cls := 6, slots := #[.null, .int 3, .int 0], vm := .none },
  { cls := 6, slots := #[.null, .int 4, .int 0], vm := .none }]
def classes : Array Class := #[k0, k1, k2, k3, k4, k5, k6, k7, k8, k9, k10, k11]
def interned : List (Array UInt16 × Addr) := []
def slotsUsed : Nat := 21
def theMethod : MethodId := ⟨1, 2⟩
def args0 : Array Value := #[.int 5, .int 7]
def aboutOver (below : List Frame) : State where
  vm := { classes := classes, interned := interned.toArray }
  heap := heap
  slotsUsed := slotsUsed
  threads := #[{ frames := .invoking theMethod args0 :: below }]
def below0 : List Frame := [.native { method := ⟨0, 0⟩, args := #[] }]
def about1 : State := aboutOver below0
def p0 : Program := .bare "" "" ""
def e0 : Env := launch0.env 0 0 0
theorem w_frames : about1.frames = Frame.invoking theMethod args0 :: below0 := rfl
set_option maxRecDepth 65536 in
theorem w_args : argsFit about1.vm theMethod args0 = true := by decide +kernel
set_option maxRecDepth 65536 in
theorem w_heap : heapFits about1 = true := by decide +kernel
set_option maxRecDepth 65536 in
theorem w_runnable : about1.curStatus? = some .runnable := by decide +kernel
set_option maxRecDepth 65536 in
theorem w_alone : about1.alone = true := by decide +kernel
set_option maxRecDepth 65536 in
theorem w_named : about1.methodNamed? x = some theMethod := by decide +kernel
set_option maxRecDepth 65536 in
theorem w_hears : about1.hears theMethod below0 = true := by decide +kernel
set_option maxRecDepth 65536 in
theorem w_ripe : about1.ripe theMethod args0 below0 = true := by decide +kernel
theorem w_running : about1.status = .running := rfl
set_option maxRecDepth 65536 in
theorem w_room : about1.hasRoom e0.platform room_1 = true :=
  launch0.hasRoom_least _ room_1 (by decide +kernel) (by decide +kernel) (by decide +kernel) (by decide +kernel) (by decide +kernel) (by decide +kernel)
theorem allAtoms_all (ts : List Jvm.Cond) (a : Array Jvm.Value) (st : Jvm.State) : (allAtoms ts).before a st = ts.all (fun c => c.before a st) := by
  induction ts with
  | nil => rfl
  | cons c t ih =>
    show (Jvm.Cond.and c (allAtoms t)).before a st = _
    rw [Jvm.Cond.before_and, ih, List.all_cons]
def words1 : List Jvm.Cond := Jvm.Cond.code x code maxLocals ret :: tables_1
/-- a 'code' word, met by the world's own term for the bytes: nothing is compared byte by byte -/
theorem code_word {y : MethodName} {bytes : ByteArray} {mx : Nat} {rt : Option FieldType} {a : Array Value} {s : State} {m : MethodId} {meth : Method} {c : Code} (h1 : s.methodNamed? y = some m) (h2 : s.vm.method? m = some meth) (h3 : meth.code = some c) (h4 : c.code = bytes)
    (h5 : (c.maxLocals == mx && c.exceptionTable.isEmpty && decide (c.maxStack ≤ mostOperands) && decide (meth.sig.returnType = rt) && !meth.locks && decide (parseMethodDescriptor y.desc = some meth.sig)) = true) : (Jvm.Cond.code y bytes mx rt).before a s = true := by
  simp only [Bool.and_eq_true, beq_iff_eq, Bool.not_eq_true', decide_eq_true_eq] at h5
  obtain ⟨⟨⟨⟨⟨g1, g2⟩, g3⟩, g4⟩, g5⟩, g6⟩ := h5
  simp [Cond.before, Cond.holds, Cond.value, h1, h2, h3, h4, g1, g2, g3, g4, g5, g6]
def isCode : Jvm.Cond → Bool
  | .code _ _ _ _ => true
  | _ => false
theorem all_split {L : List Jvm.Cond} {P : Jvm.Cond → Bool} (h1 : L.all (fun c => isCode c || P c) = true) (h2 : ∀ c ∈ L.filter isCode, P c = true) : L.all P = true := by
  refine List.all_eq_true.mpr fun c hc => ?_
  have h := List.all_eq_true.mp h1 c hc
  rcases Bool.eq_false_or_eq_true (isCode c) with hi | hi
  · exact h2 c (List.mem_filter.mpr ⟨hc, hi⟩)
  · simpa [hi] using h
set_option maxRecDepth 65536 in
theorem w_c0 : (Jvm.Cond.code x code maxLocals ret).before args0 about1 = true := code_word (m := ⟨1, 2⟩) (meth := k1m2) (c := k1c2) (by decide +kernel) rfl rfl rfl (by decide +kernel)
set_option maxRecDepth 65536 in
theorem w_c1 : (Jvm.Cond.code ({ cls := "com/example/vaxwire/vaxwire/reply/OrderSegmentMayFollowPinLaw", name := "pick", desc := "(I)Lcom/example/vaxwire/vaxwire/reply/OrderSegment;" } : Jvm.MethodName) method_2_code (1 : Nat) (Option.some (Jvm.ClassFile.FieldType.object "com/example/vaxwire/vaxwire/reply/OrderSegment"))).before args0 about1 = true := code_word (m := ⟨1, 1⟩) (meth := k1m1) (c := k1c1) (by decide +kernel) rfl rfl rfl (by decide +kernel)
set_option maxRecDepth 65536 in
theorem w_c2 : (Jvm.Cond.code ({ cls := "com/example/vaxwire/vaxwire/reply/OrderSegment", name := "mayFollow", desc := "(Lcom/example/vaxwire/vaxwire/reply/OrderSegment;)Z" } : Jvm.MethodName) prog_104_method_4_code (2 : Nat) (Option.some Jvm.ClassFile.FieldType.boolean)).before args0 about1 = true := code_word (m := ⟨6, 0⟩) (meth := k6m0) (c := k6c0) (by decide +kernel) rfl rfl rfl (by decide +kernel)
set_option maxRecDepth 65536 in
theorem w_c3 : (Jvm.Cond.code ({ cls := "java/lang/Enum", name := "ordinal", desc := "()I" } : Jvm.MethodName) jdk_37_method_2_code (1 : Nat) (Option.some Jvm.ClassFile.FieldType.int)).before args0 about1 = true := code_word (m := ⟨5, 0⟩) (meth := k5m0) (c := k5c0) (by decide +kernel) rfl rfl rfl (by decide +kernel)
def codes1 : List Jvm.Cond := [Jvm.Cond.code x code maxLocals ret, Jvm.Cond.code ({ cls := "com/example/vaxwire/vaxwire/reply/OrderSegmentMayFollowPinLaw", name := "pick", desc := "(I)Lcom/example/vaxwire/vaxwire/reply/OrderSegment;" } : Jvm.MethodName) method_2_code (1 : Nat) (Option.some (Jvm.ClassFile.FieldType.object "com/example/vaxwire/vaxwire/reply/OrderSegment")), Jvm.Cond.code ({ cls := "com/example/vaxwire/vaxwire/reply/OrderSegment", name := "mayFollow", desc := "(Lcom/example/vaxwire/vaxwire/reply/OrderSegment;)Z" } : Jvm.MethodName) prog_104_method_4_code (2 : Nat) (Option.some Jvm.ClassFile.FieldType.boolean), Jvm.Cond.code ({ cls := "java/lang/Enum", name := "ordinal", desc := "()I" } : Jvm.MethodName) jdk_37_method_2_code (1 : Nat) (Option.some Jvm.ClassFile.FieldType.int)]
set_option maxRecDepth 65536 in
theorem codes_eq : words1.filter isCode = codes1 := rfl
theorem w_codes : ∀ c ∈ words1.filter isCode, c.before args0 about1 = true := by
  rw [codes_eq]
  intro c hc
  simp only [codes1, List.mem_cons, List.not_mem_nil, or_false] at hc
  rcases hc with rfl | rfl | rfl | rfl
  · exact w_c0
  · exact w_c1
  · exact w_c2
  · exact w_c3
set_option maxRecDepth 65536 in
theorem w_t1 : (words1.take 24).all (fun c => isCode c || c.before args0 about1) = true := by decide +kernel
set_option maxRecDepth 65536 in
theorem w_t2 : (words1.drop 24).all (fun c => isCode c || c.before args0 about1) = true := by decide +kernel
theorem w_tables : (allAtoms (Jvm.Cond.code x code maxLocals ret :: tables_1)).before args0 about1 = true := by
  rw [allAtoms_all]
  show words1.all (fun c => c.before args0 about1) = true
  refine all_split ?_ w_codes
  rw [← List.take_append_drop 24 words1, List.all_append, w_t1, w_t2]
  rfl
set_option maxRecDepth 65536 in
theorem w_case : (Jvm.Cond.and given_1 narrow_1).before args0 about1 = true := by decide +kernel
theorem w_applies : (headSpec (Jvm.Cond.code x code maxLocals ret :: tables_1) room_1).applies x e0.platform about1 = true :=
  (Spec.applies_iff w_frames).mpr ⟨w_running, w_runnable, w_alone, w_named, w_hears, w_ripe, w_room, w_tables⟩
theorem atStart : AtStart classFile x code maxLocals ret World_1 tables_1 room_1 Calls_1 rest_1 Pre_1 launch0 p0 e0 about1 theMethod args0 below0 :=
  ⟨lists_1, trivial, launch0.admits_env _ _ _, launch0.least_env, fairChoices_fair.cas, fairChoices_fair.clock, w_frames, w_args, w_heap, w_applies, trivial, trivial, w_case⟩
end start1
theorem witness_1 : WitnessClaimed_1 := ⟨start1.p0, start1.e0, start1.about1, start1.theMethod, start1.args0, start1.below0, start1.atStart⟩
end Jvm.Pilot.@@N@@
