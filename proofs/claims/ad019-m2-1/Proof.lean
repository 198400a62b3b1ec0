import JvmDerived
import JvmDerived.Pilot.@@N@@Statement
import JvmDerived.Pilot.@@N@@Code
set_option linter.unusedVariables false
set_option linter.unusedSimpArgs false
namespace Jvm.RoadKit
open Sem ClassFile Op Lib Jvm.Stand Jvm.Free Jvm.LawKit
section New
variable {p : Program} {l : Launch} {e : Env} {R : Room} {s : State} {m : MethodId} {args : Array Value} {below : List Frame} {meth : Method} {c : Code} {T : State} {locs : List Loc} {cells slots : Nat}
theorem retI (X : Stand p l e R s m args below meth c T locs cells slots) (hx : p.tables.exec = Jvm.exec) {pc : Nat} {Ls : Array Slot} {z : Int32} {rest : List Value} (hret : meth.sig.returnType = some .int) (hd : decode c.code pc = .ok (.ireturn, 1)) {fs : List Frame}
    (hl : ∀ (f : JFrame) (acts : List Action), f.method = m → f.locked = none → f.entered = [] → (doReturn e (T.setTop f) acts (some (.int z))).1 = T.setFrames fs) : Steps p.tables e below (T.setTop (mkF m pc Ls (.int z :: rest))) (T.setFrames fs) :=
  retOut X hx hret rfl (Or.inl ⟨rfl, Or.inl rfl, z, rfl⟩) hd hl
end New
end Jvm.RoadKit
namespace Jvm.Pilot.@@N@@
open Jvm Jvm.ClassFile Sem Op Lib Jvm.Free Jvm.Stand Jvm.LawKit Jvm.RoadKit Bundle Jvm.Pilot.@@N@@.Jvm.D
section Own
variable {Z : State} {h h' : Heap} {a : Addr} {C n d : String} {v : Value} {ws : List Addr}
theorem ow {a0 : Array Value} (hw : ∀ d ∈ tables_1, d.before a0 Z = true) {d : Jvm.Cond} (i : Nat) (h : tables_1[i]? = some d) : d.before a0 Z = true := hw _ (List.mem_of_getElem? h)
abbrev oS (p : Program) (e : Env) (below : List Frame) (T : State) (m : MethodId) (pc : Nat) (Ls : Array Slot) (st : List Value) (t : State) : Prop := Steps p.tables e below (T.setTop (mkF m pc Ls st)) t
def own_Plain (h : Heap) (a : Addr) : Prop := ∀ cell : Cell, h[a]? = some cell → cell.vm.isStatics = false
theorem own_plain_E (F : Exa Z h a C) : own_Plain h a := fun cell hc => by
  obtain ⟨c1, _, h1, -, -, h4, -⟩ := F
  cases hc.symm.trans h1; exact h4
theorem own_plain_F (F : Fld Z h a C n d v) : own_Plain h a := fun cell hc => by
  obtain ⟨c1, _, _, _, _, h1, -, -, -, h4, -⟩ := F
  cases hc.symm.trans h1; exact h4
theorem own_plain_V {k : ClassId} {ty : FieldType} {z : Int32} {vs : List Value} {dv : Value} (F : Arv Z h a k ty z vs dv) : own_Plain h a := fun cell hc => by
  obtain ⟨c1, A, -⟩ := F
  cases hc.symm.trans A.1; exact A.plain
theorem own_sta_keep (F : Sta Z h C n d v) (K : Keep h h' ws) (q : ∀ x ∈ ws, own_Plain h x) : Sta Z h' C n d v := by
  obtain ⟨cf, i, k, f, st, cell, h1, h2, h3, h4, h5, h6, h7⟩ := F
  exact ⟨cf, i, k, f, st, cell, h1, h2, h3, h4, K.2.1 _ _ h5 (fun hm => by rw [q _ hm _ h5] at h6; cases h6), h6, h7⟩
theorem own_ne_EV {a0 : Array Value} {j : Nat} {b : Addr} {k : ClassId} {ty : FieldType} {z : Int32} {vs : List Value} {dv : Value} (F : Exa Z h a C) (wi : (Jvm.Cond.instantiable C j).before a0 Z = true) (G : Arv Z h b k ty z vs dv) : a ≠ b := by
  obtain ⟨c, A, -⟩ := G
  exact ne_arr F wi A
theorem own_mvM {s : State} {a0 args : Array Value} {own host : String} {y : MethodName} {index : Nat} (hZ : Z.Warmed39 s.vm) (w : (Jvm.Cond.methodLinkNest own index y host).before a0 Z = true) : (Jvm.Cond.methodLinkNest own index y host).before args s = true := (Cond.methodLinkNest_wide hZ w :)
theorem own_arr_keep {c : Cell} {ty : FieldType} (F : Arr Z h a c ty) (K : Keep h h' ws) (q : a ∉ ws) : Arr Z h' a c ty := ⟨K.2.1 _ _ F.1 q, F.2⟩
theorem own_ins_keep {b : Bool} (F : Ins Z h a C b) (K : Keep h h' ws) : Ins Z h' a C b := by
  obtain ⟨cell, cT, h1, h2, h3⟩ := F
  obtain ⟨c', e1, e2, e3, -⟩ := K.2.2 _ _ h1
  exact ⟨c', cT, e1, h2, by rw [e2, e3]; exact h3⟩
end Own
abbrev yN0 : MethodName := ⟨"com/example/watchful_junction/watchfuljunction/ClockTimeOfSecondOfDayPinLaw", "pick", "(II)I"⟩
abbrev yN1 : MethodName := ⟨"com/example/watchful_junction/watchfuljunction/ClockTime", "<init>", "(I)V"⟩
abbrev yN2 : MethodName := ⟨"com/example/watchful_junction/watchfuljunction/ClockTime", "ofSecondOfDay", "(I)Lcom/example/watchful_junction/watchfuljunction/ClockTime;"⟩
abbrev yN3 : MethodName := ⟨"com/example/watchful_junction/watchfuljunction/ClockTime", "secondOfDay", "()I"⟩
abbrev yN4 : MethodName := ⟨"com/example/watchful_junction/watchfuljunction/ClockTime", "equals", "(Ljava/lang/Object;)Z"⟩
theorem own_mod (x y : Int32) (k : Int) (hy : y.toInt = k) (hk : 0 < k) : 0 ≤ ((x &&& (2147483647 : Int32)) % y).toInt ∧ ((x &&& (2147483647 : Int32)) % y).toInt < k := by
  have h1 := c_mask x (2147483647 : Int32) 31 (by decide) (by decide)
  have h2 : 0 ≤ (x &&& (2147483647 : Int32)).toInt := by rw [h1]; omega
  have h3 := (c_irem (x &&& (2147483647 : Int32)) y k hy).1 h2
  rw [h3]
  exact ⟨Int.emod_nonneg _ (by omega), Int.emod_lt_of_pos _ hk⟩
theorem own_mask (x m : Int32) (k : Nat) (hk : k ≤ 31) (hm : m.toBitVec.toNat = 2 ^ k - 1) : 0 ≤ (x &&& m).toInt ∧ (x &&& m).toInt < (2 ^ k : Nat) := by
  rw [c_mask x m k hk hm]
  exact ⟨Int.emod_nonneg _ (by have := Nat.two_pow_pos k; omega), Int.emod_lt_of_pos _ (by have := Nat.two_pow_pos k; omega)⟩
def own_pick (m r : Int32) : Int32 := if (m &&& (3 : Int32)) = (0 : Int32) then (0 : Int32) else if (m &&& (3 : Int32)) = (1 : Int32) then (86400 : Int32) else ((r &&& (2147483647 : Int32)) % (86401 : Int32))
theorem own_pick_in (m r : Int32) : ¬ (own_pick m r < (0 : Int32)) ∧ ¬ ((86400 : Int32) < own_pick m r) := by
  unfold own_pick
  split
  · decide
  · split
    · decide
    · have h := own_mod r (86401 : Int32) 86401 (by decide) (by decide)
      rw [Int32.lt_iff_toInt_lt, Int32.lt_iff_toInt_lt, show ((0 : Int32)).toInt = 0 from by decide, show ((86400 : Int32)).toInt = 86400 from by decide]
      omega
theorem d1_0 : decode method_2_code 0 = .ok (.iload_n 0, 1) := by decide +kernel
theorem d1_1 : decode method_2_code 1 = .ok (.iconst 3, 1) := by decide +kernel
theorem d1_2 : decode method_2_code 2 = .ok (.iand, 1) := by decide +kernel
theorem d1_3 : decode method_2_code 3 = .ok (.istore_n 2, 1) := by decide +kernel
theorem d1_4 : decode method_2_code 4 = .ok (.iload_n 2, 1) := by decide +kernel
theorem d1_5 : decode method_2_code 5 = .ok (.ifCond .ne 5, 3) := by decide +kernel
theorem d1_8 : decode method_2_code 8 = .ok (.iconst 0, 1) := by decide +kernel
theorem d1_9 : decode method_2_code 9 = .ok (.ireturn, 1) := by decide +kernel
theorem pn_0 : plainName "com/example/watchful_junction/watchfuljunction/ClockTimeOfSecondOfDayPinLaw" = true := by first | (simp [plainName, overriddenIn]; done) | decide +kernel
theorem ef_pick0 (m : MethodId) (pI1 : Int32) (pI2 : Int32) : entryFrame m #[(.int pI1), (.int pI2)] 3 = mkF m 0 #[.val (.int pI1), .val (.int pI2), .unset] [] := by first | (simp [entryFrame, mkF, argsToLocals, Value.category]; done) | rfl
def Qpick (Z : State) (pI1 : Int32) (pI2 : Int32) (h0 : Heap) (n0 : Nat) (v : Option Value) (h : Heap) (L : List Loc) : Prop := v = some (.int (own_pick pI1 pI2)) ∧ Fr n0 L ∧ h = h0
set_option maxRecDepth 65536 in
set_option maxHeartbeats 40000000 in
theorem pick0 (l : Launch) (Z : State) (a0 : Array Value) (hw : ∀ d ∈ tables_1, d.before a0 Z = true) (ws : List Jvm.Cond) (pI1 : Int32) (pI2 : Int32) (h0 : Heap) (n0 : Nat) (Z0 : n0 ≤ h0.size) (hc5 : (pI1 &&& (3 : Int32)) = (0 : Int32)) :
    MetFree l yN0 (head1 (Jvm.Cond.code yN0 method_2_code 3 (some .int) :: ws) ({ frames := 0, cells := 0, slots := 0, locals := 0 } : Room)) (fun a U => a = #[(.int pI1), (.int pI2)] ∧ Z.Warmed39 U.vm ∧ U.heap = h0) (fun _ _ _ _ _ => True) (fun _ U o U' => ∃ v L, o = .returned v ∧ Qpick Z pI1 pI2 h0 n0 v U'.heap L ∧ FrameEnd U o U' L ({ frames := 0, cells := 0, slots := 0, locals := 0 } : Room).cells ({ frames := 0, cells := 0, slots := 0, locals := 0 } : Room).slots) := by
  refine MetFree.of_bodySF (plainFor_of_name pn_0) hisR ?_
  intro p e s m args below meth c s₁ Bd hml0 hP hK
  obtain ⟨rfl, hZ, hh⟩ := hP
  have hx := Bd.exec
  have hby := Bd.bytes
  have hml : c.maxLocals = 3 := hml0
  have hown : s.vm.findClass "com/example/watchful_junction/watchfuljunction/ClockTimeOfSecondOfDayPinLaw" = some m.cls := findClass_of_methodNamed Bd.named
  have hnm := (name_of_methodNamed Bd.named Bd.method).1
  have X0 : Stand p l e ({ frames := 0, cells := 0, slots := 0, locals := 0 } : Room) s m #[(.int pI1), (.int pI2)] below meth c s₁ [] 0 0 := Stand.of_body Bd
  have e0 : s₁.heap = h0 := by rw [← hh, Bd.state]; rfl
  have N0 := Fr.nil n0
  have pre0 : ∀ t, Steps p.tables e below (s₁.setTop (mkF m 0 #[.val (.int pI1), .val (.int pI2), .unset] [])) t → Steps p.tables e below (s₁.setTop (entryFrame m #[(.int pI1), (.int pI2)] 3)) t := fun t k => castTop (ef_pick0 m pI1 pI2) k
  obtain ⟨fs, hr, hrun, hended, hW, hsame⟩ := X0.leave (v := some (.int (0 : Int32))) (fun h => by rw [Bd.returns] at h; cases h)
  refine ⟨_, _, pre0 _ ?_, hrun, hended, _, _, rfl, ?_, ⟨_, rfl⟩, hW, hsame.mono (by decide) (by decide)⟩
  · show oS p e below s₁ m 0 #[.val (.int pI1), .val (.int pI2), .unset] [] _
    refine XS.iloadN X0.here hx rfl (hb hby d1_0) rfl ?_
    show oS p e below s₁ m 1 #[.val (.int pI1), .val (.int pI2), .unset] [(.int pI1)] _
    refine XS.iconst X0.here hx rfl (hb hby d1_1) ?_
    show oS p e below s₁ m 2 #[.val (.int pI1), .val (.int pI2), .unset] [(.int (3 : Int32)), (.int pI1)] _
    refine XS.iand X0.here hx rfl (hb hby d1_2) rfl ?_
    show oS p e below s₁ m 3 #[.val (.int pI1), .val (.int pI2), .unset] [(.int (pI1 &&& (3 : Int32)))] _
    refine XS.istoreN X0.here hx rfl (hb hby d1_3) rfl (l' := #[.val (.int pI1), .val (.int pI2), .val (.int (pI1 &&& (3 : Int32)))]) rfl ?_
    show oS p e below s₁ m 4 #[.val (.int pI1), .val (.int pI2), .val (.int (pI1 &&& (3 : Int32)))] [] _
    refine XS.iloadN X0.here hx rfl (hb hby d1_4) rfl ?_
    show oS p e below s₁ m 5 #[.val (.int pI1), .val (.int pI2), .val (.int (pI1 &&& (3 : Int32)))] [(.int (pI1 &&& (3 : Int32)))] _
    refine XS.ifNo X0.here hx rfl (hb hby d1_5) rfl ((if0 _ _).trans (teq hc5).2) ?_
    show oS p e below s₁ m 8 #[.val (.int pI1), .val (.int pI2), .val (.int (pI1 &&& (3 : Int32)))] [] _
    refine XS.iconst X0.here hx rfl (hb hby d1_8) ?_
    show oS p e below s₁ m 9 #[.val (.int pI1), .val (.int pI2), .val (.int (pI1 &&& (3 : Int32)))] [(.int (0 : Int32))] _
    exact retI X0 hx Bd.returns (hb hby d1_9) hr
  · show Qpick Z pI1 pI2 h0 n0 _ s₁.heap _
    rw [e0]
    exact ⟨(by simp [own_pick, hc5]), N0, rfl⟩
theorem d1_10 : decode method_2_code 10 = .ok (.iload_n 2, 1) := by decide +kernel
theorem d1_11 : decode method_2_code 11 = .ok (.iconst 1, 1) := by decide +kernel
theorem d1_12 : decode method_2_code 12 = .ok (.if_icmp .ne 6, 3) := by decide +kernel
theorem d1_15 : decode method_2_code 15 = .ok (.ldc 7, 2) := by decide +kernel
theorem d1_17 : decode method_2_code 17 = .ok (.ireturn, 1) := by decide +kernel
theorem ef_pick1 (m : MethodId) (pI1 : Int32) (pI2 : Int32) : entryFrame m #[(.int pI1), (.int pI2)] 3 = mkF m 0 #[.val (.int pI1), .val (.int pI2), .unset] [] := by first | (simp [entryFrame, mkF, argsToLocals, Value.category]; done) | rfl
set_option maxRecDepth 65536 in
set_option maxHeartbeats 40000000 in
theorem pick1 (l : Launch) (Z : State) (a0 : Array Value) (hw : ∀ d ∈ tables_1, d.before a0 Z = true) (ws : List Jvm.Cond) (pI1 : Int32) (pI2 : Int32) (h0 : Heap) (n0 : Nat) (Z0 : n0 ≤ h0.size) (hc5 : ¬ ((pI1 &&& (3 : Int32)) = (0 : Int32))) (hc12 : (pI1 &&& (3 : Int32)) = (1 : Int32)) :
    MetFree l yN0 (head1 (Jvm.Cond.code yN0 method_2_code 3 (some .int) :: ws) ({ frames := 0, cells := 0, slots := 0, locals := 0 } : Room)) (fun a U => a = #[(.int pI1), (.int pI2)] ∧ Z.Warmed39 U.vm ∧ U.heap = h0) (fun _ _ _ _ _ => True) (fun _ U o U' => ∃ v L, o = .returned v ∧ Qpick Z pI1 pI2 h0 n0 v U'.heap L ∧ FrameEnd U o U' L ({ frames := 0, cells := 0, slots := 0, locals := 0 } : Room).cells ({ frames := 0, cells := 0, slots := 0, locals := 0 } : Room).slots) := by
  refine MetFree.of_bodySF (plainFor_of_name pn_0) hisR ?_
  intro p e s m args below meth c s₁ Bd hml0 hP hK
  obtain ⟨rfl, hZ, hh⟩ := hP
  have hx := Bd.exec
  have hby := Bd.bytes
  have hml : c.maxLocals = 3 := hml0
  have hown : s.vm.findClass "com/example/watchful_junction/watchfuljunction/ClockTimeOfSecondOfDayPinLaw" = some m.cls := findClass_of_methodNamed Bd.named
  have hnm := (name_of_methodNamed Bd.named Bd.method).1
  have X0 : Stand p l e ({ frames := 0, cells := 0, slots := 0, locals := 0 } : Room) s m #[(.int pI1), (.int pI2)] below meth c s₁ [] 0 0 := Stand.of_body Bd
  have e0 : s₁.heap = h0 := by rw [← hh, Bd.state]; rfl
  have N0 := Fr.nil n0
  have pre0 : ∀ t, Steps p.tables e below (s₁.setTop (mkF m 0 #[.val (.int pI1), .val (.int pI2), .unset] [])) t → Steps p.tables e below (s₁.setTop (entryFrame m #[(.int pI1), (.int pI2)] 3)) t := fun t k => castTop (ef_pick1 m pI1 pI2) k
  obtain ⟨fs, hr, hrun, hended, hW, hsame⟩ := X0.leave (v := some (.int (86400 : Int32))) (fun h => by rw [Bd.returns] at h; cases h)
  refine ⟨_, _, pre0 _ ?_, hrun, hended, _, _, rfl, ?_, ⟨_, rfl⟩, hW, hsame.mono (by decide) (by decide)⟩
  · show oS p e below s₁ m 0 #[.val (.int pI1), .val (.int pI2), .unset] [] _
    refine XS.iloadN X0.here hx rfl (hb hby d1_0) rfl ?_
    show oS p e below s₁ m 1 #[.val (.int pI1), .val (.int pI2), .unset] [(.int pI1)] _
    refine XS.iconst X0.here hx rfl (hb hby d1_1) ?_
    show oS p e below s₁ m 2 #[.val (.int pI1), .val (.int pI2), .unset] [(.int (3 : Int32)), (.int pI1)] _
    refine XS.iand X0.here hx rfl (hb hby d1_2) rfl ?_
    show oS p e below s₁ m 3 #[.val (.int pI1), .val (.int pI2), .unset] [(.int (pI1 &&& (3 : Int32)))] _
    refine XS.istoreN X0.here hx rfl (hb hby d1_3) rfl (l' := #[.val (.int pI1), .val (.int pI2), .val (.int (pI1 &&& (3 : Int32)))]) rfl ?_
    show oS p e below s₁ m 4 #[.val (.int pI1), .val (.int pI2), .val (.int (pI1 &&& (3 : Int32)))] [] _
    refine XS.iloadN X0.here hx rfl (hb hby d1_4) rfl ?_
    show oS p e below s₁ m 5 #[.val (.int pI1), .val (.int pI2), .val (.int (pI1 &&& (3 : Int32)))] [(.int (pI1 &&& (3 : Int32)))] _
    refine XS.ifYes X0.here hx rfl (pc0 := 5) (pc' := 10) rfl (hb hby d1_5) rfl ((if0 _ _).trans (feq hc5).2) (by decide) (by decide) ?_
    show oS p e below s₁ m 10 #[.val (.int pI1), .val (.int pI2), .val (.int (pI1 &&& (3 : Int32)))] [] _
    refine XS.iloadN X0.here hx rfl (hb hby d1_10) rfl ?_
    show oS p e below s₁ m 11 #[.val (.int pI1), .val (.int pI2), .val (.int (pI1 &&& (3 : Int32)))] [(.int (pI1 &&& (3 : Int32)))] _
    refine XS.iconst X0.here hx rfl (hb hby d1_11) ?_
    show oS p e below s₁ m 12 #[.val (.int pI1), .val (.int pI2), .val (.int (pI1 &&& (3 : Int32)))] [(.int (1 : Int32)), (.int (pI1 &&& (3 : Int32)))] _
    refine XS.icmpNo X0.here hx rfl (hb hby d1_12) rfl (teq hc12).2 ?_
    show oS p e below s₁ m 15 #[.val (.int pI1), .val (.int pI2), .val (.int (pI1 &&& (3 : Int32)))] [] _
    refine X0.ldcInt hx hown (mvT hZ (ow hw 6 rfl)) (g := (mkF m 15 #[.val (.int pI1), .val (.int pI2), .val (.int (pI1 &&& (3 : Int32)))] [])) rfl (hb hby d1_15) _ ?_
    show oS p e below s₁ m 17 #[.val (.int pI1), .val (.int pI2), .val (.int (pI1 &&& (3 : Int32)))] [(.int (86400 : Int32))] _
    exact retI X0 hx Bd.returns (hb hby d1_17) hr
  · show Qpick Z pI1 pI2 h0 n0 _ s₁.heap _
    rw [e0]
    exact ⟨(by simp [own_pick, hc12]), N0, rfl⟩
theorem d1_18 : decode method_2_code 18 = .ok (.iload_n 1, 1) := by decide +kernel
theorem d1_19 : decode method_2_code 19 = .ok (.ldc 8, 2) := by decide +kernel
theorem d1_21 : decode method_2_code 21 = .ok (.iand, 1) := by decide +kernel
theorem d1_22 : decode method_2_code 22 = .ok (.ldc 9, 2) := by decide +kernel
theorem d1_24 : decode method_2_code 24 = .ok (.irem, 1) := by decide +kernel
theorem d1_25 : decode method_2_code 25 = .ok (.ireturn, 1) := by decide +kernel
theorem ef_pick2 (m : MethodId) (pI1 : Int32) (pI2 : Int32) : entryFrame m #[(.int pI1), (.int pI2)] 3 = mkF m 0 #[.val (.int pI1), .val (.int pI2), .unset] [] := by first | (simp [entryFrame, mkF, argsToLocals, Value.category]; done) | rfl
set_option maxRecDepth 65536 in
set_option maxHeartbeats 40000000 in
theorem pick2 (l : Launch) (Z : State) (a0 : Array Value) (hw : ∀ d ∈ tables_1, d.before a0 Z = true) (ws : List Jvm.Cond) (pI1 : Int32) (pI2 : Int32) (h0 : Heap) (n0 : Nat) (Z0 : n0 ≤ h0.size) (hc5 : ¬ ((pI1 &&& (3 : Int32)) = (0 : Int32))) (hc12 : ¬ ((pI1 &&& (3 : Int32)) = (1 : Int32))) :
    MetFree l yN0 (head1 (Jvm.Cond.code yN0 method_2_code 3 (some .int) :: ws) ({ frames := 0, cells := 0, slots := 0, locals := 0 } : Room)) (fun a U => a = #[(.int pI1), (.int pI2)] ∧ Z.Warmed39 U.vm ∧ U.heap = h0) (fun _ _ _ _ _ => True) (fun _ U o U' => ∃ v L, o = .returned v ∧ Qpick Z pI1 pI2 h0 n0 v U'.heap L ∧ FrameEnd U o U' L ({ frames := 0, cells := 0, slots := 0, locals := 0 } : Room).cells ({ frames := 0, cells := 0, slots := 0, locals := 0 } : Room).slots) := by
  refine MetFree.of_bodySF (plainFor_of_name pn_0) hisR ?_
  intro p e s m args below meth c s₁ Bd hml0 hP hK
  obtain ⟨rfl, hZ, hh⟩ := hP
  have hx := Bd.exec
  have hby := Bd.bytes
  have hml : c.maxLocals = 3 := hml0
  have hown : s.vm.findClass "com/example/watchful_junction/watchfuljunction/ClockTimeOfSecondOfDayPinLaw" = some m.cls := findClass_of_methodNamed Bd.named
  have hnm := (name_of_methodNamed Bd.named Bd.method).1
  have X0 : Stand p l e ({ frames := 0, cells := 0, slots := 0, locals := 0 } : Room) s m #[(.int pI1), (.int pI2)] below meth c s₁ [] 0 0 := Stand.of_body Bd
  have e0 : s₁.heap = h0 := by rw [← hh, Bd.state]; rfl
  have N0 := Fr.nil n0
  have pre0 : ∀ t, Steps p.tables e below (s₁.setTop (mkF m 0 #[.val (.int pI1), .val (.int pI2), .unset] [])) t → Steps p.tables e below (s₁.setTop (entryFrame m #[(.int pI1), (.int pI2)] 3)) t := fun t k => castTop (ef_pick2 m pI1 pI2) k
  obtain ⟨fs, hr, hrun, hended, hW, hsame⟩ := X0.leave (v := some (.int ((pI2 &&& (2147483647 : Int32)) % (86401 : Int32)))) (fun h => by rw [Bd.returns] at h; cases h)
  refine ⟨_, _, pre0 _ ?_, hrun, hended, _, _, rfl, ?_, ⟨_, rfl⟩, hW, hsame.mono (by decide) (by decide)⟩
  · show oS p e below s₁ m 0 #[.val (.int pI1), .val (.int pI2), .unset] [] _
    refine XS.iloadN X0.here hx rfl (hb hby d1_0) rfl ?_
    show oS p e below s₁ m 1 #[.val (.int pI1), .val (.int pI2), .unset] [(.int pI1)] _
    refine XS.iconst X0.here hx rfl (hb hby d1_1) ?_
    show oS p e below s₁ m 2 #[.val (.int pI1), .val (.int pI2), .unset] [(.int (3 : Int32)), (.int pI1)] _
    refine XS.iand X0.here hx rfl (hb hby d1_2) rfl ?_
    show oS p e below s₁ m 3 #[.val (.int pI1), .val (.int pI2), .unset] [(.int (pI1 &&& (3 : Int32)))] _
    refine XS.istoreN X0.here hx rfl (hb hby d1_3) rfl (l' := #[.val (.int pI1), .val (.int pI2), .val (.int (pI1 &&& (3 : Int32)))]) rfl ?_
    show oS p e below s₁ m 4 #[.val (.int pI1), .val (.int pI2), .val (.int (pI1 &&& (3 : Int32)))] [] _
    refine XS.iloadN X0.here hx rfl (hb hby d1_4) rfl ?_
    show oS p e below s₁ m 5 #[.val (.int pI1), .val (.int pI2), .val (.int (pI1 &&& (3 : Int32)))] [(.int (pI1 &&& (3 : Int32)))] _
    refine XS.ifYes X0.here hx rfl (pc0 := 5) (pc' := 10) rfl (hb hby d1_5) rfl ((if0 _ _).trans (feq hc5).2) (by decide) (by decide) ?_
    show oS p e below s₁ m 10 #[.val (.int pI1), .val (.int pI2), .val (.int (pI1 &&& (3 : Int32)))] [] _
    refine XS.iloadN X0.here hx rfl (hb hby d1_10) rfl ?_
    show oS p e below s₁ m 11 #[.val (.int pI1), .val (.int pI2), .val (.int (pI1 &&& (3 : Int32)))] [(.int (pI1 &&& (3 : Int32)))] _
    refine XS.iconst X0.here hx rfl (hb hby d1_11) ?_
    show oS p e below s₁ m 12 #[.val (.int pI1), .val (.int pI2), .val (.int (pI1 &&& (3 : Int32)))] [(.int (1 : Int32)), (.int (pI1 &&& (3 : Int32)))] _
    refine XS.icmpYes X0.here hx rfl (pc0 := 12) (pc' := 18) rfl (hb hby d1_12) rfl (feq hc12).2 (by decide) (by decide) ?_
    show oS p e below s₁ m 18 #[.val (.int pI1), .val (.int pI2), .val (.int (pI1 &&& (3 : Int32)))] [] _
    refine XS.iloadN X0.here hx rfl (hb hby d1_18) rfl ?_
    show oS p e below s₁ m 19 #[.val (.int pI1), .val (.int pI2), .val (.int (pI1 &&& (3 : Int32)))] [(.int pI2)] _
    refine X0.ldcInt hx hown (mvT hZ (ow hw 4 rfl)) (g := (mkF m 19 #[.val (.int pI1), .val (.int pI2), .val (.int (pI1 &&& (3 : Int32)))] [(.int pI2)])) rfl (hb hby d1_19) _ ?_
    show oS p e below s₁ m 21 #[.val (.int pI1), .val (.int pI2), .val (.int (pI1 &&& (3 : Int32)))] [(.int (2147483647 : Int32)), (.int pI2)] _
    refine XS.iand X0.here hx rfl (hb hby d1_21) rfl ?_
    show oS p e below s₁ m 22 #[.val (.int pI1), .val (.int pI2), .val (.int (pI1 &&& (3 : Int32)))] [(.int (pI2 &&& (2147483647 : Int32)))] _
    refine X0.ldcInt hx hown (mvT hZ (ow hw 5 rfl)) (g := (mkF m 22 #[.val (.int pI1), .val (.int pI2), .val (.int (pI1 &&& (3 : Int32)))] [(.int (pI2 &&& (2147483647 : Int32)))])) rfl (hb hby d1_22) _ ?_
    show oS p e below s₁ m 24 #[.val (.int pI1), .val (.int pI2), .val (.int (pI1 &&& (3 : Int32)))] [(.int (86401 : Int32)), (.int (pI2 &&& (2147483647 : Int32)))] _
    refine iremM (g := (mkF m 24 #[.val (.int pI1), .val (.int pI2), .val (.int (pI1 &&& (3 : Int32)))] [(.int (86401 : Int32)), (.int (pI2 &&& (2147483647 : Int32)))])) X0 hx rfl (hb hby d1_24) rfl (by decide) ?_
    show oS p e below s₁ m 25 #[.val (.int pI1), .val (.int pI2), .val (.int (pI1 &&& (3 : Int32)))] [(.int ((pI2 &&& (2147483647 : Int32)) % (86401 : Int32)))] _
    exact retI X0 hx Bd.returns (hb hby d1_25) hr
  · show Qpick Z pI1 pI2 h0 n0 _ s₁.heap _
    rw [e0]
    exact ⟨(by simp [own_pick, hc5, hc12]), N0, rfl⟩
theorem pick (l : Launch) (Z : State) (a0 : Array Value) (hw : ∀ d ∈ tables_1, d.before a0 Z = true) (ws : List Jvm.Cond) (pI1 : Int32) (pI2 : Int32) (h0 : Heap) (n0 : Nat) (Z0 : n0 ≤ h0.size) :
    MetFree l yN0 (head1 (Jvm.Cond.code yN0 method_2_code 3 (some .int) :: ws) ({ frames := 0, cells := 0, slots := 0, locals := 0 } : Room)) (fun a U => a = #[(.int pI1), (.int pI2)] ∧ Z.Warmed39 U.vm ∧ U.heap = h0) (fun _ _ _ _ _ => True) (fun _ U o U' => ∃ v L, o = .returned v ∧ Qpick Z pI1 pI2 h0 n0 v U'.heap L ∧ FrameEnd U o U' L ({ frames := 0, cells := 0, slots := 0, locals := 0 } : Room).cells ({ frames := 0, cells := 0, slots := 0, locals := 0 } : Room).slots) := by
  by_cases hc5 : (pI1 &&& (3 : Int32)) = (0 : Int32)
  · exact pick0 l Z a0 hw ws pI1 pI2 h0 n0 Z0  hc5
  · by_cases hc12 : (pI1 &&& (3 : Int32)) = (1 : Int32)
    · exact pick1 l Z a0 hw ws pI1 pI2 h0 n0 Z0  hc5 hc12
    · exact pick2 l Z a0 hw ws pI1 pI2 h0 n0 Z0  hc5 hc12
theorem d3_0 : decode prog_1_method_1_code 0 = .ok (.aload_n 0, 1) := by decide +kernel
theorem d3_1 : decode prog_1_method_1_code 1 = .ok (.invokespecial 1, 3) := by decide +kernel
theorem d3_4 : decode prog_1_method_1_code 4 = .ok (.aload_n 0, 1) := by decide +kernel
theorem d3_5 : decode prog_1_method_1_code 5 = .ok (.iload_n 1, 1) := by decide +kernel
theorem d3_6 : decode prog_1_method_1_code 6 = .ok (.putfield 7, 3) := by decide +kernel
theorem d3_9 : decode prog_1_method_1_code 9 = .ok (.return_, 1) := by decide +kernel
theorem pn_1 : plainName "com/example/watchful_junction/watchfuljunction/ClockTime" = true := by first | (simp [plainName, overriddenIn]; done) | decide +kernel
theorem ef_ctor (m : MethodId) (pR1 : Addr) (pI2 : Int32) : entryFrame m #[(.ref pR1), (.int pI2)] 2 = mkF m 0 #[.val (.ref pR1), .val (.int pI2)] [] := by first | (simp [entryFrame, mkF, argsToLocals, Value.category]; done) | rfl
def Qctor (Z : State) (pR1 : Addr) (pI2 : Int32) (h0 : Heap) (n0 : Nat) (v : Option Value) (h : Heap) (L : List Loc) : Prop := v = none ∧ Fr n0 L ∧ Keep h0 h [pR1] ∧ Exa Z h pR1 "com/example/watchful_junction/watchfuljunction/ClockTime" ∧ Fld Z h pR1 "com/example/watchful_junction/watchfuljunction/ClockTime" "secondOfDay" "I" (.int pI2)
set_option maxRecDepth 65536 in
set_option maxHeartbeats 40000000 in
theorem ctor (l : Launch) (Z : State) (a0 : Array Value) (hw : ∀ d ∈ tables_1, d.before a0 Z = true) (ws : List Jvm.Cond) (pR1 : Addr) (pI2 : Int32) (h0 : Heap) (n0 : Nat) (Z0 : n0 ≤ h0.size) (E_pR1 : Exa Z h0 pR1 "com/example/watchful_junction/watchfuljunction/ClockTime") (F_secondOfDay_pR1 : Fld Z h0 pR1 "com/example/watchful_junction/watchfuljunction/ClockTime" "secondOfDay" "I" (.int (0 : Int32))) (g_pR1 : n0 ≤ pR1) :
    MetFree l yN1 (head1 (Jvm.Cond.code yN1 prog_1_method_1_code 2 none :: ws) ({ frames := 1, cells := 0, slots := 0, locals := 12 } : Room)) (fun a U => a = #[(.ref pR1), (.int pI2)] ∧ Z.Warmed39 U.vm ∧ U.heap = h0) (fun _ _ _ _ _ => True) (fun _ U o U' => ∃ v L, o = .returned v ∧ Qctor Z pR1 pI2 h0 n0 v U'.heap L ∧ FrameEnd U o U' L ({ frames := 1, cells := 0, slots := 0, locals := 12 } : Room).cells ({ frames := 1, cells := 0, slots := 0, locals := 12 } : Room).slots) := by
  refine MetFree.of_bodySF (plainFor_of_name pn_1) hisR ?_
  intro p e s m args below meth c s₁ Bd hml0 hP hK
  obtain ⟨rfl, hZ, hh⟩ := hP
  have hx := Bd.exec
  have hby := Bd.bytes
  have hml : c.maxLocals = 2 := hml0
  have hown : s.vm.findClass "com/example/watchful_junction/watchfuljunction/ClockTime" = some m.cls := findClass_of_methodNamed Bd.named
  have hnm := (name_of_methodNamed Bd.named Bd.method).1
  have X0 : Stand p l e ({ frames := 1, cells := 0, slots := 0, locals := 12 } : Room) s m #[(.ref pR1), (.int pI2)] below meth c s₁ [] 0 0 := Stand.of_body Bd
  have e0 : s₁.heap = h0 := by rw [← hh, Bd.state]; rfl
  have N0 := Fr.nil n0
  have pre0 : ∀ t, Steps p.tables e below (s₁.setTop (mkF m 0 #[.val (.ref pR1), .val (.int pI2)] [])) t → Steps p.tables e below (s₁.setTop (entryFrame m #[(.ref pR1), (.int pI2)] 2)) t := fun t k => castTop (ef_ctor m pR1 pI2) k
  obtain ⟨T3, X3, e3, st3⟩ := initO X0 hx hZ hown (ow hw 17 rfl) (ow hw 18 rfl) (ow hw 19 rfl) e0 (g := (mkF m 1 #[.val (.ref pR1), .val (.int pI2)] [(.ref pR1)])) rfl (by rw [hml]; rfl) rfl (hb hby d3_1) (by decide) (W := 0) (by show 2 * 0 + _ ≤ _; exact Nat.le_of_eq rfl) (by decide)
  obtain ⟨T4, h4, X4, e4, W4, st4⟩ := putF X3 hx hZ hown (host := "") (Or.inl (ow hw 20 rfl)) Via.refl e3 F_secondOfDay_pR1 E_pR1 (Or.inr ⟨(ow hw 21 rfl), rfl, hnm⟩) (ow hw 13 rfl) (ty := .int) (by decide) rfl rfl (g := (mkF m 6 #[.val (.ref pR1), .val (.int pI2)] [(.int pI2), (.ref pR1)])) rfl rfl (hb hby d3_6)
  have K5 : Keep h0 h4 [pR1] := (Keep.refl h0 [pR1]).wr W4 (Or.inl (List.mem_of_getElem? (i := 0) rfl))
  have Z6 : n0 ≤ h4.size := (Nat.le_trans Z0 (Keep.of_wr W4).1)
  have N4 := Fr.snoc X4 N0 g_pR1
  have F4 : Fld Z h4 pR1 "com/example/watchful_junction/watchfuljunction/ClockTime" "secondOfDay" "I" (.int pI2) := Fld.same W4 F_secondOfDay_pR1
  have c7 : Exa Z h4 pR1 "com/example/watchful_junction/watchfuljunction/ClockTime" := E_pR1.wr W4
  obtain ⟨fs, hr, hrun, hended, hW, hsame⟩ := X4.leave (v := none) (fun _ => rfl)
  refine ⟨_, _, pre0 _ ?_, hrun, hended, _, _, rfl, ?_, ⟨_, rfl⟩, hW, hsame.mono (by decide) (by decide)⟩
  · show oS p e below s₁ m 0 #[.val (.ref pR1), .val (.int pI2)] [] _
    refine XS.aloadN X0.here hx rfl (hb hby d3_0) rfl rfl ?_
    show oS p e below s₁ m 1 #[.val (.ref pR1), .val (.int pI2)] [(.ref pR1)] _
    refine st3 _ ?_
    show oS p e below T3 m 4 #[.val (.ref pR1), .val (.int pI2)] [] _
    refine XS.aloadN X3.here hx rfl (hb hby d3_4) rfl rfl ?_
    show oS p e below T3 m 5 #[.val (.ref pR1), .val (.int pI2)] [(.ref pR1)] _
    refine XS.iloadN X3.here hx rfl (hb hby d3_5) rfl ?_
    show oS p e below T3 m 6 #[.val (.ref pR1), .val (.int pI2)] [(.int pI2), (.ref pR1)] _
    refine st4 _ ?_
    show oS p e below T4 m 9 #[.val (.ref pR1), .val (.int pI2)] [] _
    exact X4.returnOut hx Bd.returns (hb hby d3_9) hr
  · show Qctor Z pR1 pI2 h0 n0 _ T4.heap _
    rw [e4]
    exact ⟨rfl, N4, K5, c7, F4⟩
theorem d2_0 : decode prog_1_method_2_code 0 = .ok (.iload_n 0, 1) := by decide +kernel
theorem d2_1 : decode prog_1_method_2_code 1 = .ok (.ifCond .lt 9, 3) := by decide +kernel
theorem d2_4 : decode prog_1_method_2_code 4 = .ok (.iload_n 0, 1) := by decide +kernel
theorem d2_5 : decode prog_1_method_2_code 5 = .ok (.ldc 13, 2) := by decide +kernel
theorem d2_7 : decode prog_1_method_2_code 7 = .ok (.if_icmp .le 17, 3) := by decide +kernel
theorem d2_24 : decode prog_1_method_2_code 24 = .ok (.new 8, 3) := by decide +kernel
theorem d2_27 : decode prog_1_method_2_code 27 = .ok (.dup, 1) := by decide +kernel
theorem d2_28 : decode prog_1_method_2_code 28 = .ok (.iload_n 0, 1) := by decide +kernel
theorem d2_29 : decode prog_1_method_2_code 29 = .ok (.invokespecial 23, 3) := by decide +kernel
theorem pd_0 : parseMethodDescriptor "(I)V" = some ⟨[.int], none⟩ := by decide +kernel
theorem d2_32 : decode prog_1_method_2_code 32 = .ok (.areturn, 1) := by decide +kernel
theorem ef_ofs (m : MethodId) (pI1 : Int32) : entryFrame m #[(.int pI1)] 1 = mkF m 0 #[.val (.int pI1)] [] := by first | (simp [entryFrame, mkF, argsToLocals, Value.category]; done) | rfl
def Qofs (Z : State) (pI1 : Int32) (h0 : Heap) (n0 : Nat) (v : Option Value) (h : Heap) (L : List Loc) : Prop := ∃ bR2 : Addr, v = some (.ref bR2) ∧ Fr n0 L ∧ Keep h0 h [] ∧ h0.size ≤ bR2 ∧ Exa Z h bR2 "com/example/watchful_junction/watchfuljunction/ClockTime" ∧ Fld Z h bR2 "com/example/watchful_junction/watchfuljunction/ClockTime" "secondOfDay" "I" (.int pI1)
set_option maxRecDepth 65536 in
set_option maxHeartbeats 40000000 in
theorem ofs (l : Launch) (Z : State) (a0 : Array Value) (hw : ∀ d ∈ tables_1, d.before a0 Z = true) (ws : List Jvm.Cond) (pI1 : Int32) (h0 : Heap) (n0 : Nat) (Z0 : n0 ≤ h0.size) (hc1 : ¬ (pI1 < (0 : Int32))) (hc7 : ¬ ((86400 : Int32) < pI1)) :
    MetFree l yN2 (head1 (Jvm.Cond.code yN2 prog_1_method_2_code 1 (some (.object "com/example/watchful_junction/watchfuljunction/ClockTime")) :: ws) ({ frames := 2, cells := 1, slots := 1, locals := 26 } : Room)) (fun a U => a = #[(.int pI1)] ∧ Z.Warmed39 U.vm ∧ U.heap = h0) (fun _ _ _ _ _ => True) (fun _ U o U' => ∃ v L, o = .returned v ∧ Qofs Z pI1 h0 n0 v U'.heap L ∧ FrameEnd U o U' L ({ frames := 2, cells := 1, slots := 1, locals := 26 } : Room).cells ({ frames := 2, cells := 1, slots := 1, locals := 26 } : Room).slots) := by
  refine MetFree.of_bodySF (plainFor_of_name pn_1) hisR ?_
  intro p e s m args below meth c s₁ Bd hml0 hP hK
  obtain ⟨rfl, hZ, hh⟩ := hP
  have hx := Bd.exec
  have hby := Bd.bytes
  have hml : c.maxLocals = 1 := hml0
  have hown : s.vm.findClass "com/example/watchful_junction/watchfuljunction/ClockTime" = some m.cls := findClass_of_methodNamed Bd.named
  have hnm := (name_of_methodNamed Bd.named Bd.method).1
  have X0 : Stand p l e ({ frames := 2, cells := 1, slots := 1, locals := 26 } : Room) s m #[(.int pI1)] below meth c s₁ [] 0 0 := Stand.of_body Bd
  have e0 : s₁.heap = h0 := by rw [← hh, Bd.state]; rfl
  have N0 := Fr.nil n0
  have pre0 : ∀ t, Steps p.tables e below (s₁.setTop (mkF m 0 #[.val (.int pI1)] [])) t → Steps p.tables e below (s₁.setTop (entryFrame m #[(.int pI1)] 1)) t := fun t k => castTop (ef_ofs m pI1) k
  obtain ⟨T2, h2, X2, e2, E2, A2, D2, U2, st2⟩ := newO X0 hx hZ hown (ow hw 12 rfl) (ow hw 13 rfl) (ow hw 9 rfl) e0 (g := (mkF m 24 #[.val (.int pI1)] [])) rfl (hb hby d2_24) (by decide) (by decide)
  obtain ⟨bR2, g2⟩ : ∃ z, z = h0.size := ⟨_, rfl⟩
  rw [← g2] at A2 D2 U2 st2
  have K3 : Keep h0 h2 [] := (Keep.refl h0 []).ext E2
  have Z4 : n0 ≤ h2.size := (Nat.le_trans Z0 E2.1)
  have F5 : Fld Z h2 bR2 "com/example/watchful_junction/watchfuljunction/ClockTime" "secondOfDay" "I" (.int (0 : Int32)) := D2 (Or.inr (ow hw 21 rfl)) (ty := .int) (by decide)
  have g6 : n0 ≤ bR2 := Nat.le_trans Z0 (Nat.le_of_eq g2.symm)
  obtain ⟨_, _, ⟨T7, L7, k7, n7⟩, -, X7, ⟨Lc7, hQ7, l7, y7, z7⟩, st7⟩ := X2.specialBack hx (y := yN1) rfl hown (mvT hZ (ow hw 14 rfl)) (mvT hZ (ow hw 15 rfl)) (mvT hZ (ow hw 16 rfl)) (by decide) (backOf (W := 1) (ctor l Z a0 hw [] bR2 pI1 h2 n0 Z4 A2 F5 g6) hZ (ow hw 16 rfl) (ow hw 9 rfl) (by decide) (by decide)) (g := (mkF m 29 #[.val (.int pI1)] [(.int pI1), (.ref bR2), (.ref bR2)])) rfl (by rw [hml]; rfl) (Steps.refl _) (a := bR2) (argsL := [(.int pI1)]) (rest := [(.ref bR2)]) (lenOf pd_0 rfl) rfl (by show 2 * 0 + _ ≤ _; exact Nat.le_of_eq rfl) (hb hby d2_29) (fun _ _ => ⟨rfl, e2, (by decide : 1 + 0 ≤ _), (by decide : 1 + 0 ≤ _)⟩)
  dsimp only [Pt.U, Pt.locs, Pt.cells, Pt.slots] at X7 l7 y7 z7 st7 hQ7
  subst l7 y7 z7
  obtain ⟨rfl, Nq7, Kq7, x7_0, x7_1⟩ := hQ7
  have N7 := Fr.app N0 Nq7
  have K8 : Keep h0 T7.heap [] := K3.trans Kq7 (allS (Or.inr (Nat.le_of_eq g2.symm)) all0)
  have Z9 : n0 ≤ T7.heap.size := (Nat.le_trans Z4 Kq7.1)
  obtain ⟨fs, hr, hrun, hended, hW, hsame⟩ := X7.leave (v := some (.ref bR2)) (fun h => by rw [Bd.returns] at h; cases h)
  refine ⟨_, _, pre0 _ ?_, hrun, hended, _, _, rfl, ?_, ⟨_, rfl⟩, hW, hsame.mono (by decide) (by decide)⟩
  · show oS p e below s₁ m 0 #[.val (.int pI1)] [] _
    refine XS.iloadN X0.here hx rfl (hb hby d2_0) rfl ?_
    show oS p e below s₁ m 1 #[.val (.int pI1)] [(.int pI1)] _
    refine XS.ifNo X0.here hx rfl (hb hby d2_1) rfl ((if0 _ _).trans (flt hc1).1) ?_
    show oS p e below s₁ m 4 #[.val (.int pI1)] [] _
    refine XS.iloadN X0.here hx rfl (hb hby d2_4) rfl ?_
    show oS p e below s₁ m 5 #[.val (.int pI1)] [(.int pI1)] _
    refine X0.ldcInt hx hown (mvT hZ (ow hw 11 rfl)) (g := (mkF m 5 #[.val (.int pI1)] [(.int pI1)])) rfl (hb hby d2_5) _ ?_
    show oS p e below s₁ m 7 #[.val (.int pI1)] [(.int (86400 : Int32)), (.int pI1)] _
    refine XS.icmpYes X0.here hx rfl (pc0 := 7) (pc' := 24) rfl (hb hby d2_7) rfl (flt hc7).2.2.2 (by decide) (by decide) ?_
    show oS p e below s₁ m 24 #[.val (.int pI1)] [] _
    refine st2 _ ?_
    show oS p e below T2 m 27 #[.val (.int pI1)] [(.ref bR2)] _
    refine XS.dup X2.here hx rfl (hb hby d2_27) rfl rfl ?_
    show oS p e below T2 m 28 #[.val (.int pI1)] [(.ref bR2), (.ref bR2)] _
    refine XS.iloadN X2.here hx rfl (hb hby d2_28) rfl ?_
    show oS p e below T2 m 29 #[.val (.int pI1)] [(.int pI1), (.ref bR2), (.ref bR2)] _
    refine st7.trans ?_
    show oS p e below T7 m 32 #[.val (.int pI1)] [(.ref bR2)] _
    exact retOut X7 hx Bd.returns rfl (Or.inr (Or.inr (Or.inr (Or.inr ⟨rfl, rfl, rfl⟩)))) (hb hby d2_32) hr
  · show Qofs Z pI1 h0 n0 _ T7.heap _
    exact ⟨bR2, rfl, N7, K8, (Nat.le_of_eq g2.symm), x7_0, x7_1⟩
theorem d5_0 : decode prog_1_method_7_code 0 = .ok (.aload_n 0, 1) := by decide +kernel
theorem d5_1 : decode prog_1_method_7_code 1 = .ok (.getfield 7, 3) := by decide +kernel
theorem d5_4 : decode prog_1_method_7_code 4 = .ok (.ireturn, 1) := by decide +kernel
theorem ef_sod (m : MethodId) (pR1 : Addr) : entryFrame m #[(.ref pR1)] 1 = mkF m 0 #[.val (.ref pR1)] [] := by first | (simp [entryFrame, mkF, argsToLocals, Value.category]; done) | rfl
def Qsod (Z : State) (pR1 : Addr) (pI2 : Int32) (h0 : Heap) (n0 : Nat) (v : Option Value) (h : Heap) (L : List Loc) : Prop := v = some (.int pI2) ∧ Fr n0 L ∧ h = h0
set_option maxRecDepth 65536 in
set_option maxHeartbeats 40000000 in
theorem sod (l : Launch) (Z : State) (a0 : Array Value) (hw : ∀ d ∈ tables_1, d.before a0 Z = true) (ws : List Jvm.Cond) (pR1 : Addr) (pI2 : Int32) (h0 : Heap) (n0 : Nat) (Z0 : n0 ≤ h0.size) (F_secondOfDay_pR1 : Fld Z h0 pR1 "com/example/watchful_junction/watchfuljunction/ClockTime" "secondOfDay" "I" (.int pI2)) :
    MetFree l yN3 (head1 (Jvm.Cond.code yN3 prog_1_method_7_code 1 (some .int) :: ws) ({ frames := 0, cells := 0, slots := 0, locals := 0 } : Room)) (fun a U => a = #[(.ref pR1)] ∧ Z.Warmed39 U.vm ∧ U.heap = h0) (fun _ _ _ _ _ => True) (fun _ U o U' => ∃ v L, o = .returned v ∧ Qsod Z pR1 pI2 h0 n0 v U'.heap L ∧ FrameEnd U o U' L ({ frames := 0, cells := 0, slots := 0, locals := 0 } : Room).cells ({ frames := 0, cells := 0, slots := 0, locals := 0 } : Room).slots) := by
  refine MetFree.of_bodySF (plainFor_of_name pn_1) hisR ?_
  intro p e s m args below meth c s₁ Bd hml0 hP hK
  obtain ⟨rfl, hZ, hh⟩ := hP
  have hx := Bd.exec
  have hby := Bd.bytes
  have hml : c.maxLocals = 1 := hml0
  have hown : s.vm.findClass "com/example/watchful_junction/watchfuljunction/ClockTime" = some m.cls := findClass_of_methodNamed Bd.named
  have hnm := (name_of_methodNamed Bd.named Bd.method).1
  have X0 : Stand p l e ({ frames := 0, cells := 0, slots := 0, locals := 0 } : Room) s m #[(.ref pR1)] below meth c s₁ [] 0 0 := Stand.of_body Bd
  have e0 : s₁.heap = h0 := by rw [← hh, Bd.state]; rfl
  have N0 := Fr.nil n0
  have pre0 : ∀ t, Steps p.tables e below (s₁.setTop (mkF m 0 #[.val (.ref pR1)] [])) t → Steps p.tables e below (s₁.setTop (entryFrame m #[(.ref pR1)] 1)) t := fun t k => castTop (ef_sod m pR1) k
  obtain ⟨T3, X3, e3, st3⟩ := getF X0 hx hZ hown (host := "") (Or.inl (ow hw 20 rfl)) Via.refl e0 F_secondOfDay_pR1 (g := (mkF m 1 #[.val (.ref pR1)] [(.ref pR1)])) rfl rfl (hb hby d5_1)
  obtain ⟨fs, hr, hrun, hended, hW, hsame⟩ := X3.leave (v := some (.int pI2)) (fun h => by rw [Bd.returns] at h; cases h)
  refine ⟨_, _, pre0 _ ?_, hrun, hended, _, _, rfl, ?_, ⟨_, rfl⟩, hW, hsame.mono (by decide) (by decide)⟩
  · show oS p e below s₁ m 0 #[.val (.ref pR1)] [] _
    refine XS.aloadN X0.here hx rfl (hb hby d5_0) rfl rfl ?_
    show oS p e below s₁ m 1 #[.val (.ref pR1)] [(.ref pR1)] _
    refine st3 _ ?_
    show oS p e below T3 m 4 #[.val (.ref pR1)] [(.int pI2)] _
    exact retI X3 hx Bd.returns (hb hby d5_4) hr
  · show Qsod Z pR1 pI2 h0 n0 _ T3.heap _
    rw [e3]
    exact ⟨rfl, N0, rfl⟩
theorem d6_0 : decode prog_1_method_8_code 0 = .ok (.aload_n 1, 1) := by decide +kernel
theorem d6_1 : decode prog_1_method_8_code 1 = .ok (.instanceof 8, 3) := by decide +kernel
theorem d6_4 : decode prog_1_method_8_code 4 = .ok (.ifCond .eq 23, 3) := by decide +kernel
theorem d6_7 : decode prog_1_method_8_code 7 = .ok (.aload_n 1, 1) := by decide +kernel
theorem d6_8 : decode prog_1_method_8_code 8 = .ok (.checkcast 8, 3) := by decide +kernel
theorem d6_11 : decode prog_1_method_8_code 11 = .ok (.astore_n 2, 1) := by decide +kernel
theorem d6_12 : decode prog_1_method_8_code 12 = .ok (.aload_n 2, 1) := by decide +kernel
theorem d6_13 : decode prog_1_method_8_code 13 = .ok (.getfield 7, 3) := by decide +kernel
theorem d6_16 : decode prog_1_method_8_code 16 = .ok (.aload_n 0, 1) := by decide +kernel
theorem d6_17 : decode prog_1_method_8_code 17 = .ok (.getfield 7, 3) := by decide +kernel
theorem d6_20 : decode prog_1_method_8_code 20 = .ok (.if_icmp .ne 7, 3) := by decide +kernel
theorem d6_23 : decode prog_1_method_8_code 23 = .ok (.iconst 1, 1) := by decide +kernel
theorem d6_24 : decode prog_1_method_8_code 24 = .ok (.goto 4, 3) := by decide +kernel
theorem d6_28 : decode prog_1_method_8_code 28 = .ok (.ireturn, 1) := by decide +kernel
theorem ef_eqY (m : MethodId) (pR1 : Addr) (pR2 : Addr) : entryFrame m #[(.ref pR1), (.ref pR2)] 3 = mkF m 0 #[.val (.ref pR1), .val (.ref pR2), .unset] [] := by first | (simp [entryFrame, mkF, argsToLocals, Value.category]; done) | rfl
def QeqY (Z : State) (pR1 : Addr) (pR2 : Addr) (pI5 : Int32) (pI7 : Int32) (h0 : Heap) (n0 : Nat) (v : Option Value) (h : Heap) (L : List Loc) : Prop := v = some (.int (1 : Int32)) ∧ Fr n0 L ∧ h = h0
set_option maxRecDepth 65536 in
set_option maxHeartbeats 40000000 in
theorem eqY (l : Launch) (Z : State) (a0 : Array Value) (hw : ∀ d ∈ tables_1, d.before a0 Z = true) (ws : List Jvm.Cond) (pR1 : Addr) (pR2 : Addr) (pI5 : Int32) (pI7 : Int32) (h0 : Heap) (n0 : Nat) (Z0 : n0 ≤ h0.size) (E_pR2 : Exa Z h0 pR2 "com/example/watchful_junction/watchfuljunction/ClockTime") (F_secondOfDay_pR2 : Fld Z h0 pR2 "com/example/watchful_junction/watchfuljunction/ClockTime" "secondOfDay" "I" (.int pI5)) (F_secondOfDay_pR1 : Fld Z h0 pR1 "com/example/watchful_junction/watchfuljunction/ClockTime" "secondOfDay" "I" (.int pI7)) (hc20 : pI5 = pI7) :
    MetFree l yN4 (head1 (Jvm.Cond.code yN4 prog_1_method_8_code 3 (some .boolean) :: ws) ({ frames := 0, cells := 0, slots := 0, locals := 0 } : Room)) (fun a U => a = #[(.ref pR1), (.ref pR2)] ∧ Z.Warmed39 U.vm ∧ U.heap = h0) (fun _ _ _ _ _ => True) (fun _ U o U' => ∃ v L, o = .returned v ∧ QeqY Z pR1 pR2 pI5 pI7 h0 n0 v U'.heap L ∧ FrameEnd U o U' L ({ frames := 0, cells := 0, slots := 0, locals := 0 } : Room).cells ({ frames := 0, cells := 0, slots := 0, locals := 0 } : Room).slots) := by
  refine MetFree.of_bodySF (plainFor_of_name pn_1) hisR ?_
  intro p e s m args below meth c s₁ Bd hml0 hP hK
  obtain ⟨rfl, hZ, hh⟩ := hP
  have hx := Bd.exec
  have hby := Bd.bytes
  have hml : c.maxLocals = 3 := hml0
  have hown : s.vm.findClass "com/example/watchful_junction/watchfuljunction/ClockTime" = some m.cls := findClass_of_methodNamed Bd.named
  have hnm := (name_of_methodNamed Bd.named Bd.method).1
  have X0 : Stand p l e ({ frames := 0, cells := 0, slots := 0, locals := 0 } : Room) s m #[(.ref pR1), (.ref pR2)] below meth c s₁ [] 0 0 := Stand.of_body Bd
  have e0 : s₁.heap = h0 := by rw [← hh, Bd.state]; rfl
  have N0 := Fr.nil n0
  have pre0 : ∀ t, Steps p.tables e below (s₁.setTop (mkF m 0 #[.val (.ref pR1), .val (.ref pR2), .unset] [])) t → Steps p.tables e below (s₁.setTop (entryFrame m #[(.ref pR1), (.ref pR2)] 3)) t := fun t k => castTop (ef_eqY m pR1 pR2) k
  obtain ⟨T3, X3, e3, st3⟩ := instY X0 hx hZ hown (ow hw 12 rfl) e0 (Ins.self E_pR2) (g := (mkF m 1 #[.val (.ref pR1), .val (.ref pR2), .unset] [(.ref pR2)])) rfl rfl (hb hby d6_1)
  obtain ⟨T4, X4, e4, st4⟩ := castY X3 hx hZ hown (ow hw 12 rfl) e3 (Ins.self E_pR2) (g := (mkF m 8 #[.val (.ref pR1), .val (.ref pR2), .unset] [(.ref pR2)])) rfl rfl (hb hby d6_8)
  obtain ⟨T6, X6, e6, st6⟩ := getF X4 hx hZ hown (host := "") (Or.inl (ow hw 20 rfl)) Via.refl e4 F_secondOfDay_pR2 (g := (mkF m 13 #[.val (.ref pR1), .val (.ref pR2), .val (.ref pR2)] [(.ref pR2)])) rfl rfl (hb hby d6_13)
  obtain ⟨T8, X8, e8, st8⟩ := getF X6 hx hZ hown (host := "") (Or.inl (ow hw 20 rfl)) Via.refl e6 F_secondOfDay_pR1 (g := (mkF m 17 #[.val (.ref pR1), .val (.ref pR2), .val (.ref pR2)] [(.ref pR1), (.int pI5)])) rfl rfl (hb hby d6_17)
  obtain ⟨fs, hr, hrun, hended, hW, hsame⟩ := X8.leave (v := some (.int (1 : Int32))) (fun h => by rw [Bd.returns] at h; cases h)
  refine ⟨_, _, pre0 _ ?_, hrun, hended, _, _, rfl, ?_, ⟨_, rfl⟩, hW, hsame.mono (by decide) (by decide)⟩
  · show oS p e below s₁ m 0 #[.val (.ref pR1), .val (.ref pR2), .unset] [] _
    refine XS.aloadN X0.here hx rfl (hb hby d6_0) rfl rfl ?_
    show oS p e below s₁ m 1 #[.val (.ref pR1), .val (.ref pR2), .unset] [(.ref pR2)] _
    refine st3 _ ?_
    show oS p e below T3 m 4 #[.val (.ref pR1), .val (.ref pR2), .unset] [(.int (1 : Int32))] _
    refine XS.ifNo X3.here hx rfl (hb hby d6_4) rfl ((if0 _ _).trans (feq (by decide : ¬ ((1 : Int32) = (0 : Int32)))).1) ?_
    show oS p e below T3 m 7 #[.val (.ref pR1), .val (.ref pR2), .unset] [] _
    refine XS.aloadN X3.here hx rfl (hb hby d6_7) rfl rfl ?_
    show oS p e below T3 m 8 #[.val (.ref pR1), .val (.ref pR2), .unset] [(.ref pR2)] _
    refine st4 _ ?_
    show oS p e below T4 m 11 #[.val (.ref pR1), .val (.ref pR2), .unset] [(.ref pR2)] _
    refine XS.astoreN X4.here hx rfl (hb hby d6_11) rfl rfl (l' := #[.val (.ref pR1), .val (.ref pR2), .val (.ref pR2)]) rfl ?_
    show oS p e below T4 m 12 #[.val (.ref pR1), .val (.ref pR2), .val (.ref pR2)] [] _
    refine XS.aloadN X4.here hx rfl (hb hby d6_12) rfl rfl ?_
    show oS p e below T4 m 13 #[.val (.ref pR1), .val (.ref pR2), .val (.ref pR2)] [(.ref pR2)] _
    refine st6 _ ?_
    show oS p e below T6 m 16 #[.val (.ref pR1), .val (.ref pR2), .val (.ref pR2)] [(.int pI5)] _
    refine XS.aloadN X6.here hx rfl (hb hby d6_16) rfl rfl ?_
    show oS p e below T6 m 17 #[.val (.ref pR1), .val (.ref pR2), .val (.ref pR2)] [(.ref pR1), (.int pI5)] _
    refine st8 _ ?_
    show oS p e below T8 m 20 #[.val (.ref pR1), .val (.ref pR2), .val (.ref pR2)] [(.int pI7), (.int pI5)] _
    refine XS.icmpNo X8.here hx rfl (hb hby d6_20) rfl (teq hc20).2 ?_
    show oS p e below T8 m 23 #[.val (.ref pR1), .val (.ref pR2), .val (.ref pR2)] [] _
    refine XS.iconst X8.here hx rfl (hb hby d6_23) ?_
    show oS p e below T8 m 24 #[.val (.ref pR1), .val (.ref pR2), .val (.ref pR2)] [(.int (1 : Int32))] _
    refine XS.goto X8.here hx rfl (pc0 := 24) (pc' := 28) rfl (hb hby d6_24) (by decide) (by decide) ?_
    show oS p e below T8 m 28 #[.val (.ref pR1), .val (.ref pR2), .val (.ref pR2)] [(.int (1 : Int32))] _
    exact retN X8 hx (t := .boolean) Bd.returns (by simp) (hb hby d6_28) hr
  · show QeqY Z pR1 pR2 pI5 pI7 h0 n0 _ T8.heap _
    rw [e8]
    exact ⟨rfl, N0, rfl⟩
theorem d6_27 : decode prog_1_method_8_code 27 = .ok (.iconst 0, 1) := by decide +kernel
theorem ef_eqN (m : MethodId) (pR1 : Addr) (pR2 : Addr) : entryFrame m #[(.ref pR1), (.ref pR2)] 3 = mkF m 0 #[.val (.ref pR1), .val (.ref pR2), .unset] [] := by first | (simp [entryFrame, mkF, argsToLocals, Value.category]; done) | rfl
def QeqN (Z : State) (pR1 : Addr) (pR2 : Addr) (pI5 : Int32) (pI7 : Int32) (h0 : Heap) (n0 : Nat) (v : Option Value) (h : Heap) (L : List Loc) : Prop := v = some (.int (0 : Int32)) ∧ Fr n0 L ∧ h = h0
set_option maxRecDepth 65536 in
set_option maxHeartbeats 40000000 in
theorem eqN (l : Launch) (Z : State) (a0 : Array Value) (hw : ∀ d ∈ tables_1, d.before a0 Z = true) (ws : List Jvm.Cond) (pR1 : Addr) (pR2 : Addr) (pI5 : Int32) (pI7 : Int32) (h0 : Heap) (n0 : Nat) (Z0 : n0 ≤ h0.size) (E_pR2 : Exa Z h0 pR2 "com/example/watchful_junction/watchfuljunction/ClockTime") (F_secondOfDay_pR2 : Fld Z h0 pR2 "com/example/watchful_junction/watchfuljunction/ClockTime" "secondOfDay" "I" (.int pI5)) (F_secondOfDay_pR1 : Fld Z h0 pR1 "com/example/watchful_junction/watchfuljunction/ClockTime" "secondOfDay" "I" (.int pI7)) (hc20 : ¬ (pI5 = pI7)) :
    MetFree l yN4 (head1 (Jvm.Cond.code yN4 prog_1_method_8_code 3 (some .boolean) :: ws) ({ frames := 0, cells := 0, slots := 0, locals := 0 } : Room)) (fun a U => a = #[(.ref pR1), (.ref pR2)] ∧ Z.Warmed39 U.vm ∧ U.heap = h0) (fun _ _ _ _ _ => True) (fun _ U o U' => ∃ v L, o = .returned v ∧ QeqN Z pR1 pR2 pI5 pI7 h0 n0 v U'.heap L ∧ FrameEnd U o U' L ({ frames := 0, cells := 0, slots := 0, locals := 0 } : Room).cells ({ frames := 0, cells := 0, slots := 0, locals := 0 } : Room).slots) := by
  refine MetFree.of_bodySF (plainFor_of_name pn_1) hisR ?_
  intro p e s m args below meth c s₁ Bd hml0 hP hK
  obtain ⟨rfl, hZ, hh⟩ := hP
  have hx := Bd.exec
  have hby := Bd.bytes
  have hml : c.maxLocals = 3 := hml0
  have hown : s.vm.findClass "com/example/watchful_junction/watchfuljunction/ClockTime" = some m.cls := findClass_of_methodNamed Bd.named
  have hnm := (name_of_methodNamed Bd.named Bd.method).1
  have X0 : Stand p l e ({ frames := 0, cells := 0, slots := 0, locals := 0 } : Room) s m #[(.ref pR1), (.ref pR2)] below meth c s₁ [] 0 0 := Stand.of_body Bd
  have e0 : s₁.heap = h0 := by rw [← hh, Bd.state]; rfl
  have N0 := Fr.nil n0
  have pre0 : ∀ t, Steps p.tables e below (s₁.setTop (mkF m 0 #[.val (.ref pR1), .val (.ref pR2), .unset] [])) t → Steps p.tables e below (s₁.setTop (entryFrame m #[(.ref pR1), (.ref pR2)] 3)) t := fun t k => castTop (ef_eqN m pR1 pR2) k
  obtain ⟨T3, X3, e3, st3⟩ := instY X0 hx hZ hown (ow hw 12 rfl) e0 (Ins.self E_pR2) (g := (mkF m 1 #[.val (.ref pR1), .val (.ref pR2), .unset] [(.ref pR2)])) rfl rfl (hb hby d6_1)
  obtain ⟨T4, X4, e4, st4⟩ := castY X3 hx hZ hown (ow hw 12 rfl) e3 (Ins.self E_pR2) (g := (mkF m 8 #[.val (.ref pR1), .val (.ref pR2), .unset] [(.ref pR2)])) rfl rfl (hb hby d6_8)
  obtain ⟨T6, X6, e6, st6⟩ := getF X4 hx hZ hown (host := "") (Or.inl (ow hw 20 rfl)) Via.refl e4 F_secondOfDay_pR2 (g := (mkF m 13 #[.val (.ref pR1), .val (.ref pR2), .val (.ref pR2)] [(.ref pR2)])) rfl rfl (hb hby d6_13)
  obtain ⟨T8, X8, e8, st8⟩ := getF X6 hx hZ hown (host := "") (Or.inl (ow hw 20 rfl)) Via.refl e6 F_secondOfDay_pR1 (g := (mkF m 17 #[.val (.ref pR1), .val (.ref pR2), .val (.ref pR2)] [(.ref pR1), (.int pI5)])) rfl rfl (hb hby d6_17)
  obtain ⟨fs, hr, hrun, hended, hW, hsame⟩ := X8.leave (v := some (.int (0 : Int32))) (fun h => by rw [Bd.returns] at h; cases h)
  refine ⟨_, _, pre0 _ ?_, hrun, hended, _, _, rfl, ?_, ⟨_, rfl⟩, hW, hsame.mono (by decide) (by decide)⟩
  · show oS p e below s₁ m 0 #[.val (.ref pR1), .val (.ref pR2), .unset] [] _
    refine XS.aloadN X0.here hx rfl (hb hby d6_0) rfl rfl ?_
    show oS p e below s₁ m 1 #[.val (.ref pR1), .val (.ref pR2), .unset] [(.ref pR2)] _
    refine st3 _ ?_
    show oS p e below T3 m 4 #[.val (.ref pR1), .val (.ref pR2), .unset] [(.int (1 : Int32))] _
    refine XS.ifNo X3.here hx rfl (hb hby d6_4) rfl ((if0 _ _).trans (feq (by decide : ¬ ((1 : Int32) = (0 : Int32)))).1) ?_
    show oS p e below T3 m 7 #[.val (.ref pR1), .val (.ref pR2), .unset] [] _
    refine XS.aloadN X3.here hx rfl (hb hby d6_7) rfl rfl ?_
    show oS p e below T3 m 8 #[.val (.ref pR1), .val (.ref pR2), .unset] [(.ref pR2)] _
    refine st4 _ ?_
    show oS p e below T4 m 11 #[.val (.ref pR1), .val (.ref pR2), .unset] [(.ref pR2)] _
    refine XS.astoreN X4.here hx rfl (hb hby d6_11) rfl rfl (l' := #[.val (.ref pR1), .val (.ref pR2), .val (.ref pR2)]) rfl ?_
    show oS p e below T4 m 12 #[.val (.ref pR1), .val (.ref pR2), .val (.ref pR2)] [] _
    refine XS.aloadN X4.here hx rfl (hb hby d6_12) rfl rfl ?_
    show oS p e below T4 m 13 #[.val (.ref pR1), .val (.ref pR2), .val (.ref pR2)] [(.ref pR2)] _
    refine st6 _ ?_
    show oS p e below T6 m 16 #[.val (.ref pR1), .val (.ref pR2), .val (.ref pR2)] [(.int pI5)] _
    refine XS.aloadN X6.here hx rfl (hb hby d6_16) rfl rfl ?_
    show oS p e below T6 m 17 #[.val (.ref pR1), .val (.ref pR2), .val (.ref pR2)] [(.ref pR1), (.int pI5)] _
    refine st8 _ ?_
    show oS p e below T8 m 20 #[.val (.ref pR1), .val (.ref pR2), .val (.ref pR2)] [(.int pI7), (.int pI5)] _
    refine XS.icmpYes X8.here hx rfl (pc0 := 20) (pc' := 27) rfl (hb hby d6_20) rfl (feq hc20).2 (by decide) (by decide) ?_
    show oS p e below T8 m 27 #[.val (.ref pR1), .val (.ref pR2), .val (.ref pR2)] [] _
    refine XS.iconst X8.here hx rfl (hb hby d6_27) ?_
    show oS p e below T8 m 28 #[.val (.ref pR1), .val (.ref pR2), .val (.ref pR2)] [(.int (0 : Int32))] _
    exact retN X8 hx (t := .boolean) Bd.returns (by simp) (hb hby d6_28) hr
  · show QeqN Z pR1 pR2 pI5 pI7 h0 n0 _ T8.heap _
    rw [e8]
    exact ⟨rfl, N0, rfl⟩
theorem pd_1 : parseMethodDescriptor "(II)I" = some ⟨[.int, .int], some .int⟩ := by decide +kernel
theorem pd_2 : parseMethodDescriptor "(I)Lcom/example/watchful_junction/watchfuljunction/ClockTime;" = some ⟨[.int], some (.object "com/example/watchful_junction/watchfuljunction/ClockTime")⟩ := by decide +kernel
theorem pd_3 : parseMethodDescriptor "()I" = some ⟨[], some .int⟩ := by decide +kernel
theorem pd_4 : parseMethodDescriptor "(Ljava/lang/Object;)Z" = some ⟨[(.object "java/lang/Object")], some .boolean⟩ := by decide +kernel
theorem ef_law11 (m : MethodId) (pI1 : Int32) (pI2 : Int32) (pI3 : Int32) (pI4 : Int32) : entryFrame m #[(.int pI1), (.int pI2), (.int pI3), (.int pI4)] maxLocals = mkF m 0 #[.val (.int pI1), .val (.int pI2), .val (.int pI3), .val (.int pI4), .unset, .unset, .unset, .unset, .unset, .unset, .unset] [] := by first | (simp [entryFrame, mkF, argsToLocals, Value.category, maxLocals]; done) | rfl
def Qlaw11 (Z : State) (pI1 : Int32) (pI2 : Int32) (pI3 : Int32) (pI4 : Int32) (pR18 : Addr) (pI24 : Int32) (h0 : Heap) (n0 : Nat) (v : Option Value) (h : Heap) (L : List Loc) : Prop := v = some (.int (1 : Int32)) ∧ Fr n0 L
set_option maxRecDepth 65536 in
set_option maxHeartbeats 40000000 in
theorem law11 (l : Launch) (Z : State) (a0 : Array Value) (hw : ∀ d ∈ tables_1, d.before a0 Z = true) (ws : List Jvm.Cond) (pI1 : Int32) (pI2 : Int32) (pI3 : Int32) (pI4 : Int32) (pR18 : Addr) (pI24 : Int32) (h0 : Heap) (n0 : Nat) (Z0 : n0 ≤ h0.size) (S_ClockTime_END_OF_DAY : Sta Z h0 "com/example/watchful_junction/watchfuljunction/ClockTime" "END_OF_DAY" "Lcom/example/watchful_junction/watchfuljunction/ClockTime;" (.ref pR18)) (E_pR18 : Exa Z h0 pR18 "com/example/watchful_junction/watchfuljunction/ClockTime") (F_secondOfDay_pR18 : Fld Z h0 pR18 "com/example/watchful_junction/watchfuljunction/ClockTime" "secondOfDay" "I" (.int pI24)) (hst : (own_pick pI3 pI1) = (own_pick pI4 pI2)) (hse : (own_pick pI3 pI1) = (86400 : Int32)) (hc16 : ¬ ((own_pick pI3 pI1) < (0 : Int32))) (hc16' : ¬ ((86400 : Int32) < (own_pick pI3 pI1))) (hc23 : ¬ ((own_pick pI4 pI2) < (0 : Int32))) (hc23' : ¬ ((86400 : Int32) < (own_pick pI4 pI2))) (hc96 : pI24 = (own_pick pI3 pI1)) :
    MetFree l x (head1 (Jvm.Cond.code x code maxLocals ret :: ws) room_1) (fun a U => a = #[(.int pI1), (.int pI2), (.int pI3), (.int pI4)] ∧ Z.Warmed39 U.vm ∧ U.heap = h0) (fun _ _ _ _ _ => True) (fun _ U o U' => ∃ v L, o = .returned v ∧ Qlaw11 Z pI1 pI2 pI3 pI4 pR18 pI24 h0 n0 v U'.heap L ∧ FrameEnd U o U' L room_1.cells room_1.slots) := by
  refine MetFree.of_bodySF (plainFor_of_name pn_0) hisR ?_
  intro p e s m args below meth c s₁ Bd hml0 hP hK
  obtain ⟨rfl, hZ, hh⟩ := hP
  have hx := Bd.exec
  have hby := Bd.bytes
  have hml : c.maxLocals = 11 := hml0
  have hown : s.vm.findClass "com/example/watchful_junction/watchfuljunction/ClockTimeOfSecondOfDayPinLaw" = some m.cls := findClass_of_methodNamed Bd.named
  have hnm := (name_of_methodNamed Bd.named Bd.method).1
  have X0 : Stand p l e room_1 s m #[(.int pI1), (.int pI2), (.int pI3), (.int pI4)] below meth c s₁ [] 0 0 := Stand.of_body Bd
  have e0 : s₁.heap = h0 := by rw [← hh, Bd.state]; rfl
  have N0 := Fr.nil n0
  have pre0 : ∀ t, Steps p.tables e below (s₁.setTop (mkF m 0 #[.val (.int pI1), .val (.int pI2), .val (.int pI3), .val (.int pI4), .unset, .unset, .unset, .unset, .unset, .unset, .unset] [])) t → Steps p.tables e below (s₁.setTop (entryFrame m #[(.int pI1), (.int pI2), (.int pI3), (.int pI4)] maxLocals)) t := fun t k => castTop (ef_law11 m pI1 pI2 pI3 pI4) k
  obtain ⟨_, _, ⟨T5, L5, k5, n5⟩, -, X5, ⟨Lc5, hQ5, l5, y5, z5⟩, st5⟩ := Jvm.LawKit.callS X0 hx (y := yN0) hown (mvT hZ (ow hw 0 rfl)) (mvT hZ (ow hw 1 rfl)) (mvT hZ (ow hw 2 rfl)) (mvT hZ (ow hw 3 rfl)) (by decide) (backOf (W := 0) (pick l Z a0 hw [] pI3 pI1 h0 n0 Z0 ) hZ (ow hw 3 rfl) (ow hw 2 rfl) (by decide) (by decide)) (g := (mkF m 2 #[.val (.int pI1), .val (.int pI2), .val (.int pI3), .val (.int pI4), .unset, .unset, .unset, .unset, .unset, .unset, .unset] [(.int pI1), (.int pI3)])) rfl (by rw [hml]; rfl) (argsL := [(.int pI3), (.int pI1)]) (rest := []) (lenOf pd_1 rfl) rfl (by show 2 * 0 + _ ≤ _; exact Nat.le_of_eq rfl) (hb hby at_2) (fun _ _ => ⟨rfl, e0, (by decide : 0 + 0 ≤ _), (by decide : 0 + 0 ≤ _)⟩)
  dsimp only [Pt.U, Pt.locs, Pt.cells, Pt.slots] at X5 l5 y5 z5 st5 hQ5
  subst l5 y5 z5
  obtain ⟨rfl, Nq5, e5⟩ := hQ5
  have N5 := Fr.app N0 Nq5
  obtain ⟨_, _, ⟨T6, L6, k6, n6⟩, -, X6, ⟨Lc6, hQ6, l6, y6, z6⟩, st6⟩ := Jvm.LawKit.callS X5 hx (y := yN0) hown (mvT hZ (ow hw 0 rfl)) (mvT hZ (ow hw 1 rfl)) (mvT hZ (ow hw 2 rfl)) (mvT hZ (ow hw 3 rfl)) (by decide) (backOf (W := 0) (pick l Z a0 hw [] pI4 pI2 h0 n0 Z0 ) hZ (ow hw 3 rfl) (ow hw 2 rfl) (by decide) (by decide)) (g := (mkF m 9 #[.val (.int pI1), .val (.int pI2), .val (.int pI3), .val (.int pI4), .val (.int (own_pick pI3 pI1)), .unset, .unset, .unset, .unset, .unset, .unset] [(.int pI2), (.int pI4)])) rfl (by rw [hml]; rfl) (argsL := [(.int pI4), (.int pI2)]) (rest := []) (lenOf pd_1 rfl) rfl (by show 2 * 0 + _ ≤ _; exact Nat.le_of_eq rfl) (hb hby at_9) (fun _ _ => ⟨rfl, e5, (by decide : 0 + 0 ≤ _), (by decide : 0 + 0 ≤ _)⟩)
  dsimp only [Pt.U, Pt.locs, Pt.cells, Pt.slots] at X6 l6 y6 z6 st6 hQ6
  subst l6 y6 z6
  obtain ⟨rfl, Nq6, e6⟩ := hQ6
  have N6 := Fr.app N5 Nq6
  obtain ⟨_, _, ⟨T7, L7, k7, n7⟩, -, X7, ⟨Lc7, hQ7, l7, y7, z7⟩, st7⟩ := Jvm.LawKit.callS X6 hx (y := yN2) hown (mvT hZ (ow hw 7 rfl)) (mvT hZ (ow hw 8 rfl)) (mvT hZ (ow hw 9 rfl)) (mvT hZ (ow hw 10 rfl)) (by decide) (backOf (W := 0) (ofs l Z a0 hw [] (own_pick pI3 pI1) h0 n0 Z0 hc16 hc16') hZ (ow hw 10 rfl) (ow hw 9 rfl) (by decide) (by decide)) (g := (mkF m 16 #[.val (.int pI1), .val (.int pI2), .val (.int pI3), .val (.int pI4), .val (.int (own_pick pI3 pI1)), .val (.int (own_pick pI4 pI2)), .unset, .unset, .unset, .unset, .unset] [(.int (own_pick pI3 pI1))])) rfl (by rw [hml]; rfl) (argsL := [(.int (own_pick pI3 pI1))]) (rest := []) (lenOf pd_2 rfl) rfl (by show 2 * 0 + _ ≤ _; exact Nat.le_of_eq rfl) (hb hby at_16) (fun _ _ => ⟨rfl, e6, (by decide : 0 + 1 ≤ _), (by decide : 0 + 1 ≤ _)⟩)
  dsimp only [Pt.U, Pt.locs, Pt.cells, Pt.slots] at X7 l7 y7 z7 st7 hQ7
  subst l7 y7 z7
  obtain ⟨bR7_2, rfl, Nq7, Kq7, sz7_2, x7_0, x7_1⟩ := hQ7
  have N7 := Fr.app N6 Nq7
  have Z9 : n0 ≤ T7.heap.size := (Nat.le_trans Z0 Kq7.1)
  obtain ⟨_, _, ⟨T10, L10, k10, n10⟩, -, X10, ⟨Lc10, hQ10, l10, y10, z10⟩, st10⟩ := Jvm.LawKit.callS X7 hx (y := yN2) hown (mvT hZ (ow hw 7 rfl)) (mvT hZ (ow hw 8 rfl)) (mvT hZ (ow hw 9 rfl)) (mvT hZ (ow hw 10 rfl)) (by decide) (backOf (W := 0) (ofs l Z a0 hw [] (own_pick pI4 pI2) T7.heap n0 Z9 hc23 hc23') hZ (ow hw 10 rfl) (ow hw 9 rfl) (by decide) (by decide)) (g := (mkF m 23 #[.val (.int pI1), .val (.int pI2), .val (.int pI3), .val (.int pI4), .val (.int (own_pick pI3 pI1)), .val (.int (own_pick pI4 pI2)), .val (.ref bR7_2), .unset, .unset, .unset, .unset] [(.int (own_pick pI4 pI2))])) rfl (by rw [hml]; rfl) (argsL := [(.int (own_pick pI4 pI2))]) (rest := []) (lenOf pd_2 rfl) rfl (by show 2 * 0 + _ ≤ _; exact Nat.le_of_eq rfl) (hb hby at_23) (fun _ _ => ⟨rfl, rfl, (by decide : 1 + 1 ≤ _), (by decide : 1 + 1 ≤ _)⟩)
  dsimp only [Pt.U, Pt.locs, Pt.cells, Pt.slots] at X10 l10 y10 z10 st10 hQ10
  subst l10 y10 z10
  obtain ⟨bR10_2, rfl, Nq10, Kq10, sz10_2, x10_0, x10_1⟩ := hQ10
  have N10 := Fr.app N7 Nq10
  have Z12 : n0 ≤ T10.heap.size := (Nat.le_trans Z9 Kq10.1)
  have c13 : Fld Z T10.heap bR7_2 "com/example/watchful_junction/watchfuljunction/ClockTime" "secondOfDay" "I" (.int (own_pick pI3 pI1)) := x7_1.keep Kq10 nin0
  have c15 : Exa Z T10.heap bR7_2 "com/example/watchful_junction/watchfuljunction/ClockTime" := x7_0.keep Kq10
  obtain ⟨cq14, kq14, q14a, q14b, q14c⟩ := isOf hZ rfl c15
  obtain ⟨_, _, ⟨T14, L14, k14, n14⟩, -, X14, ⟨Lc14, hQ14, l14, y14, z14⟩, st14⟩ := X10.virtualBack hx (y := yN3) (z := yN3) hown (mvT hZ (ow hw 22 rfl)) (mvT hZ (ow hw 23 rfl)) (notFace_of_selects (args := #[]) (mvT hZ (ow hw 25 rfl))) (mvT hZ (ow hw 25 rfl)) (mvT hZ (ow hw 24 rfl)) (by decide) (backOf (W := 0) (sod l Z a0 hw [] bR7_2 (own_pick pI3 pI1) T10.heap n0 Z12 c13) hZ (ow hw 26 rfl) (ow hw 9 rfl) (by decide) (by decide)) q14a q14c (g := (mkF m 30 #[.val (.int pI1), .val (.int pI2), .val (.int pI3), .val (.int pI4), .val (.int (own_pick pI3 pI1)), .val (.int (own_pick pI4 pI2)), .val (.ref bR7_2), .val (.ref bR10_2), .unset, .unset, .unset] [(.ref bR7_2)])) rfl (by rw [hml]; rfl) (Steps.refl _) (argsL := []) (rest := []) (lenOf pd_3 rfl) rfl (by show 2 * 0 + _ ≤ _; exact Nat.le_of_eq rfl) (hb hby at_30) (fun _ _ => ⟨rfl, rfl, (by decide : 2 + 0 ≤ _), (by decide : 2 + 0 ≤ _)⟩)
  dsimp only [Pt.U, Pt.locs, Pt.cells, Pt.slots] at X14 l14 y14 z14 st14 hQ14
  subst l14 y14 z14
  obtain ⟨rfl, Nq14, e14⟩ := hQ14
  have N14 := Fr.app N10 Nq14
  obtain ⟨cq16, kq16, q16a, q16b, q16c⟩ := isOf hZ e14 x10_0
  obtain ⟨_, _, ⟨T16, L16, k16, n16⟩, -, X16, ⟨Lc16, hQ16, l16, y16, z16⟩, st16⟩ := X14.virtualBack hx (y := yN3) (z := yN3) hown (mvT hZ (ow hw 22 rfl)) (mvT hZ (ow hw 23 rfl)) (notFace_of_selects (args := #[]) (mvT hZ (ow hw 25 rfl))) (mvT hZ (ow hw 25 rfl)) (mvT hZ (ow hw 24 rfl)) (by decide) (backOf (W := 0) (sod l Z a0 hw [] bR10_2 (own_pick pI4 pI2) T10.heap n0 Z12 x10_1) hZ (ow hw 26 rfl) (ow hw 9 rfl) (by decide) (by decide)) q16a q16c (g := (mkF m 40 #[.val (.int pI1), .val (.int pI2), .val (.int pI3), .val (.int pI4), .val (.int (own_pick pI3 pI1)), .val (.int (own_pick pI4 pI2)), .val (.ref bR7_2), .val (.ref bR10_2), .unset, .unset, .unset] [(.ref bR10_2)])) rfl (by rw [hml]; rfl) (Steps.refl _) (argsL := []) (rest := []) (lenOf pd_3 rfl) rfl (by show 2 * 0 + _ ≤ _; exact Nat.le_of_eq rfl) (hb hby at_40) (fun _ _ => ⟨rfl, e14, (by decide : 2 + 0 ≤ _), (by decide : 2 + 0 ≤ _)⟩)
  dsimp only [Pt.U, Pt.locs, Pt.cells, Pt.slots] at X16 l16 y16 z16 st16 hQ16
  subst l16 y16 z16
  obtain ⟨rfl, Nq16, e16⟩ := hQ16
  have N16 := Fr.app N14 Nq16
  obtain ⟨cq17, kq17, q17a, q17b, q17c⟩ := isOf hZ e16 c15
  obtain ⟨_, _, ⟨T17, L17, k17, n17⟩, -, X17, ⟨Lc17, hQ17, l17, y17, z17⟩, st17⟩ := X16.virtualBack hx (y := yN4) (z := yN4) hown (mvT hZ (ow hw 27 rfl)) (mvT hZ (ow hw 28 rfl)) (notFace_of_selects (args := #[]) (mvT hZ (ow hw 30 rfl))) (mvT hZ (ow hw 30 rfl)) (mvT hZ (ow hw 29 rfl)) (by decide) (backOf (W := 0) (eqY l Z a0 hw [] bR7_2 bR10_2 (own_pick pI4 pI2) (own_pick pI3 pI1) T10.heap n0 Z12 x10_0 x10_1 c13 (Eq.symm hst)) hZ (ow hw 31 rfl) (ow hw 9 rfl) (by decide) (by decide)) q17a q17c (g := (mkF m 59 #[.val (.int pI1), .val (.int pI2), .val (.int pI3), .val (.int pI4), .val (.int (own_pick pI3 pI1)), .val (.int (own_pick pI4 pI2)), .val (.ref bR7_2), .val (.ref bR10_2), .val (.int (1 : Int32)), .unset, .unset] [(.ref bR10_2), (.ref bR7_2)])) rfl (by rw [hml]; rfl) (Steps.refl _) (argsL := [(.ref bR10_2)]) (rest := []) (lenOf pd_4 rfl) rfl (by show 2 * 0 + _ ≤ _; exact Nat.le_of_eq rfl) (hb hby at_59) (fun _ _ => ⟨rfl, e16, (by decide : 2 + 0 ≤ _), (by decide : 2 + 0 ≤ _)⟩)
  dsimp only [Pt.U, Pt.locs, Pt.cells, Pt.slots] at X17 l17 y17 z17 st17 hQ17
  subst l17 y17 z17
  obtain ⟨rfl, Nq17, e17⟩ := hQ17
  have N17 := Fr.app N16 Nq17
  have c19 : Sta Z T7.heap "com/example/watchful_junction/watchfuljunction/ClockTime" "END_OF_DAY" "Lcom/example/watchful_junction/watchfuljunction/ClockTime;" (.ref pR18) := own_sta_keep S_ClockTime_END_OF_DAY Kq7 all0
  have c20 : Sta Z T10.heap "com/example/watchful_junction/watchfuljunction/ClockTime" "END_OF_DAY" "Lcom/example/watchful_junction/watchfuljunction/ClockTime;" (.ref pR18) := own_sta_keep c19 Kq10 all0
  obtain ⟨T21, X21, e21, st21⟩ := getS2 X17 hx hZ hown (host := "") (Or.inl (ow hw 33 rfl)) Via.refl e17 c20 (g := (mkF m 93 #[.val (.int pI1), .val (.int pI2), .val (.int pI3), .val (.int pI4), .val (.int (own_pick pI3 pI1)), .val (.int (own_pick pI4 pI2)), .val (.ref bR7_2), .val (.ref bR10_2), .val (.int (1 : Int32)), .val (.int (1 : Int32)), .unset] [(.ref bR7_2)])) rfl (hb hby at_93)
  have c22 : Exa Z T7.heap pR18 "com/example/watchful_junction/watchfuljunction/ClockTime" := E_pR18.keep Kq7
  have c23 : Exa Z T10.heap pR18 "com/example/watchful_junction/watchfuljunction/ClockTime" := c22.keep Kq10
  have c25 : Fld Z T7.heap pR18 "com/example/watchful_junction/watchfuljunction/ClockTime" "secondOfDay" "I" (.int pI24) := F_secondOfDay_pR18.keep Kq7 nin0
  have c26 : Fld Z T10.heap pR18 "com/example/watchful_junction/watchfuljunction/ClockTime" "secondOfDay" "I" (.int pI24) := c25.keep Kq10 nin0
  obtain ⟨cq27, kq27, q27a, q27b, q27c⟩ := isOf hZ e21 c15
  obtain ⟨_, _, ⟨T27, L27, k27, n27⟩, -, X27, ⟨Lc27, hQ27, l27, y27, z27⟩, st27⟩ := X21.virtualBack hx (y := yN4) (z := yN4) hown (mvT hZ (ow hw 27 rfl)) (mvT hZ (ow hw 28 rfl)) (notFace_of_selects (args := #[]) (mvT hZ (ow hw 30 rfl))) (mvT hZ (ow hw 30 rfl)) (mvT hZ (ow hw 29 rfl)) (by decide) (backOf (W := 0) (eqY l Z a0 hw [] bR7_2 pR18 pI24 (own_pick pI3 pI1) T10.heap n0 Z12 c23 c26 c13 hc96) hZ (ow hw 31 rfl) (ow hw 9 rfl) (by decide) (by decide)) q27a q27c (g := (mkF m 96 #[.val (.int pI1), .val (.int pI2), .val (.int pI3), .val (.int pI4), .val (.int (own_pick pI3 pI1)), .val (.int (own_pick pI4 pI2)), .val (.ref bR7_2), .val (.ref bR10_2), .val (.int (1 : Int32)), .val (.int (1 : Int32)), .unset] [(.ref pR18), (.ref bR7_2)])) rfl (by rw [hml]; rfl) (Steps.refl _) (argsL := [(.ref pR18)]) (rest := []) (lenOf pd_4 rfl) rfl (by show 2 * 0 + _ ≤ _; exact Nat.le_of_eq rfl) (hb hby at_96) (fun _ _ => ⟨rfl, e21, (by decide : 2 + 0 ≤ _), (by decide : 2 + 0 ≤ _)⟩)
  dsimp only [Pt.U, Pt.locs, Pt.cells, Pt.slots] at X27 l27 y27 z27 st27 hQ27
  subst l27 y27 z27
  obtain ⟨rfl, Nq27, e27⟩ := hQ27
  have N27 := Fr.app N17 Nq27
  obtain ⟨fs, hr, hrun, hended, hW, hsame⟩ := X27.leave (v := some (.int (1 : Int32))) (fun h => by rw [Bd.returns] at h; cases h)
  refine ⟨_, _, pre0 _ ?_, hrun, hended, _, _, rfl, ?_, ⟨_, rfl⟩, hW, hsame.mono (by decide) (by decide)⟩
  · show oS p e below s₁ m 0 #[.val (.int pI1), .val (.int pI2), .val (.int pI3), .val (.int pI4), .unset, .unset, .unset, .unset, .unset, .unset, .unset] [] _
    refine XS.iloadN X0.here hx rfl (hb hby at_0) rfl ?_
    show oS p e below s₁ m 1 #[.val (.int pI1), .val (.int pI2), .val (.int pI3), .val (.int pI4), .unset, .unset, .unset, .unset, .unset, .unset, .unset] [(.int pI3)] _
    refine XS.iloadN X0.here hx rfl (hb hby at_1) rfl ?_
    show oS p e below s₁ m 2 #[.val (.int pI1), .val (.int pI2), .val (.int pI3), .val (.int pI4), .unset, .unset, .unset, .unset, .unset, .unset, .unset] [(.int pI1), (.int pI3)] _
    refine st5 _ ?_
    show oS p e below T5 m 5 #[.val (.int pI1), .val (.int pI2), .val (.int pI3), .val (.int pI4), .unset, .unset, .unset, .unset, .unset, .unset, .unset] [(.int (own_pick pI3 pI1))] _
    refine XS.istore X5.here hx rfl (hb hby at_5) rfl (l' := #[.val (.int pI1), .val (.int pI2), .val (.int pI3), .val (.int pI4), .val (.int (own_pick pI3 pI1)), .unset, .unset, .unset, .unset, .unset, .unset]) rfl ?_
    show oS p e below T5 m 7 #[.val (.int pI1), .val (.int pI2), .val (.int pI3), .val (.int pI4), .val (.int (own_pick pI3 pI1)), .unset, .unset, .unset, .unset, .unset, .unset] [] _
    refine XS.iloadN X5.here hx rfl (hb hby at_7) rfl ?_
    show oS p e below T5 m 8 #[.val (.int pI1), .val (.int pI2), .val (.int pI3), .val (.int pI4), .val (.int (own_pick pI3 pI1)), .unset, .unset, .unset, .unset, .unset, .unset] [(.int pI4)] _
    refine XS.iloadN X5.here hx rfl (hb hby at_8) rfl ?_
    show oS p e below T5 m 9 #[.val (.int pI1), .val (.int pI2), .val (.int pI3), .val (.int pI4), .val (.int (own_pick pI3 pI1)), .unset, .unset, .unset, .unset, .unset, .unset] [(.int pI2), (.int pI4)] _
    refine st6 _ ?_
    show oS p e below T6 m 12 #[.val (.int pI1), .val (.int pI2), .val (.int pI3), .val (.int pI4), .val (.int (own_pick pI3 pI1)), .unset, .unset, .unset, .unset, .unset, .unset] [(.int (own_pick pI4 pI2))] _
    refine XS.istore X6.here hx rfl (hb hby at_12) rfl (l' := #[.val (.int pI1), .val (.int pI2), .val (.int pI3), .val (.int pI4), .val (.int (own_pick pI3 pI1)), .val (.int (own_pick pI4 pI2)), .unset, .unset, .unset, .unset, .unset]) rfl ?_
    show oS p e below T6 m 14 #[.val (.int pI1), .val (.int pI2), .val (.int pI3), .val (.int pI4), .val (.int (own_pick pI3 pI1)), .val (.int (own_pick pI4 pI2)), .unset, .unset, .unset, .unset, .unset] [] _
    refine XS.iload X6.here hx rfl (hb hby at_14) rfl ?_
    show oS p e below T6 m 16 #[.val (.int pI1), .val (.int pI2), .val (.int pI3), .val (.int pI4), .val (.int (own_pick pI3 pI1)), .val (.int (own_pick pI4 pI2)), .unset, .unset, .unset, .unset, .unset] [(.int (own_pick pI3 pI1))] _
    refine st7 _ ?_
    show oS p e below T7 m 19 #[.val (.int pI1), .val (.int pI2), .val (.int pI3), .val (.int pI4), .val (.int (own_pick pI3 pI1)), .val (.int (own_pick pI4 pI2)), .unset, .unset, .unset, .unset, .unset] [(.ref bR7_2)] _
    refine XS.astore X7.here hx rfl (hb hby at_19) rfl rfl (l' := #[.val (.int pI1), .val (.int pI2), .val (.int pI3), .val (.int pI4), .val (.int (own_pick pI3 pI1)), .val (.int (own_pick pI4 pI2)), .val (.ref bR7_2), .unset, .unset, .unset, .unset]) rfl ?_
    show oS p e below T7 m 21 #[.val (.int pI1), .val (.int pI2), .val (.int pI3), .val (.int pI4), .val (.int (own_pick pI3 pI1)), .val (.int (own_pick pI4 pI2)), .val (.ref bR7_2), .unset, .unset, .unset, .unset] [] _
    refine XS.iload X7.here hx rfl (hb hby at_21) rfl ?_
    show oS p e below T7 m 23 #[.val (.int pI1), .val (.int pI2), .val (.int pI3), .val (.int pI4), .val (.int (own_pick pI3 pI1)), .val (.int (own_pick pI4 pI2)), .val (.ref bR7_2), .unset, .unset, .unset, .unset] [(.int (own_pick pI4 pI2))] _
    refine st10 _ ?_
    show oS p e below T10 m 26 #[.val (.int pI1), .val (.int pI2), .val (.int pI3), .val (.int pI4), .val (.int (own_pick pI3 pI1)), .val (.int (own_pick pI4 pI2)), .val (.ref bR7_2), .unset, .unset, .unset, .unset] [(.ref bR10_2)] _
    refine XS.astore X10.here hx rfl (hb hby at_26) rfl rfl (l' := #[.val (.int pI1), .val (.int pI2), .val (.int pI3), .val (.int pI4), .val (.int (own_pick pI3 pI1)), .val (.int (own_pick pI4 pI2)), .val (.ref bR7_2), .val (.ref bR10_2), .unset, .unset, .unset]) rfl ?_
    show oS p e below T10 m 28 #[.val (.int pI1), .val (.int pI2), .val (.int pI3), .val (.int pI4), .val (.int (own_pick pI3 pI1)), .val (.int (own_pick pI4 pI2)), .val (.ref bR7_2), .val (.ref bR10_2), .unset, .unset, .unset] [] _
    refine XS.aload X10.here hx rfl (hb hby at_28) rfl rfl ?_
    show oS p e below T10 m 30 #[.val (.int pI1), .val (.int pI2), .val (.int pI3), .val (.int pI4), .val (.int (own_pick pI3 pI1)), .val (.int (own_pick pI4 pI2)), .val (.ref bR7_2), .val (.ref bR10_2), .unset, .unset, .unset] [(.ref bR7_2)] _
    refine st14.trans ?_
    show oS p e below T14 m 33 #[.val (.int pI1), .val (.int pI2), .val (.int pI3), .val (.int pI4), .val (.int (own_pick pI3 pI1)), .val (.int (own_pick pI4 pI2)), .val (.ref bR7_2), .val (.ref bR10_2), .unset, .unset, .unset] [(.int (own_pick pI3 pI1))] _
    refine XS.iload X14.here hx rfl (hb hby at_33) rfl ?_
    show oS p e below T14 m 35 #[.val (.int pI1), .val (.int pI2), .val (.int pI3), .val (.int pI4), .val (.int (own_pick pI3 pI1)), .val (.int (own_pick pI4 pI2)), .val (.ref bR7_2), .val (.ref bR10_2), .unset, .unset, .unset] [(.int (own_pick pI3 pI1)), (.int (own_pick pI3 pI1))] _
    refine XS.icmpNo X14.here hx rfl (hb hby at_35) rfl (teq (rfl : (own_pick pI3 pI1) = (own_pick pI3 pI1))).2 ?_
    show oS p e below T14 m 38 #[.val (.int pI1), .val (.int pI2), .val (.int pI3), .val (.int pI4), .val (.int (own_pick pI3 pI1)), .val (.int (own_pick pI4 pI2)), .val (.ref bR7_2), .val (.ref bR10_2), .unset, .unset, .unset] [] _
    refine XS.aload X14.here hx rfl (hb hby at_38) rfl rfl ?_
    show oS p e below T14 m 40 #[.val (.int pI1), .val (.int pI2), .val (.int pI3), .val (.int pI4), .val (.int (own_pick pI3 pI1)), .val (.int (own_pick pI4 pI2)), .val (.ref bR7_2), .val (.ref bR10_2), .unset, .unset, .unset] [(.ref bR10_2)] _
    refine st16.trans ?_
    show oS p e below T16 m 43 #[.val (.int pI1), .val (.int pI2), .val (.int pI3), .val (.int pI4), .val (.int (own_pick pI3 pI1)), .val (.int (own_pick pI4 pI2)), .val (.ref bR7_2), .val (.ref bR10_2), .unset, .unset, .unset] [(.int (own_pick pI4 pI2))] _
    refine XS.iload X16.here hx rfl (hb hby at_43) rfl ?_
    show oS p e below T16 m 45 #[.val (.int pI1), .val (.int pI2), .val (.int pI3), .val (.int pI4), .val (.int (own_pick pI3 pI1)), .val (.int (own_pick pI4 pI2)), .val (.ref bR7_2), .val (.ref bR10_2), .unset, .unset, .unset] [(.int (own_pick pI4 pI2)), (.int (own_pick pI4 pI2))] _
    refine XS.icmpNo X16.here hx rfl (hb hby at_45) rfl (teq (rfl : (own_pick pI4 pI2) = (own_pick pI4 pI2))).2 ?_
    show oS p e below T16 m 48 #[.val (.int pI1), .val (.int pI2), .val (.int pI3), .val (.int pI4), .val (.int (own_pick pI3 pI1)), .val (.int (own_pick pI4 pI2)), .val (.ref bR7_2), .val (.ref bR10_2), .unset, .unset, .unset] [] _
    refine XS.iconst X16.here hx rfl (hb hby at_48) ?_
    show oS p e below T16 m 49 #[.val (.int pI1), .val (.int pI2), .val (.int pI3), .val (.int pI4), .val (.int (own_pick pI3 pI1)), .val (.int (own_pick pI4 pI2)), .val (.ref bR7_2), .val (.ref bR10_2), .unset, .unset, .unset] [(.int (1 : Int32))] _
    refine XS.goto X16.here hx rfl (pc0 := 49) (pc' := 53) rfl (hb hby at_49) (by decide) (by decide) ?_
    show oS p e below T16 m 53 #[.val (.int pI1), .val (.int pI2), .val (.int pI3), .val (.int pI4), .val (.int (own_pick pI3 pI1)), .val (.int (own_pick pI4 pI2)), .val (.ref bR7_2), .val (.ref bR10_2), .unset, .unset, .unset] [(.int (1 : Int32))] _
    refine XS.istore X16.here hx rfl (hb hby at_53) rfl (l' := #[.val (.int pI1), .val (.int pI2), .val (.int pI3), .val (.int pI4), .val (.int (own_pick pI3 pI1)), .val (.int (own_pick pI4 pI2)), .val (.ref bR7_2), .val (.ref bR10_2), .val (.int (1 : Int32)), .unset, .unset]) rfl ?_
    show oS p e below T16 m 55 #[.val (.int pI1), .val (.int pI2), .val (.int pI3), .val (.int pI4), .val (.int (own_pick pI3 pI1)), .val (.int (own_pick pI4 pI2)), .val (.ref bR7_2), .val (.ref bR10_2), .val (.int (1 : Int32)), .unset, .unset] [] _
    refine XS.aload X16.here hx rfl (hb hby at_55) rfl rfl ?_
    show oS p e below T16 m 57 #[.val (.int pI1), .val (.int pI2), .val (.int pI3), .val (.int pI4), .val (.int (own_pick pI3 pI1)), .val (.int (own_pick pI4 pI2)), .val (.ref bR7_2), .val (.ref bR10_2), .val (.int (1 : Int32)), .unset, .unset] [(.ref bR7_2)] _
    refine XS.aload X16.here hx rfl (hb hby at_57) rfl rfl ?_
    show oS p e below T16 m 59 #[.val (.int pI1), .val (.int pI2), .val (.int pI3), .val (.int pI4), .val (.int (own_pick pI3 pI1)), .val (.int (own_pick pI4 pI2)), .val (.ref bR7_2), .val (.ref bR10_2), .val (.int (1 : Int32)), .unset, .unset] [(.ref bR10_2), (.ref bR7_2)] _
    refine st17.trans ?_
    show oS p e below T17 m 62 #[.val (.int pI1), .val (.int pI2), .val (.int pI3), .val (.int pI4), .val (.int (own_pick pI3 pI1)), .val (.int (own_pick pI4 pI2)), .val (.ref bR7_2), .val (.ref bR10_2), .val (.int (1 : Int32)), .unset, .unset] [(.int (1 : Int32))] _
    refine XS.iload X17.here hx rfl (hb hby at_62) rfl ?_
    show oS p e below T17 m 64 #[.val (.int pI1), .val (.int pI2), .val (.int pI3), .val (.int pI4), .val (.int (own_pick pI3 pI1)), .val (.int (own_pick pI4 pI2)), .val (.ref bR7_2), .val (.ref bR10_2), .val (.int (1 : Int32)), .unset, .unset] [(.int (own_pick pI3 pI1)), (.int (1 : Int32))] _
    refine XS.iload X17.here hx rfl (hb hby at_64) rfl ?_
    show oS p e below T17 m 66 #[.val (.int pI1), .val (.int pI2), .val (.int pI3), .val (.int pI4), .val (.int (own_pick pI3 pI1)), .val (.int (own_pick pI4 pI2)), .val (.ref bR7_2), .val (.ref bR10_2), .val (.int (1 : Int32)), .unset, .unset] [(.int (own_pick pI4 pI2)), (.int (own_pick pI3 pI1)), (.int (1 : Int32))] _
    refine XS.icmpNo X17.here hx rfl (hb hby at_66) rfl (teq hst).2 ?_
    show oS p e below T17 m 69 #[.val (.int pI1), .val (.int pI2), .val (.int pI3), .val (.int pI4), .val (.int (own_pick pI3 pI1)), .val (.int (own_pick pI4 pI2)), .val (.ref bR7_2), .val (.ref bR10_2), .val (.int (1 : Int32)), .unset, .unset] [(.int (1 : Int32))] _
    refine XS.iconst X17.here hx rfl (hb hby at_69) ?_
    show oS p e below T17 m 70 #[.val (.int pI1), .val (.int pI2), .val (.int pI3), .val (.int pI4), .val (.int (own_pick pI3 pI1)), .val (.int (own_pick pI4 pI2)), .val (.ref bR7_2), .val (.ref bR10_2), .val (.int (1 : Int32)), .unset, .unset] [(.int (1 : Int32)), (.int (1 : Int32))] _
    refine XS.goto X17.here hx rfl (pc0 := 70) (pc' := 74) rfl (hb hby at_70) (by decide) (by decide) ?_
    show oS p e below T17 m 74 #[.val (.int pI1), .val (.int pI2), .val (.int pI3), .val (.int pI4), .val (.int (own_pick pI3 pI1)), .val (.int (own_pick pI4 pI2)), .val (.ref bR7_2), .val (.ref bR10_2), .val (.int (1 : Int32)), .unset, .unset] [(.int (1 : Int32)), (.int (1 : Int32))] _
    refine XS.icmpNo X17.here hx rfl (hb hby at_74) rfl (teq (by decide : (1 : Int32) = (1 : Int32))).2 ?_
    show oS p e below T17 m 77 #[.val (.int pI1), .val (.int pI2), .val (.int pI3), .val (.int pI4), .val (.int (own_pick pI3 pI1)), .val (.int (own_pick pI4 pI2)), .val (.ref bR7_2), .val (.ref bR10_2), .val (.int (1 : Int32)), .unset, .unset] [] _
    refine XS.iconst X17.here hx rfl (hb hby at_77) ?_
    show oS p e below T17 m 78 #[.val (.int pI1), .val (.int pI2), .val (.int pI3), .val (.int pI4), .val (.int (own_pick pI3 pI1)), .val (.int (own_pick pI4 pI2)), .val (.ref bR7_2), .val (.ref bR10_2), .val (.int (1 : Int32)), .unset, .unset] [(.int (1 : Int32))] _
    refine XS.goto X17.here hx rfl (pc0 := 78) (pc' := 82) rfl (hb hby at_78) (by decide) (by decide) ?_
    show oS p e below T17 m 82 #[.val (.int pI1), .val (.int pI2), .val (.int pI3), .val (.int pI4), .val (.int (own_pick pI3 pI1)), .val (.int (own_pick pI4 pI2)), .val (.ref bR7_2), .val (.ref bR10_2), .val (.int (1 : Int32)), .unset, .unset] [(.int (1 : Int32))] _
    refine XS.istore X17.here hx rfl (hb hby at_82) rfl (l' := #[.val (.int pI1), .val (.int pI2), .val (.int pI3), .val (.int pI4), .val (.int (own_pick pI3 pI1)), .val (.int (own_pick pI4 pI2)), .val (.ref bR7_2), .val (.ref bR10_2), .val (.int (1 : Int32)), .val (.int (1 : Int32)), .unset]) rfl ?_
    show oS p e below T17 m 84 #[.val (.int pI1), .val (.int pI2), .val (.int pI3), .val (.int pI4), .val (.int (own_pick pI3 pI1)), .val (.int (own_pick pI4 pI2)), .val (.ref bR7_2), .val (.ref bR10_2), .val (.int (1 : Int32)), .val (.int (1 : Int32)), .unset] [] _
    refine XS.iload X17.here hx rfl (hb hby at_84) rfl ?_
    show oS p e below T17 m 86 #[.val (.int pI1), .val (.int pI2), .val (.int pI3), .val (.int pI4), .val (.int (own_pick pI3 pI1)), .val (.int (own_pick pI4 pI2)), .val (.ref bR7_2), .val (.ref bR10_2), .val (.int (1 : Int32)), .val (.int (1 : Int32)), .unset] [(.int (own_pick pI3 pI1))] _
    refine X17.ldcInt hx hown (mvT hZ (ow hw 6 rfl)) (g := (mkF m 86 #[.val (.int pI1), .val (.int pI2), .val (.int pI3), .val (.int pI4), .val (.int (own_pick pI3 pI1)), .val (.int (own_pick pI4 pI2)), .val (.ref bR7_2), .val (.ref bR10_2), .val (.int (1 : Int32)), .val (.int (1 : Int32)), .unset] [(.int (own_pick pI3 pI1))])) rfl (hb hby at_86) _ ?_
    show oS p e below T17 m 88 #[.val (.int pI1), .val (.int pI2), .val (.int pI3), .val (.int pI4), .val (.int (own_pick pI3 pI1)), .val (.int (own_pick pI4 pI2)), .val (.ref bR7_2), .val (.ref bR10_2), .val (.int (1 : Int32)), .val (.int (1 : Int32)), .unset] [(.int (86400 : Int32)), (.int (own_pick pI3 pI1))] _
    refine XS.icmpNo X17.here hx rfl (hb hby at_88) rfl (teq hse).2 ?_
    show oS p e below T17 m 91 #[.val (.int pI1), .val (.int pI2), .val (.int pI3), .val (.int pI4), .val (.int (own_pick pI3 pI1)), .val (.int (own_pick pI4 pI2)), .val (.ref bR7_2), .val (.ref bR10_2), .val (.int (1 : Int32)), .val (.int (1 : Int32)), .unset] [] _
    refine XS.aload X17.here hx rfl (hb hby at_91) rfl rfl ?_
    show oS p e below T17 m 93 #[.val (.int pI1), .val (.int pI2), .val (.int pI3), .val (.int pI4), .val (.int (own_pick pI3 pI1)), .val (.int (own_pick pI4 pI2)), .val (.ref bR7_2), .val (.ref bR10_2), .val (.int (1 : Int32)), .val (.int (1 : Int32)), .unset] [(.ref bR7_2)] _
    refine st21 _ ?_
    show oS p e below T21 m 96 #[.val (.int pI1), .val (.int pI2), .val (.int pI3), .val (.int pI4), .val (.int (own_pick pI3 pI1)), .val (.int (own_pick pI4 pI2)), .val (.ref bR7_2), .val (.ref bR10_2), .val (.int (1 : Int32)), .val (.int (1 : Int32)), .unset] [(.ref pR18), (.ref bR7_2)] _
    refine st27.trans ?_
    show oS p e below T27 m 99 #[.val (.int pI1), .val (.int pI2), .val (.int pI3), .val (.int pI4), .val (.int (own_pick pI3 pI1)), .val (.int (own_pick pI4 pI2)), .val (.ref bR7_2), .val (.ref bR10_2), .val (.int (1 : Int32)), .val (.int (1 : Int32)), .unset] [(.int (1 : Int32))] _
    refine XS.ifNo X27.here hx rfl (hb hby at_99) rfl ((if0 _ _).trans (feq (by decide : ¬ ((1 : Int32) = (0 : Int32)))).1) ?_
    show oS p e below T27 m 102 #[.val (.int pI1), .val (.int pI2), .val (.int pI3), .val (.int pI4), .val (.int (own_pick pI3 pI1)), .val (.int (own_pick pI4 pI2)), .val (.ref bR7_2), .val (.ref bR10_2), .val (.int (1 : Int32)), .val (.int (1 : Int32)), .unset] [] _
    refine XS.iconst X27.here hx rfl (hb hby at_102) ?_
    show oS p e below T27 m 103 #[.val (.int pI1), .val (.int pI2), .val (.int pI3), .val (.int pI4), .val (.int (own_pick pI3 pI1)), .val (.int (own_pick pI4 pI2)), .val (.ref bR7_2), .val (.ref bR10_2), .val (.int (1 : Int32)), .val (.int (1 : Int32)), .unset] [(.int (1 : Int32))] _
    refine XS.goto X27.here hx rfl (pc0 := 103) (pc' := 107) rfl (hb hby at_103) (by decide) (by decide) ?_
    show oS p e below T27 m 107 #[.val (.int pI1), .val (.int pI2), .val (.int pI3), .val (.int pI4), .val (.int (own_pick pI3 pI1)), .val (.int (own_pick pI4 pI2)), .val (.ref bR7_2), .val (.ref bR10_2), .val (.int (1 : Int32)), .val (.int (1 : Int32)), .unset] [(.int (1 : Int32))] _
    refine XS.istore X27.here hx rfl (hb hby at_107) rfl (l' := #[.val (.int pI1), .val (.int pI2), .val (.int pI3), .val (.int pI4), .val (.int (own_pick pI3 pI1)), .val (.int (own_pick pI4 pI2)), .val (.ref bR7_2), .val (.ref bR10_2), .val (.int (1 : Int32)), .val (.int (1 : Int32)), .val (.int (1 : Int32))]) rfl ?_
    show oS p e below T27 m 109 #[.val (.int pI1), .val (.int pI2), .val (.int pI3), .val (.int pI4), .val (.int (own_pick pI3 pI1)), .val (.int (own_pick pI4 pI2)), .val (.ref bR7_2), .val (.ref bR10_2), .val (.int (1 : Int32)), .val (.int (1 : Int32)), .val (.int (1 : Int32))] [] _
    refine XS.iload X27.here hx rfl (hb hby at_109) rfl ?_
    show oS p e below T27 m 111 #[.val (.int pI1), .val (.int pI2), .val (.int pI3), .val (.int pI4), .val (.int (own_pick pI3 pI1)), .val (.int (own_pick pI4 pI2)), .val (.ref bR7_2), .val (.ref bR10_2), .val (.int (1 : Int32)), .val (.int (1 : Int32)), .val (.int (1 : Int32))] [(.int (1 : Int32))] _
    refine XS.ifNo X27.here hx rfl (hb hby at_111) rfl ((if0 _ _).trans (feq (by decide : ¬ ((1 : Int32) = (0 : Int32)))).1) ?_
    show oS p e below T27 m 114 #[.val (.int pI1), .val (.int pI2), .val (.int pI3), .val (.int pI4), .val (.int (own_pick pI3 pI1)), .val (.int (own_pick pI4 pI2)), .val (.ref bR7_2), .val (.ref bR10_2), .val (.int (1 : Int32)), .val (.int (1 : Int32)), .val (.int (1 : Int32))] [] _
    refine XS.iload X27.here hx rfl (hb hby at_114) rfl ?_
    show oS p e below T27 m 116 #[.val (.int pI1), .val (.int pI2), .val (.int pI3), .val (.int pI4), .val (.int (own_pick pI3 pI1)), .val (.int (own_pick pI4 pI2)), .val (.ref bR7_2), .val (.ref bR10_2), .val (.int (1 : Int32)), .val (.int (1 : Int32)), .val (.int (1 : Int32))] [(.int (1 : Int32))] _
    refine XS.ifNo X27.here hx rfl (hb hby at_116) rfl ((if0 _ _).trans (feq (by decide : ¬ ((1 : Int32) = (0 : Int32)))).1) ?_
    show oS p e below T27 m 119 #[.val (.int pI1), .val (.int pI2), .val (.int pI3), .val (.int pI4), .val (.int (own_pick pI3 pI1)), .val (.int (own_pick pI4 pI2)), .val (.ref bR7_2), .val (.ref bR10_2), .val (.int (1 : Int32)), .val (.int (1 : Int32)), .val (.int (1 : Int32))] [] _
    refine XS.iload X27.here hx rfl (hb hby at_119) rfl ?_
    show oS p e below T27 m 121 #[.val (.int pI1), .val (.int pI2), .val (.int pI3), .val (.int pI4), .val (.int (own_pick pI3 pI1)), .val (.int (own_pick pI4 pI2)), .val (.ref bR7_2), .val (.ref bR10_2), .val (.int (1 : Int32)), .val (.int (1 : Int32)), .val (.int (1 : Int32))] [(.int (1 : Int32))] _
    refine XS.ifNo X27.here hx rfl (hb hby at_121) rfl ((if0 _ _).trans (feq (by decide : ¬ ((1 : Int32) = (0 : Int32)))).1) ?_
    show oS p e below T27 m 124 #[.val (.int pI1), .val (.int pI2), .val (.int pI3), .val (.int pI4), .val (.int (own_pick pI3 pI1)), .val (.int (own_pick pI4 pI2)), .val (.ref bR7_2), .val (.ref bR10_2), .val (.int (1 : Int32)), .val (.int (1 : Int32)), .val (.int (1 : Int32))] [] _
    refine XS.iconst X27.here hx rfl (hb hby at_124) ?_
    show oS p e below T27 m 125 #[.val (.int pI1), .val (.int pI2), .val (.int pI3), .val (.int pI4), .val (.int (own_pick pI3 pI1)), .val (.int (own_pick pI4 pI2)), .val (.ref bR7_2), .val (.ref bR10_2), .val (.int (1 : Int32)), .val (.int (1 : Int32)), .val (.int (1 : Int32))] [(.int (1 : Int32))] _
    refine XS.goto X27.here hx rfl (pc0 := 125) (pc' := 129) rfl (hb hby at_125) (by decide) (by decide) ?_
    show oS p e below T27 m 129 #[.val (.int pI1), .val (.int pI2), .val (.int pI3), .val (.int pI4), .val (.int (own_pick pI3 pI1)), .val (.int (own_pick pI4 pI2)), .val (.ref bR7_2), .val (.ref bR10_2), .val (.int (1 : Int32)), .val (.int (1 : Int32)), .val (.int (1 : Int32))] [(.int (1 : Int32))] _
    exact retN X27 hx (t := .boolean) Bd.returns (by simp) (hb hby at_129) hr
  · show Qlaw11 Z pI1 pI2 pI3 pI4 pR18 pI24 h0 n0 _ T27.heap _
    rw [e27]
    exact ⟨rfl, N27⟩
theorem ef_law10 (m : MethodId) (pI1 : Int32) (pI2 : Int32) (pI3 : Int32) (pI4 : Int32) : entryFrame m #[(.int pI1), (.int pI2), (.int pI3), (.int pI4)] maxLocals = mkF m 0 #[.val (.int pI1), .val (.int pI2), .val (.int pI3), .val (.int pI4), .unset, .unset, .unset, .unset, .unset, .unset, .unset] [] := by first | (simp [entryFrame, mkF, argsToLocals, Value.category, maxLocals]; done) | rfl
def Qlaw10 (Z : State) (pI1 : Int32) (pI2 : Int32) (pI3 : Int32) (pI4 : Int32) (h0 : Heap) (n0 : Nat) (v : Option Value) (h : Heap) (L : List Loc) : Prop := v = some (.int (1 : Int32)) ∧ Fr n0 L
set_option maxRecDepth 65536 in
set_option maxHeartbeats 40000000 in
theorem law10 (l : Launch) (Z : State) (a0 : Array Value) (hw : ∀ d ∈ tables_1, d.before a0 Z = true) (ws : List Jvm.Cond) (pI1 : Int32) (pI2 : Int32) (pI3 : Int32) (pI4 : Int32) (h0 : Heap) (n0 : Nat) (Z0 : n0 ≤ h0.size) (hst : (own_pick pI3 pI1) = (own_pick pI4 pI2)) (hse : ¬ ((own_pick pI3 pI1) = (86400 : Int32))) (hc16 : ¬ ((own_pick pI3 pI1) < (0 : Int32))) (hc16' : ¬ ((86400 : Int32) < (own_pick pI3 pI1))) (hc23 : ¬ ((own_pick pI4 pI2) < (0 : Int32))) (hc23' : ¬ ((86400 : Int32) < (own_pick pI4 pI2))) :
    MetFree l x (head1 (Jvm.Cond.code x code maxLocals ret :: ws) room_1) (fun a U => a = #[(.int pI1), (.int pI2), (.int pI3), (.int pI4)] ∧ Z.Warmed39 U.vm ∧ U.heap = h0) (fun _ _ _ _ _ => True) (fun _ U o U' => ∃ v L, o = .returned v ∧ Qlaw10 Z pI1 pI2 pI3 pI4 h0 n0 v U'.heap L ∧ FrameEnd U o U' L room_1.cells room_1.slots) := by
  refine MetFree.of_bodySF (plainFor_of_name pn_0) hisR ?_
  intro p e s m args below meth c s₁ Bd hml0 hP hK
  obtain ⟨rfl, hZ, hh⟩ := hP
  have hx := Bd.exec
  have hby := Bd.bytes
  have hml : c.maxLocals = 11 := hml0
  have hown : s.vm.findClass "com/example/watchful_junction/watchfuljunction/ClockTimeOfSecondOfDayPinLaw" = some m.cls := findClass_of_methodNamed Bd.named
  have hnm := (name_of_methodNamed Bd.named Bd.method).1
  have X0 : Stand p l e room_1 s m #[(.int pI1), (.int pI2), (.int pI3), (.int pI4)] below meth c s₁ [] 0 0 := Stand.of_body Bd
  have e0 : s₁.heap = h0 := by rw [← hh, Bd.state]; rfl
  have N0 := Fr.nil n0
  have pre0 : ∀ t, Steps p.tables e below (s₁.setTop (mkF m 0 #[.val (.int pI1), .val (.int pI2), .val (.int pI3), .val (.int pI4), .unset, .unset, .unset, .unset, .unset, .unset, .unset] [])) t → Steps p.tables e below (s₁.setTop (entryFrame m #[(.int pI1), (.int pI2), (.int pI3), (.int pI4)] maxLocals)) t := fun t k => castTop (ef_law10 m pI1 pI2 pI3 pI4) k
  obtain ⟨_, _, ⟨T5, L5, k5, n5⟩, -, X5, ⟨Lc5, hQ5, l5, y5, z5⟩, st5⟩ := Jvm.LawKit.callS X0 hx (y := yN0) hown (mvT hZ (ow hw 0 rfl)) (mvT hZ (ow hw 1 rfl)) (mvT hZ (ow hw 2 rfl)) (mvT hZ (ow hw 3 rfl)) (by decide) (backOf (W := 0) (pick l Z a0 hw [] pI3 pI1 h0 n0 Z0 ) hZ (ow hw 3 rfl) (ow hw 2 rfl) (by decide) (by decide)) (g := (mkF m 2 #[.val (.int pI1), .val (.int pI2), .val (.int pI3), .val (.int pI4), .unset, .unset, .unset, .unset, .unset, .unset, .unset] [(.int pI1), (.int pI3)])) rfl (by rw [hml]; rfl) (argsL := [(.int pI3), (.int pI1)]) (rest := []) (lenOf pd_1 rfl) rfl (by show 2 * 0 + _ ≤ _; exact Nat.le_of_eq rfl) (hb hby at_2) (fun _ _ => ⟨rfl, e0, (by decide : 0 + 0 ≤ _), (by decide : 0 + 0 ≤ _)⟩)
  dsimp only [Pt.U, Pt.locs, Pt.cells, Pt.slots] at X5 l5 y5 z5 st5 hQ5
  subst l5 y5 z5
  obtain ⟨rfl, Nq5, e5⟩ := hQ5
  have N5 := Fr.app N0 Nq5
  obtain ⟨_, _, ⟨T6, L6, k6, n6⟩, -, X6, ⟨Lc6, hQ6, l6, y6, z6⟩, st6⟩ := Jvm.LawKit.callS X5 hx (y := yN0) hown (mvT hZ (ow hw 0 rfl)) (mvT hZ (ow hw 1 rfl)) (mvT hZ (ow hw 2 rfl)) (mvT hZ (ow hw 3 rfl)) (by decide) (backOf (W := 0) (pick l Z a0 hw [] pI4 pI2 h0 n0 Z0 ) hZ (ow hw 3 rfl) (ow hw 2 rfl) (by decide) (by decide)) (g := (mkF m 9 #[.val (.int pI1), .val (.int pI2), .val (.int pI3), .val (.int pI4), .val (.int (own_pick pI3 pI1)), .unset, .unset, .unset, .unset, .unset, .unset] [(.int pI2), (.int pI4)])) rfl (by rw [hml]; rfl) (argsL := [(.int pI4), (.int pI2)]) (rest := []) (lenOf pd_1 rfl) rfl (by show 2 * 0 + _ ≤ _; exact Nat.le_of_eq rfl) (hb hby at_9) (fun _ _ => ⟨rfl, e5, (by decide : 0 + 0 ≤ _), (by decide : 0 + 0 ≤ _)⟩)
  dsimp only [Pt.U, Pt.locs, Pt.cells, Pt.slots] at X6 l6 y6 z6 st6 hQ6
  subst l6 y6 z6
  obtain ⟨rfl, Nq6, e6⟩ := hQ6
  have N6 := Fr.app N5 Nq6
  obtain ⟨_, _, ⟨T7, L7, k7, n7⟩, -, X7, ⟨Lc7, hQ7, l7, y7, z7⟩, st7⟩ := Jvm.LawKit.callS X6 hx (y := yN2) hown (mvT hZ (ow hw 7 rfl)) (mvT hZ (ow hw 8 rfl)) (mvT hZ (ow hw 9 rfl)) (mvT hZ (ow hw 10 rfl)) (by decide) (backOf (W := 0) (ofs l Z a0 hw [] (own_pick pI3 pI1) h0 n0 Z0 hc16 hc16') hZ (ow hw 10 rfl) (ow hw 9 rfl) (by decide) (by decide)) (g := (mkF m 16 #[.val (.int pI1), .val (.int pI2), .val (.int pI3), .val (.int pI4), .val (.int (own_pick pI3 pI1)), .val (.int (own_pick pI4 pI2)), .unset, .unset, .unset, .unset, .unset] [(.int (own_pick pI3 pI1))])) rfl (by rw [hml]; rfl) (argsL := [(.int (own_pick pI3 pI1))]) (rest := []) (lenOf pd_2 rfl) rfl (by show 2 * 0 + _ ≤ _; exact Nat.le_of_eq rfl) (hb hby at_16) (fun _ _ => ⟨rfl, e6, (by decide : 0 + 1 ≤ _), (by decide : 0 + 1 ≤ _)⟩)
  dsimp only [Pt.U, Pt.locs, Pt.cells, Pt.slots] at X7 l7 y7 z7 st7 hQ7
  subst l7 y7 z7
  obtain ⟨bR7_2, rfl, Nq7, Kq7, sz7_2, x7_0, x7_1⟩ := hQ7
  have N7 := Fr.app N6 Nq7
  have Z9 : n0 ≤ T7.heap.size := (Nat.le_trans Z0 Kq7.1)
  obtain ⟨_, _, ⟨T10, L10, k10, n10⟩, -, X10, ⟨Lc10, hQ10, l10, y10, z10⟩, st10⟩ := Jvm.LawKit.callS X7 hx (y := yN2) hown (mvT hZ (ow hw 7 rfl)) (mvT hZ (ow hw 8 rfl)) (mvT hZ (ow hw 9 rfl)) (mvT hZ (ow hw 10 rfl)) (by decide) (backOf (W := 0) (ofs l Z a0 hw [] (own_pick pI4 pI2) T7.heap n0 Z9 hc23 hc23') hZ (ow hw 10 rfl) (ow hw 9 rfl) (by decide) (by decide)) (g := (mkF m 23 #[.val (.int pI1), .val (.int pI2), .val (.int pI3), .val (.int pI4), .val (.int (own_pick pI3 pI1)), .val (.int (own_pick pI4 pI2)), .val (.ref bR7_2), .unset, .unset, .unset, .unset] [(.int (own_pick pI4 pI2))])) rfl (by rw [hml]; rfl) (argsL := [(.int (own_pick pI4 pI2))]) (rest := []) (lenOf pd_2 rfl) rfl (by show 2 * 0 + _ ≤ _; exact Nat.le_of_eq rfl) (hb hby at_23) (fun _ _ => ⟨rfl, rfl, (by decide : 1 + 1 ≤ _), (by decide : 1 + 1 ≤ _)⟩)
  dsimp only [Pt.U, Pt.locs, Pt.cells, Pt.slots] at X10 l10 y10 z10 st10 hQ10
  subst l10 y10 z10
  obtain ⟨bR10_2, rfl, Nq10, Kq10, sz10_2, x10_0, x10_1⟩ := hQ10
  have N10 := Fr.app N7 Nq10
  have Z12 : n0 ≤ T10.heap.size := (Nat.le_trans Z9 Kq10.1)
  have c13 : Fld Z T10.heap bR7_2 "com/example/watchful_junction/watchfuljunction/ClockTime" "secondOfDay" "I" (.int (own_pick pI3 pI1)) := x7_1.keep Kq10 nin0
  have c15 : Exa Z T10.heap bR7_2 "com/example/watchful_junction/watchfuljunction/ClockTime" := x7_0.keep Kq10
  obtain ⟨cq14, kq14, q14a, q14b, q14c⟩ := isOf hZ rfl c15
  obtain ⟨_, _, ⟨T14, L14, k14, n14⟩, -, X14, ⟨Lc14, hQ14, l14, y14, z14⟩, st14⟩ := X10.virtualBack hx (y := yN3) (z := yN3) hown (mvT hZ (ow hw 22 rfl)) (mvT hZ (ow hw 23 rfl)) (notFace_of_selects (args := #[]) (mvT hZ (ow hw 25 rfl))) (mvT hZ (ow hw 25 rfl)) (mvT hZ (ow hw 24 rfl)) (by decide) (backOf (W := 0) (sod l Z a0 hw [] bR7_2 (own_pick pI3 pI1) T10.heap n0 Z12 c13) hZ (ow hw 26 rfl) (ow hw 9 rfl) (by decide) (by decide)) q14a q14c (g := (mkF m 30 #[.val (.int pI1), .val (.int pI2), .val (.int pI3), .val (.int pI4), .val (.int (own_pick pI3 pI1)), .val (.int (own_pick pI4 pI2)), .val (.ref bR7_2), .val (.ref bR10_2), .unset, .unset, .unset] [(.ref bR7_2)])) rfl (by rw [hml]; rfl) (Steps.refl _) (argsL := []) (rest := []) (lenOf pd_3 rfl) rfl (by show 2 * 0 + _ ≤ _; exact Nat.le_of_eq rfl) (hb hby at_30) (fun _ _ => ⟨rfl, rfl, (by decide : 2 + 0 ≤ _), (by decide : 2 + 0 ≤ _)⟩)
  dsimp only [Pt.U, Pt.locs, Pt.cells, Pt.slots] at X14 l14 y14 z14 st14 hQ14
  subst l14 y14 z14
  obtain ⟨rfl, Nq14, e14⟩ := hQ14
  have N14 := Fr.app N10 Nq14
  obtain ⟨cq16, kq16, q16a, q16b, q16c⟩ := isOf hZ e14 x10_0
  obtain ⟨_, _, ⟨T16, L16, k16, n16⟩, -, X16, ⟨Lc16, hQ16, l16, y16, z16⟩, st16⟩ := X14.virtualBack hx (y := yN3) (z := yN3) hown (mvT hZ (ow hw 22 rfl)) (mvT hZ (ow hw 23 rfl)) (notFace_of_selects (args := #[]) (mvT hZ (ow hw 25 rfl))) (mvT hZ (ow hw 25 rfl)) (mvT hZ (ow hw 24 rfl)) (by decide) (backOf (W := 0) (sod l Z a0 hw [] bR10_2 (own_pick pI4 pI2) T10.heap n0 Z12 x10_1) hZ (ow hw 26 rfl) (ow hw 9 rfl) (by decide) (by decide)) q16a q16c (g := (mkF m 40 #[.val (.int pI1), .val (.int pI2), .val (.int pI3), .val (.int pI4), .val (.int (own_pick pI3 pI1)), .val (.int (own_pick pI4 pI2)), .val (.ref bR7_2), .val (.ref bR10_2), .unset, .unset, .unset] [(.ref bR10_2)])) rfl (by rw [hml]; rfl) (Steps.refl _) (argsL := []) (rest := []) (lenOf pd_3 rfl) rfl (by show 2 * 0 + _ ≤ _; exact Nat.le_of_eq rfl) (hb hby at_40) (fun _ _ => ⟨rfl, e14, (by decide : 2 + 0 ≤ _), (by decide : 2 + 0 ≤ _)⟩)
  dsimp only [Pt.U, Pt.locs, Pt.cells, Pt.slots] at X16 l16 y16 z16 st16 hQ16
  subst l16 y16 z16
  obtain ⟨rfl, Nq16, e16⟩ := hQ16
  have N16 := Fr.app N14 Nq16
  obtain ⟨cq17, kq17, q17a, q17b, q17c⟩ := isOf hZ e16 c15
  obtain ⟨_, _, ⟨T17, L17, k17, n17⟩, -, X17, ⟨Lc17, hQ17, l17, y17, z17⟩, st17⟩ := X16.virtualBack hx (y := yN4) (z := yN4) hown (mvT hZ (ow hw 27 rfl)) (mvT hZ (ow hw 28 rfl)) (notFace_of_selects (args := #[]) (mvT hZ (ow hw 30 rfl))) (mvT hZ (ow hw 30 rfl)) (mvT hZ (ow hw 29 rfl)) (by decide) (backOf (W := 0) (eqY l Z a0 hw [] bR7_2 bR10_2 (own_pick pI4 pI2) (own_pick pI3 pI1) T10.heap n0 Z12 x10_0 x10_1 c13 (Eq.symm hst)) hZ (ow hw 31 rfl) (ow hw 9 rfl) (by decide) (by decide)) q17a q17c (g := (mkF m 59 #[.val (.int pI1), .val (.int pI2), .val (.int pI3), .val (.int pI4), .val (.int (own_pick pI3 pI1)), .val (.int (own_pick pI4 pI2)), .val (.ref bR7_2), .val (.ref bR10_2), .val (.int (1 : Int32)), .unset, .unset] [(.ref bR10_2), (.ref bR7_2)])) rfl (by rw [hml]; rfl) (Steps.refl _) (argsL := [(.ref bR10_2)]) (rest := []) (lenOf pd_4 rfl) rfl (by show 2 * 0 + _ ≤ _; exact Nat.le_of_eq rfl) (hb hby at_59) (fun _ _ => ⟨rfl, e16, (by decide : 2 + 0 ≤ _), (by decide : 2 + 0 ≤ _)⟩)
  dsimp only [Pt.U, Pt.locs, Pt.cells, Pt.slots] at X17 l17 y17 z17 st17 hQ17
  subst l17 y17 z17
  obtain ⟨rfl, Nq17, e17⟩ := hQ17
  have N17 := Fr.app N16 Nq17
  obtain ⟨fs, hr, hrun, hended, hW, hsame⟩ := X17.leave (v := some (.int (1 : Int32))) (fun h => by rw [Bd.returns] at h; cases h)
  refine ⟨_, _, pre0 _ ?_, hrun, hended, _, _, rfl, ?_, ⟨_, rfl⟩, hW, hsame.mono (by decide) (by decide)⟩
  · show oS p e below s₁ m 0 #[.val (.int pI1), .val (.int pI2), .val (.int pI3), .val (.int pI4), .unset, .unset, .unset, .unset, .unset, .unset, .unset] [] _
    refine XS.iloadN X0.here hx rfl (hb hby at_0) rfl ?_
    show oS p e below s₁ m 1 #[.val (.int pI1), .val (.int pI2), .val (.int pI3), .val (.int pI4), .unset, .unset, .unset, .unset, .unset, .unset, .unset] [(.int pI3)] _
    refine XS.iloadN X0.here hx rfl (hb hby at_1) rfl ?_
    show oS p e below s₁ m 2 #[.val (.int pI1), .val (.int pI2), .val (.int pI3), .val (.int pI4), .unset, .unset, .unset, .unset, .unset, .unset, .unset] [(.int pI1), (.int pI3)] _
    refine st5 _ ?_
    show oS p e below T5 m 5 #[.val (.int pI1), .val (.int pI2), .val (.int pI3), .val (.int pI4), .unset, .unset, .unset, .unset, .unset, .unset, .unset] [(.int (own_pick pI3 pI1))] _
    refine XS.istore X5.here hx rfl (hb hby at_5) rfl (l' := #[.val (.int pI1), .val (.int pI2), .val (.int pI3), .val (.int pI4), .val (.int (own_pick pI3 pI1)), .unset, .unset, .unset, .unset, .unset, .unset]) rfl ?_
    show oS p e below T5 m 7 #[.val (.int pI1), .val (.int pI2), .val (.int pI3), .val (.int pI4), .val (.int (own_pick pI3 pI1)), .unset, .unset, .unset, .unset, .unset, .unset] [] _
    refine XS.iloadN X5.here hx rfl (hb hby at_7) rfl ?_
    show oS p e below T5 m 8 #[.val (.int pI1), .val (.int pI2), .val (.int pI3), .val (.int pI4), .val (.int (own_pick pI3 pI1)), .unset, .unset, .unset, .unset, .unset, .unset] [(.int pI4)] _
    refine XS.iloadN X5.here hx rfl (hb hby at_8) rfl ?_
    show oS p e below T5 m 9 #[.val (.int pI1), .val (.int pI2), .val (.int pI3), .val (.int pI4), .val (.int (own_pick pI3 pI1)), .unset, .unset, .unset, .unset, .unset, .unset] [(.int pI2), (.int pI4)] _
    refine st6 _ ?_
    show oS p e below T6 m 12 #[.val (.int pI1), .val (.int pI2), .val (.int pI3), .val (.int pI4), .val (.int (own_pick pI3 pI1)), .unset, .unset, .unset, .unset, .unset, .unset] [(.int (own_pick pI4 pI2))] _
    refine XS.istore X6.here hx rfl (hb hby at_12) rfl (l' := #[.val (.int pI1), .val (.int pI2), .val (.int pI3), .val (.int pI4), .val (.int (own_pick pI3 pI1)), .val (.int (own_pick pI4 pI2)), .unset, .unset, .unset, .unset, .unset]) rfl ?_
    show oS p e below T6 m 14 #[.val (.int pI1), .val (.int pI2), .val (.int pI3), .val (.int pI4), .val (.int (own_pick pI3 pI1)), .val (.int (own_pick pI4 pI2)), .unset, .unset, .unset, .unset, .unset] [] _
    refine XS.iload X6.here hx rfl (hb hby at_14) rfl ?_
    show oS p e below T6 m 16 #[.val (.int pI1), .val (.int pI2), .val (.int pI3), .val (.int pI4), .val (.int (own_pick pI3 pI1)), .val (.int (own_pick pI4 pI2)), .unset, .unset, .unset, .unset, .unset] [(.int (own_pick pI3 pI1))] _
    refine st7 _ ?_
    show oS p e below T7 m 19 #[.val (.int pI1), .val (.int pI2), .val (.int pI3), .val (.int pI4), .val (.int (own_pick pI3 pI1)), .val (.int (own_pick pI4 pI2)), .unset, .unset, .unset, .unset, .unset] [(.ref bR7_2)] _
    refine XS.astore X7.here hx rfl (hb hby at_19) rfl rfl (l' := #[.val (.int pI1), .val (.int pI2), .val (.int pI3), .val (.int pI4), .val (.int (own_pick pI3 pI1)), .val (.int (own_pick pI4 pI2)), .val (.ref bR7_2), .unset, .unset, .unset, .unset]) rfl ?_
    show oS p e below T7 m 21 #[.val (.int pI1), .val (.int pI2), .val (.int pI3), .val (.int pI4), .val (.int (own_pick pI3 pI1)), .val (.int (own_pick pI4 pI2)), .val (.ref bR7_2), .unset, .unset, .unset, .unset] [] _
    refine XS.iload X7.here hx rfl (hb hby at_21) rfl ?_
    show oS p e below T7 m 23 #[.val (.int pI1), .val (.int pI2), .val (.int pI3), .val (.int pI4), .val (.int (own_pick pI3 pI1)), .val (.int (own_pick pI4 pI2)), .val (.ref bR7_2), .unset, .unset, .unset, .unset] [(.int (own_pick pI4 pI2))] _
    refine st10 _ ?_
    show oS p e below T10 m 26 #[.val (.int pI1), .val (.int pI2), .val (.int pI3), .val (.int pI4), .val (.int (own_pick pI3 pI1)), .val (.int (own_pick pI4 pI2)), .val (.ref bR7_2), .unset, .unset, .unset, .unset] [(.ref bR10_2)] _
    refine XS.astore X10.here hx rfl (hb hby at_26) rfl rfl (l' := #[.val (.int pI1), .val (.int pI2), .val (.int pI3), .val (.int pI4), .val (.int (own_pick pI3 pI1)), .val (.int (own_pick pI4 pI2)), .val (.ref bR7_2), .val (.ref bR10_2), .unset, .unset, .unset]) rfl ?_
    show oS p e below T10 m 28 #[.val (.int pI1), .val (.int pI2), .val (.int pI3), .val (.int pI4), .val (.int (own_pick pI3 pI1)), .val (.int (own_pick pI4 pI2)), .val (.ref bR7_2), .val (.ref bR10_2), .unset, .unset, .unset] [] _
    refine XS.aload X10.here hx rfl (hb hby at_28) rfl rfl ?_
    show oS p e below T10 m 30 #[.val (.int pI1), .val (.int pI2), .val (.int pI3), .val (.int pI4), .val (.int (own_pick pI3 pI1)), .val (.int (own_pick pI4 pI2)), .val (.ref bR7_2), .val (.ref bR10_2), .unset, .unset, .unset] [(.ref bR7_2)] _
    refine st14.trans ?_
    show oS p e below T14 m 33 #[.val (.int pI1), .val (.int pI2), .val (.int pI3), .val (.int pI4), .val (.int (own_pick pI3 pI1)), .val (.int (own_pick pI4 pI2)), .val (.ref bR7_2), .val (.ref bR10_2), .unset, .unset, .unset] [(.int (own_pick pI3 pI1))] _
    refine XS.iload X14.here hx rfl (hb hby at_33) rfl ?_
    show oS p e below T14 m 35 #[.val (.int pI1), .val (.int pI2), .val (.int pI3), .val (.int pI4), .val (.int (own_pick pI3 pI1)), .val (.int (own_pick pI4 pI2)), .val (.ref bR7_2), .val (.ref bR10_2), .unset, .unset, .unset] [(.int (own_pick pI3 pI1)), (.int (own_pick pI3 pI1))] _
    refine XS.icmpNo X14.here hx rfl (hb hby at_35) rfl (teq (rfl : (own_pick pI3 pI1) = (own_pick pI3 pI1))).2 ?_
    show oS p e below T14 m 38 #[.val (.int pI1), .val (.int pI2), .val (.int pI3), .val (.int pI4), .val (.int (own_pick pI3 pI1)), .val (.int (own_pick pI4 pI2)), .val (.ref bR7_2), .val (.ref bR10_2), .unset, .unset, .unset] [] _
    refine XS.aload X14.here hx rfl (hb hby at_38) rfl rfl ?_
    show oS p e below T14 m 40 #[.val (.int pI1), .val (.int pI2), .val (.int pI3), .val (.int pI4), .val (.int (own_pick pI3 pI1)), .val (.int (own_pick pI4 pI2)), .val (.ref bR7_2), .val (.ref bR10_2), .unset, .unset, .unset] [(.ref bR10_2)] _
    refine st16.trans ?_
    show oS p e below T16 m 43 #[.val (.int pI1), .val (.int pI2), .val (.int pI3), .val (.int pI4), .val (.int (own_pick pI3 pI1)), .val (.int (own_pick pI4 pI2)), .val (.ref bR7_2), .val (.ref bR10_2), .unset, .unset, .unset] [(.int (own_pick pI4 pI2))] _
    refine XS.iload X16.here hx rfl (hb hby at_43) rfl ?_
    show oS p e below T16 m 45 #[.val (.int pI1), .val (.int pI2), .val (.int pI3), .val (.int pI4), .val (.int (own_pick pI3 pI1)), .val (.int (own_pick pI4 pI2)), .val (.ref bR7_2), .val (.ref bR10_2), .unset, .unset, .unset] [(.int (own_pick pI4 pI2)), (.int (own_pick pI4 pI2))] _
    refine XS.icmpNo X16.here hx rfl (hb hby at_45) rfl (teq (rfl : (own_pick pI4 pI2) = (own_pick pI4 pI2))).2 ?_
    show oS p e below T16 m 48 #[.val (.int pI1), .val (.int pI2), .val (.int pI3), .val (.int pI4), .val (.int (own_pick pI3 pI1)), .val (.int (own_pick pI4 pI2)), .val (.ref bR7_2), .val (.ref bR10_2), .unset, .unset, .unset] [] _
    refine XS.iconst X16.here hx rfl (hb hby at_48) ?_
    show oS p e below T16 m 49 #[.val (.int pI1), .val (.int pI2), .val (.int pI3), .val (.int pI4), .val (.int (own_pick pI3 pI1)), .val (.int (own_pick pI4 pI2)), .val (.ref bR7_2), .val (.ref bR10_2), .unset, .unset, .unset] [(.int (1 : Int32))] _
    refine XS.goto X16.here hx rfl (pc0 := 49) (pc' := 53) rfl (hb hby at_49) (by decide) (by decide) ?_
    show oS p e below T16 m 53 #[.val (.int pI1), .val (.int pI2), .val (.int pI3), .val (.int pI4), .val (.int (own_pick pI3 pI1)), .val (.int (own_pick pI4 pI2)), .val (.ref bR7_2), .val (.ref bR10_2), .unset, .unset, .unset] [(.int (1 : Int32))] _
    refine XS.istore X16.here hx rfl (hb hby at_53) rfl (l' := #[.val (.int pI1), .val (.int pI2), .val (.int pI3), .val (.int pI4), .val (.int (own_pick pI3 pI1)), .val (.int (own_pick pI4 pI2)), .val (.ref bR7_2), .val (.ref bR10_2), .val (.int (1 : Int32)), .unset, .unset]) rfl ?_
    show oS p e below T16 m 55 #[.val (.int pI1), .val (.int pI2), .val (.int pI3), .val (.int pI4), .val (.int (own_pick pI3 pI1)), .val (.int (own_pick pI4 pI2)), .val (.ref bR7_2), .val (.ref bR10_2), .val (.int (1 : Int32)), .unset, .unset] [] _
    refine XS.aload X16.here hx rfl (hb hby at_55) rfl rfl ?_
    show oS p e below T16 m 57 #[.val (.int pI1), .val (.int pI2), .val (.int pI3), .val (.int pI4), .val (.int (own_pick pI3 pI1)), .val (.int (own_pick pI4 pI2)), .val (.ref bR7_2), .val (.ref bR10_2), .val (.int (1 : Int32)), .unset, .unset] [(.ref bR7_2)] _
    refine XS.aload X16.here hx rfl (hb hby at_57) rfl rfl ?_
    show oS p e below T16 m 59 #[.val (.int pI1), .val (.int pI2), .val (.int pI3), .val (.int pI4), .val (.int (own_pick pI3 pI1)), .val (.int (own_pick pI4 pI2)), .val (.ref bR7_2), .val (.ref bR10_2), .val (.int (1 : Int32)), .unset, .unset] [(.ref bR10_2), (.ref bR7_2)] _
    refine st17.trans ?_
    show oS p e below T17 m 62 #[.val (.int pI1), .val (.int pI2), .val (.int pI3), .val (.int pI4), .val (.int (own_pick pI3 pI1)), .val (.int (own_pick pI4 pI2)), .val (.ref bR7_2), .val (.ref bR10_2), .val (.int (1 : Int32)), .unset, .unset] [(.int (1 : Int32))] _
    refine XS.iload X17.here hx rfl (hb hby at_62) rfl ?_
    show oS p e below T17 m 64 #[.val (.int pI1), .val (.int pI2), .val (.int pI3), .val (.int pI4), .val (.int (own_pick pI3 pI1)), .val (.int (own_pick pI4 pI2)), .val (.ref bR7_2), .val (.ref bR10_2), .val (.int (1 : Int32)), .unset, .unset] [(.int (own_pick pI3 pI1)), (.int (1 : Int32))] _
    refine XS.iload X17.here hx rfl (hb hby at_64) rfl ?_
    show oS p e below T17 m 66 #[.val (.int pI1), .val (.int pI2), .val (.int pI3), .val (.int pI4), .val (.int (own_pick pI3 pI1)), .val (.int (own_pick pI4 pI2)), .val (.ref bR7_2), .val (.ref bR10_2), .val (.int (1 : Int32)), .unset, .unset] [(.int (own_pick pI4 pI2)), (.int (own_pick pI3 pI1)), (.int (1 : Int32))] _
    refine XS.icmpNo X17.here hx rfl (hb hby at_66) rfl (teq hst).2 ?_
    show oS p e below T17 m 69 #[.val (.int pI1), .val (.int pI2), .val (.int pI3), .val (.int pI4), .val (.int (own_pick pI3 pI1)), .val (.int (own_pick pI4 pI2)), .val (.ref bR7_2), .val (.ref bR10_2), .val (.int (1 : Int32)), .unset, .unset] [(.int (1 : Int32))] _
    refine XS.iconst X17.here hx rfl (hb hby at_69) ?_
    show oS p e below T17 m 70 #[.val (.int pI1), .val (.int pI2), .val (.int pI3), .val (.int pI4), .val (.int (own_pick pI3 pI1)), .val (.int (own_pick pI4 pI2)), .val (.ref bR7_2), .val (.ref bR10_2), .val (.int (1 : Int32)), .unset, .unset] [(.int (1 : Int32)), (.int (1 : Int32))] _
    refine XS.goto X17.here hx rfl (pc0 := 70) (pc' := 74) rfl (hb hby at_70) (by decide) (by decide) ?_
    show oS p e below T17 m 74 #[.val (.int pI1), .val (.int pI2), .val (.int pI3), .val (.int pI4), .val (.int (own_pick pI3 pI1)), .val (.int (own_pick pI4 pI2)), .val (.ref bR7_2), .val (.ref bR10_2), .val (.int (1 : Int32)), .unset, .unset] [(.int (1 : Int32)), (.int (1 : Int32))] _
    refine XS.icmpNo X17.here hx rfl (hb hby at_74) rfl (teq (by decide : (1 : Int32) = (1 : Int32))).2 ?_
    show oS p e below T17 m 77 #[.val (.int pI1), .val (.int pI2), .val (.int pI3), .val (.int pI4), .val (.int (own_pick pI3 pI1)), .val (.int (own_pick pI4 pI2)), .val (.ref bR7_2), .val (.ref bR10_2), .val (.int (1 : Int32)), .unset, .unset] [] _
    refine XS.iconst X17.here hx rfl (hb hby at_77) ?_
    show oS p e below T17 m 78 #[.val (.int pI1), .val (.int pI2), .val (.int pI3), .val (.int pI4), .val (.int (own_pick pI3 pI1)), .val (.int (own_pick pI4 pI2)), .val (.ref bR7_2), .val (.ref bR10_2), .val (.int (1 : Int32)), .unset, .unset] [(.int (1 : Int32))] _
    refine XS.goto X17.here hx rfl (pc0 := 78) (pc' := 82) rfl (hb hby at_78) (by decide) (by decide) ?_
    show oS p e below T17 m 82 #[.val (.int pI1), .val (.int pI2), .val (.int pI3), .val (.int pI4), .val (.int (own_pick pI3 pI1)), .val (.int (own_pick pI4 pI2)), .val (.ref bR7_2), .val (.ref bR10_2), .val (.int (1 : Int32)), .unset, .unset] [(.int (1 : Int32))] _
    refine XS.istore X17.here hx rfl (hb hby at_82) rfl (l' := #[.val (.int pI1), .val (.int pI2), .val (.int pI3), .val (.int pI4), .val (.int (own_pick pI3 pI1)), .val (.int (own_pick pI4 pI2)), .val (.ref bR7_2), .val (.ref bR10_2), .val (.int (1 : Int32)), .val (.int (1 : Int32)), .unset]) rfl ?_
    show oS p e below T17 m 84 #[.val (.int pI1), .val (.int pI2), .val (.int pI3), .val (.int pI4), .val (.int (own_pick pI3 pI1)), .val (.int (own_pick pI4 pI2)), .val (.ref bR7_2), .val (.ref bR10_2), .val (.int (1 : Int32)), .val (.int (1 : Int32)), .unset] [] _
    refine XS.iload X17.here hx rfl (hb hby at_84) rfl ?_
    show oS p e below T17 m 86 #[.val (.int pI1), .val (.int pI2), .val (.int pI3), .val (.int pI4), .val (.int (own_pick pI3 pI1)), .val (.int (own_pick pI4 pI2)), .val (.ref bR7_2), .val (.ref bR10_2), .val (.int (1 : Int32)), .val (.int (1 : Int32)), .unset] [(.int (own_pick pI3 pI1))] _
    refine X17.ldcInt hx hown (mvT hZ (ow hw 6 rfl)) (g := (mkF m 86 #[.val (.int pI1), .val (.int pI2), .val (.int pI3), .val (.int pI4), .val (.int (own_pick pI3 pI1)), .val (.int (own_pick pI4 pI2)), .val (.ref bR7_2), .val (.ref bR10_2), .val (.int (1 : Int32)), .val (.int (1 : Int32)), .unset] [(.int (own_pick pI3 pI1))])) rfl (hb hby at_86) _ ?_
    show oS p e below T17 m 88 #[.val (.int pI1), .val (.int pI2), .val (.int pI3), .val (.int pI4), .val (.int (own_pick pI3 pI1)), .val (.int (own_pick pI4 pI2)), .val (.ref bR7_2), .val (.ref bR10_2), .val (.int (1 : Int32)), .val (.int (1 : Int32)), .unset] [(.int (86400 : Int32)), (.int (own_pick pI3 pI1))] _
    refine XS.icmpYes X17.here hx rfl (pc0 := 88) (pc' := 102) rfl (hb hby at_88) rfl (feq hse).2 (by decide) (by decide) ?_
    show oS p e below T17 m 102 #[.val (.int pI1), .val (.int pI2), .val (.int pI3), .val (.int pI4), .val (.int (own_pick pI3 pI1)), .val (.int (own_pick pI4 pI2)), .val (.ref bR7_2), .val (.ref bR10_2), .val (.int (1 : Int32)), .val (.int (1 : Int32)), .unset] [] _
    refine XS.iconst X17.here hx rfl (hb hby at_102) ?_
    show oS p e below T17 m 103 #[.val (.int pI1), .val (.int pI2), .val (.int pI3), .val (.int pI4), .val (.int (own_pick pI3 pI1)), .val (.int (own_pick pI4 pI2)), .val (.ref bR7_2), .val (.ref bR10_2), .val (.int (1 : Int32)), .val (.int (1 : Int32)), .unset] [(.int (1 : Int32))] _
    refine XS.goto X17.here hx rfl (pc0 := 103) (pc' := 107) rfl (hb hby at_103) (by decide) (by decide) ?_
    show oS p e below T17 m 107 #[.val (.int pI1), .val (.int pI2), .val (.int pI3), .val (.int pI4), .val (.int (own_pick pI3 pI1)), .val (.int (own_pick pI4 pI2)), .val (.ref bR7_2), .val (.ref bR10_2), .val (.int (1 : Int32)), .val (.int (1 : Int32)), .unset] [(.int (1 : Int32))] _
    refine XS.istore X17.here hx rfl (hb hby at_107) rfl (l' := #[.val (.int pI1), .val (.int pI2), .val (.int pI3), .val (.int pI4), .val (.int (own_pick pI3 pI1)), .val (.int (own_pick pI4 pI2)), .val (.ref bR7_2), .val (.ref bR10_2), .val (.int (1 : Int32)), .val (.int (1 : Int32)), .val (.int (1 : Int32))]) rfl ?_
    show oS p e below T17 m 109 #[.val (.int pI1), .val (.int pI2), .val (.int pI3), .val (.int pI4), .val (.int (own_pick pI3 pI1)), .val (.int (own_pick pI4 pI2)), .val (.ref bR7_2), .val (.ref bR10_2), .val (.int (1 : Int32)), .val (.int (1 : Int32)), .val (.int (1 : Int32))] [] _
    refine XS.iload X17.here hx rfl (hb hby at_109) rfl ?_
    show oS p e below T17 m 111 #[.val (.int pI1), .val (.int pI2), .val (.int pI3), .val (.int pI4), .val (.int (own_pick pI3 pI1)), .val (.int (own_pick pI4 pI2)), .val (.ref bR7_2), .val (.ref bR10_2), .val (.int (1 : Int32)), .val (.int (1 : Int32)), .val (.int (1 : Int32))] [(.int (1 : Int32))] _
    refine XS.ifNo X17.here hx rfl (hb hby at_111) rfl ((if0 _ _).trans (feq (by decide : ¬ ((1 : Int32) = (0 : Int32)))).1) ?_
    show oS p e below T17 m 114 #[.val (.int pI1), .val (.int pI2), .val (.int pI3), .val (.int pI4), .val (.int (own_pick pI3 pI1)), .val (.int (own_pick pI4 pI2)), .val (.ref bR7_2), .val (.ref bR10_2), .val (.int (1 : Int32)), .val (.int (1 : Int32)), .val (.int (1 : Int32))] [] _
    refine XS.iload X17.here hx rfl (hb hby at_114) rfl ?_
    show oS p e below T17 m 116 #[.val (.int pI1), .val (.int pI2), .val (.int pI3), .val (.int pI4), .val (.int (own_pick pI3 pI1)), .val (.int (own_pick pI4 pI2)), .val (.ref bR7_2), .val (.ref bR10_2), .val (.int (1 : Int32)), .val (.int (1 : Int32)), .val (.int (1 : Int32))] [(.int (1 : Int32))] _
    refine XS.ifNo X17.here hx rfl (hb hby at_116) rfl ((if0 _ _).trans (feq (by decide : ¬ ((1 : Int32) = (0 : Int32)))).1) ?_
    show oS p e below T17 m 119 #[.val (.int pI1), .val (.int pI2), .val (.int pI3), .val (.int pI4), .val (.int (own_pick pI3 pI1)), .val (.int (own_pick pI4 pI2)), .val (.ref bR7_2), .val (.ref bR10_2), .val (.int (1 : Int32)), .val (.int (1 : Int32)), .val (.int (1 : Int32))] [] _
    refine XS.iload X17.here hx rfl (hb hby at_119) rfl ?_
    show oS p e below T17 m 121 #[.val (.int pI1), .val (.int pI2), .val (.int pI3), .val (.int pI4), .val (.int (own_pick pI3 pI1)), .val (.int (own_pick pI4 pI2)), .val (.ref bR7_2), .val (.ref bR10_2), .val (.int (1 : Int32)), .val (.int (1 : Int32)), .val (.int (1 : Int32))] [(.int (1 : Int32))] _
    refine XS.ifNo X17.here hx rfl (hb hby at_121) rfl ((if0 _ _).trans (feq (by decide : ¬ ((1 : Int32) = (0 : Int32)))).1) ?_
    show oS p e below T17 m 124 #[.val (.int pI1), .val (.int pI2), .val (.int pI3), .val (.int pI4), .val (.int (own_pick pI3 pI1)), .val (.int (own_pick pI4 pI2)), .val (.ref bR7_2), .val (.ref bR10_2), .val (.int (1 : Int32)), .val (.int (1 : Int32)), .val (.int (1 : Int32))] [] _
    refine XS.iconst X17.here hx rfl (hb hby at_124) ?_
    show oS p e below T17 m 125 #[.val (.int pI1), .val (.int pI2), .val (.int pI3), .val (.int pI4), .val (.int (own_pick pI3 pI1)), .val (.int (own_pick pI4 pI2)), .val (.ref bR7_2), .val (.ref bR10_2), .val (.int (1 : Int32)), .val (.int (1 : Int32)), .val (.int (1 : Int32))] [(.int (1 : Int32))] _
    refine XS.goto X17.here hx rfl (pc0 := 125) (pc' := 129) rfl (hb hby at_125) (by decide) (by decide) ?_
    show oS p e below T17 m 129 #[.val (.int pI1), .val (.int pI2), .val (.int pI3), .val (.int pI4), .val (.int (own_pick pI3 pI1)), .val (.int (own_pick pI4 pI2)), .val (.ref bR7_2), .val (.ref bR10_2), .val (.int (1 : Int32)), .val (.int (1 : Int32)), .val (.int (1 : Int32))] [(.int (1 : Int32))] _
    exact retN X17 hx (t := .boolean) Bd.returns (by simp) (hb hby at_129) hr
  · show Qlaw10 Z pI1 pI2 pI3 pI4 h0 n0 _ T17.heap _
    rw [e17]
    exact ⟨rfl, N17⟩
theorem ef_law01 (m : MethodId) (pI1 : Int32) (pI2 : Int32) (pI3 : Int32) (pI4 : Int32) : entryFrame m #[(.int pI1), (.int pI2), (.int pI3), (.int pI4)] maxLocals = mkF m 0 #[.val (.int pI1), .val (.int pI2), .val (.int pI3), .val (.int pI4), .unset, .unset, .unset, .unset, .unset, .unset, .unset] [] := by first | (simp [entryFrame, mkF, argsToLocals, Value.category, maxLocals]; done) | rfl
def Qlaw01 (Z : State) (pI1 : Int32) (pI2 : Int32) (pI3 : Int32) (pI4 : Int32) (pR18 : Addr) (pI24 : Int32) (h0 : Heap) (n0 : Nat) (v : Option Value) (h : Heap) (L : List Loc) : Prop := v = some (.int (1 : Int32)) ∧ Fr n0 L
set_option maxRecDepth 65536 in
set_option maxHeartbeats 40000000 in
theorem law01 (l : Launch) (Z : State) (a0 : Array Value) (hw : ∀ d ∈ tables_1, d.before a0 Z = true) (ws : List Jvm.Cond) (pI1 : Int32) (pI2 : Int32) (pI3 : Int32) (pI4 : Int32) (pR18 : Addr) (pI24 : Int32) (h0 : Heap) (n0 : Nat) (Z0 : n0 ≤ h0.size) (S_ClockTime_END_OF_DAY : Sta Z h0 "com/example/watchful_junction/watchfuljunction/ClockTime" "END_OF_DAY" "Lcom/example/watchful_junction/watchfuljunction/ClockTime;" (.ref pR18)) (E_pR18 : Exa Z h0 pR18 "com/example/watchful_junction/watchfuljunction/ClockTime") (F_secondOfDay_pR18 : Fld Z h0 pR18 "com/example/watchful_junction/watchfuljunction/ClockTime" "secondOfDay" "I" (.int pI24)) (hst : ¬ ((own_pick pI3 pI1) = (own_pick pI4 pI2))) (hse : (own_pick pI3 pI1) = (86400 : Int32)) (hc16 : ¬ ((own_pick pI3 pI1) < (0 : Int32))) (hc16' : ¬ ((86400 : Int32) < (own_pick pI3 pI1))) (hc23 : ¬ ((own_pick pI4 pI2) < (0 : Int32))) (hc23' : ¬ ((86400 : Int32) < (own_pick pI4 pI2))) (hc96 : pI24 = (own_pick pI3 pI1)) :
    MetFree l x (head1 (Jvm.Cond.code x code maxLocals ret :: ws) room_1) (fun a U => a = #[(.int pI1), (.int pI2), (.int pI3), (.int pI4)] ∧ Z.Warmed39 U.vm ∧ U.heap = h0) (fun _ _ _ _ _ => True) (fun _ U o U' => ∃ v L, o = .returned v ∧ Qlaw01 Z pI1 pI2 pI3 pI4 pR18 pI24 h0 n0 v U'.heap L ∧ FrameEnd U o U' L room_1.cells room_1.slots) := by
  refine MetFree.of_bodySF (plainFor_of_name pn_0) hisR ?_
  intro p e s m args below meth c s₁ Bd hml0 hP hK
  obtain ⟨rfl, hZ, hh⟩ := hP
  have hx := Bd.exec
  have hby := Bd.bytes
  have hml : c.maxLocals = 11 := hml0
  have hown : s.vm.findClass "com/example/watchful_junction/watchfuljunction/ClockTimeOfSecondOfDayPinLaw" = some m.cls := findClass_of_methodNamed Bd.named
  have hnm := (name_of_methodNamed Bd.named Bd.method).1
  have X0 : Stand p l e room_1 s m #[(.int pI1), (.int pI2), (.int pI3), (.int pI4)] below meth c s₁ [] 0 0 := Stand.of_body Bd
  have e0 : s₁.heap = h0 := by rw [← hh, Bd.state]; rfl
  have N0 := Fr.nil n0
  have pre0 : ∀ t, Steps p.tables e below (s₁.setTop (mkF m 0 #[.val (.int pI1), .val (.int pI2), .val (.int pI3), .val (.int pI4), .unset, .unset, .unset, .unset, .unset, .unset, .unset] [])) t → Steps p.tables e below (s₁.setTop (entryFrame m #[(.int pI1), (.int pI2), (.int pI3), (.int pI4)] maxLocals)) t := fun t k => castTop (ef_law01 m pI1 pI2 pI3 pI4) k
  obtain ⟨_, _, ⟨T5, L5, k5, n5⟩, -, X5, ⟨Lc5, hQ5, l5, y5, z5⟩, st5⟩ := Jvm.LawKit.callS X0 hx (y := yN0) hown (mvT hZ (ow hw 0 rfl)) (mvT hZ (ow hw 1 rfl)) (mvT hZ (ow hw 2 rfl)) (mvT hZ (ow hw 3 rfl)) (by decide) (backOf (W := 0) (pick l Z a0 hw [] pI3 pI1 h0 n0 Z0 ) hZ (ow hw 3 rfl) (ow hw 2 rfl) (by decide) (by decide)) (g := (mkF m 2 #[.val (.int pI1), .val (.int pI2), .val (.int pI3), .val (.int pI4), .unset, .unset, .unset, .unset, .unset, .unset, .unset] [(.int pI1), (.int pI3)])) rfl (by rw [hml]; rfl) (argsL := [(.int pI3), (.int pI1)]) (rest := []) (lenOf pd_1 rfl) rfl (by show 2 * 0 + _ ≤ _; exact Nat.le_of_eq rfl) (hb hby at_2) (fun _ _ => ⟨rfl, e0, (by decide : 0 + 0 ≤ _), (by decide : 0 + 0 ≤ _)⟩)
  dsimp only [Pt.U, Pt.locs, Pt.cells, Pt.slots] at X5 l5 y5 z5 st5 hQ5
  subst l5 y5 z5
  obtain ⟨rfl, Nq5, e5⟩ := hQ5
  have N5 := Fr.app N0 Nq5
  obtain ⟨_, _, ⟨T6, L6, k6, n6⟩, -, X6, ⟨Lc6, hQ6, l6, y6, z6⟩, st6⟩ := Jvm.LawKit.callS X5 hx (y := yN0) hown (mvT hZ (ow hw 0 rfl)) (mvT hZ (ow hw 1 rfl)) (mvT hZ (ow hw 2 rfl)) (mvT hZ (ow hw 3 rfl)) (by decide) (backOf (W := 0) (pick l Z a0 hw [] pI4 pI2 h0 n0 Z0 ) hZ (ow hw 3 rfl) (ow hw 2 rfl) (by decide) (by decide)) (g := (mkF m 9 #[.val (.int pI1), .val (.int pI2), .val (.int pI3), .val (.int pI4), .val (.int (own_pick pI3 pI1)), .unset, .unset, .unset, .unset, .unset, .unset] [(.int pI2), (.int pI4)])) rfl (by rw [hml]; rfl) (argsL := [(.int pI4), (.int pI2)]) (rest := []) (lenOf pd_1 rfl) rfl (by show 2 * 0 + _ ≤ _; exact Nat.le_of_eq rfl) (hb hby at_9) (fun _ _ => ⟨rfl, e5, (by decide : 0 + 0 ≤ _), (by decide : 0 + 0 ≤ _)⟩)
  dsimp only [Pt.U, Pt.locs, Pt.cells, Pt.slots] at X6 l6 y6 z6 st6 hQ6
  subst l6 y6 z6
  obtain ⟨rfl, Nq6, e6⟩ := hQ6
  have N6 := Fr.app N5 Nq6
  obtain ⟨_, _, ⟨T7, L7, k7, n7⟩, -, X7, ⟨Lc7, hQ7, l7, y7, z7⟩, st7⟩ := Jvm.LawKit.callS X6 hx (y := yN2) hown (mvT hZ (ow hw 7 rfl)) (mvT hZ (ow hw 8 rfl)) (mvT hZ (ow hw 9 rfl)) (mvT hZ (ow hw 10 rfl)) (by decide) (backOf (W := 0) (ofs l Z a0 hw [] (own_pick pI3 pI1) h0 n0 Z0 hc16 hc16') hZ (ow hw 10 rfl) (ow hw 9 rfl) (by decide) (by decide)) (g := (mkF m 16 #[.val (.int pI1), .val (.int pI2), .val (.int pI3), .val (.int pI4), .val (.int (own_pick pI3 pI1)), .val (.int (own_pick pI4 pI2)), .unset, .unset, .unset, .unset, .unset] [(.int (own_pick pI3 pI1))])) rfl (by rw [hml]; rfl) (argsL := [(.int (own_pick pI3 pI1))]) (rest := []) (lenOf pd_2 rfl) rfl (by show 2 * 0 + _ ≤ _; exact Nat.le_of_eq rfl) (hb hby at_16) (fun _ _ => ⟨rfl, e6, (by decide : 0 + 1 ≤ _), (by decide : 0 + 1 ≤ _)⟩)
  dsimp only [Pt.U, Pt.locs, Pt.cells, Pt.slots] at X7 l7 y7 z7 st7 hQ7
  subst l7 y7 z7
  obtain ⟨bR7_2, rfl, Nq7, Kq7, sz7_2, x7_0, x7_1⟩ := hQ7
  have N7 := Fr.app N6 Nq7
  have Z9 : n0 ≤ T7.heap.size := (Nat.le_trans Z0 Kq7.1)
  obtain ⟨_, _, ⟨T10, L10, k10, n10⟩, -, X10, ⟨Lc10, hQ10, l10, y10, z10⟩, st10⟩ := Jvm.LawKit.callS X7 hx (y := yN2) hown (mvT hZ (ow hw 7 rfl)) (mvT hZ (ow hw 8 rfl)) (mvT hZ (ow hw 9 rfl)) (mvT hZ (ow hw 10 rfl)) (by decide) (backOf (W := 0) (ofs l Z a0 hw [] (own_pick pI4 pI2) T7.heap n0 Z9 hc23 hc23') hZ (ow hw 10 rfl) (ow hw 9 rfl) (by decide) (by decide)) (g := (mkF m 23 #[.val (.int pI1), .val (.int pI2), .val (.int pI3), .val (.int pI4), .val (.int (own_pick pI3 pI1)), .val (.int (own_pick pI4 pI2)), .val (.ref bR7_2), .unset, .unset, .unset, .unset] [(.int (own_pick pI4 pI2))])) rfl (by rw [hml]; rfl) (argsL := [(.int (own_pick pI4 pI2))]) (rest := []) (lenOf pd_2 rfl) rfl (by show 2 * 0 + _ ≤ _; exact Nat.le_of_eq rfl) (hb hby at_23) (fun _ _ => ⟨rfl, rfl, (by decide : 1 + 1 ≤ _), (by decide : 1 + 1 ≤ _)⟩)
  dsimp only [Pt.U, Pt.locs, Pt.cells, Pt.slots] at X10 l10 y10 z10 st10 hQ10
  subst l10 y10 z10
  obtain ⟨bR10_2, rfl, Nq10, Kq10, sz10_2, x10_0, x10_1⟩ := hQ10
  have N10 := Fr.app N7 Nq10
  have Z12 : n0 ≤ T10.heap.size := (Nat.le_trans Z9 Kq10.1)
  have c13 : Fld Z T10.heap bR7_2 "com/example/watchful_junction/watchfuljunction/ClockTime" "secondOfDay" "I" (.int (own_pick pI3 pI1)) := x7_1.keep Kq10 nin0
  have c15 : Exa Z T10.heap bR7_2 "com/example/watchful_junction/watchfuljunction/ClockTime" := x7_0.keep Kq10
  obtain ⟨cq14, kq14, q14a, q14b, q14c⟩ := isOf hZ rfl c15
  obtain ⟨_, _, ⟨T14, L14, k14, n14⟩, -, X14, ⟨Lc14, hQ14, l14, y14, z14⟩, st14⟩ := X10.virtualBack hx (y := yN3) (z := yN3) hown (mvT hZ (ow hw 22 rfl)) (mvT hZ (ow hw 23 rfl)) (notFace_of_selects (args := #[]) (mvT hZ (ow hw 25 rfl))) (mvT hZ (ow hw 25 rfl)) (mvT hZ (ow hw 24 rfl)) (by decide) (backOf (W := 0) (sod l Z a0 hw [] bR7_2 (own_pick pI3 pI1) T10.heap n0 Z12 c13) hZ (ow hw 26 rfl) (ow hw 9 rfl) (by decide) (by decide)) q14a q14c (g := (mkF m 30 #[.val (.int pI1), .val (.int pI2), .val (.int pI3), .val (.int pI4), .val (.int (own_pick pI3 pI1)), .val (.int (own_pick pI4 pI2)), .val (.ref bR7_2), .val (.ref bR10_2), .unset, .unset, .unset] [(.ref bR7_2)])) rfl (by rw [hml]; rfl) (Steps.refl _) (argsL := []) (rest := []) (lenOf pd_3 rfl) rfl (by show 2 * 0 + _ ≤ _; exact Nat.le_of_eq rfl) (hb hby at_30) (fun _ _ => ⟨rfl, rfl, (by decide : 2 + 0 ≤ _), (by decide : 2 + 0 ≤ _)⟩)
  dsimp only [Pt.U, Pt.locs, Pt.cells, Pt.slots] at X14 l14 y14 z14 st14 hQ14
  subst l14 y14 z14
  obtain ⟨rfl, Nq14, e14⟩ := hQ14
  have N14 := Fr.app N10 Nq14
  obtain ⟨cq16, kq16, q16a, q16b, q16c⟩ := isOf hZ e14 x10_0
  obtain ⟨_, _, ⟨T16, L16, k16, n16⟩, -, X16, ⟨Lc16, hQ16, l16, y16, z16⟩, st16⟩ := X14.virtualBack hx (y := yN3) (z := yN3) hown (mvT hZ (ow hw 22 rfl)) (mvT hZ (ow hw 23 rfl)) (notFace_of_selects (args := #[]) (mvT hZ (ow hw 25 rfl))) (mvT hZ (ow hw 25 rfl)) (mvT hZ (ow hw 24 rfl)) (by decide) (backOf (W := 0) (sod l Z a0 hw [] bR10_2 (own_pick pI4 pI2) T10.heap n0 Z12 x10_1) hZ (ow hw 26 rfl) (ow hw 9 rfl) (by decide) (by decide)) q16a q16c (g := (mkF m 40 #[.val (.int pI1), .val (.int pI2), .val (.int pI3), .val (.int pI4), .val (.int (own_pick pI3 pI1)), .val (.int (own_pick pI4 pI2)), .val (.ref bR7_2), .val (.ref bR10_2), .unset, .unset, .unset] [(.ref bR10_2)])) rfl (by rw [hml]; rfl) (Steps.refl _) (argsL := []) (rest := []) (lenOf pd_3 rfl) rfl (by show 2 * 0 + _ ≤ _; exact Nat.le_of_eq rfl) (hb hby at_40) (fun _ _ => ⟨rfl, e14, (by decide : 2 + 0 ≤ _), (by decide : 2 + 0 ≤ _)⟩)
  dsimp only [Pt.U, Pt.locs, Pt.cells, Pt.slots] at X16 l16 y16 z16 st16 hQ16
  subst l16 y16 z16
  obtain ⟨rfl, Nq16, e16⟩ := hQ16
  have N16 := Fr.app N14 Nq16
  obtain ⟨cq17, kq17, q17a, q17b, q17c⟩ := isOf hZ e16 c15
  obtain ⟨_, _, ⟨T17, L17, k17, n17⟩, -, X17, ⟨Lc17, hQ17, l17, y17, z17⟩, st17⟩ := X16.virtualBack hx (y := yN4) (z := yN4) hown (mvT hZ (ow hw 27 rfl)) (mvT hZ (ow hw 28 rfl)) (notFace_of_selects (args := #[]) (mvT hZ (ow hw 30 rfl))) (mvT hZ (ow hw 30 rfl)) (mvT hZ (ow hw 29 rfl)) (by decide) (backOf (W := 0) (eqN l Z a0 hw [] bR7_2 bR10_2 (own_pick pI4 pI2) (own_pick pI3 pI1) T10.heap n0 Z12 x10_0 x10_1 c13 (fun q => hst q.symm)) hZ (ow hw 31 rfl) (ow hw 9 rfl) (by decide) (by decide)) q17a q17c (g := (mkF m 59 #[.val (.int pI1), .val (.int pI2), .val (.int pI3), .val (.int pI4), .val (.int (own_pick pI3 pI1)), .val (.int (own_pick pI4 pI2)), .val (.ref bR7_2), .val (.ref bR10_2), .val (.int (1 : Int32)), .unset, .unset] [(.ref bR10_2), (.ref bR7_2)])) rfl (by rw [hml]; rfl) (Steps.refl _) (argsL := [(.ref bR10_2)]) (rest := []) (lenOf pd_4 rfl) rfl (by show 2 * 0 + _ ≤ _; exact Nat.le_of_eq rfl) (hb hby at_59) (fun _ _ => ⟨rfl, e16, (by decide : 2 + 0 ≤ _), (by decide : 2 + 0 ≤ _)⟩)
  dsimp only [Pt.U, Pt.locs, Pt.cells, Pt.slots] at X17 l17 y17 z17 st17 hQ17
  subst l17 y17 z17
  obtain ⟨rfl, Nq17, e17⟩ := hQ17
  have N17 := Fr.app N16 Nq17
  have c19 : Sta Z T7.heap "com/example/watchful_junction/watchfuljunction/ClockTime" "END_OF_DAY" "Lcom/example/watchful_junction/watchfuljunction/ClockTime;" (.ref pR18) := own_sta_keep S_ClockTime_END_OF_DAY Kq7 all0
  have c20 : Sta Z T10.heap "com/example/watchful_junction/watchfuljunction/ClockTime" "END_OF_DAY" "Lcom/example/watchful_junction/watchfuljunction/ClockTime;" (.ref pR18) := own_sta_keep c19 Kq10 all0
  obtain ⟨T21, X21, e21, st21⟩ := getS2 X17 hx hZ hown (host := "") (Or.inl (ow hw 33 rfl)) Via.refl e17 c20 (g := (mkF m 93 #[.val (.int pI1), .val (.int pI2), .val (.int pI3), .val (.int pI4), .val (.int (own_pick pI3 pI1)), .val (.int (own_pick pI4 pI2)), .val (.ref bR7_2), .val (.ref bR10_2), .val (.int (1 : Int32)), .val (.int (1 : Int32)), .unset] [(.ref bR7_2)])) rfl (hb hby at_93)
  have c22 : Exa Z T7.heap pR18 "com/example/watchful_junction/watchfuljunction/ClockTime" := E_pR18.keep Kq7
  have c23 : Exa Z T10.heap pR18 "com/example/watchful_junction/watchfuljunction/ClockTime" := c22.keep Kq10
  have c25 : Fld Z T7.heap pR18 "com/example/watchful_junction/watchfuljunction/ClockTime" "secondOfDay" "I" (.int pI24) := F_secondOfDay_pR18.keep Kq7 nin0
  have c26 : Fld Z T10.heap pR18 "com/example/watchful_junction/watchfuljunction/ClockTime" "secondOfDay" "I" (.int pI24) := c25.keep Kq10 nin0
  obtain ⟨cq27, kq27, q27a, q27b, q27c⟩ := isOf hZ e21 c15
  obtain ⟨_, _, ⟨T27, L27, k27, n27⟩, -, X27, ⟨Lc27, hQ27, l27, y27, z27⟩, st27⟩ := X21.virtualBack hx (y := yN4) (z := yN4) hown (mvT hZ (ow hw 27 rfl)) (mvT hZ (ow hw 28 rfl)) (notFace_of_selects (args := #[]) (mvT hZ (ow hw 30 rfl))) (mvT hZ (ow hw 30 rfl)) (mvT hZ (ow hw 29 rfl)) (by decide) (backOf (W := 0) (eqY l Z a0 hw [] bR7_2 pR18 pI24 (own_pick pI3 pI1) T10.heap n0 Z12 c23 c26 c13 hc96) hZ (ow hw 31 rfl) (ow hw 9 rfl) (by decide) (by decide)) q27a q27c (g := (mkF m 96 #[.val (.int pI1), .val (.int pI2), .val (.int pI3), .val (.int pI4), .val (.int (own_pick pI3 pI1)), .val (.int (own_pick pI4 pI2)), .val (.ref bR7_2), .val (.ref bR10_2), .val (.int (1 : Int32)), .val (.int (1 : Int32)), .unset] [(.ref pR18), (.ref bR7_2)])) rfl (by rw [hml]; rfl) (Steps.refl _) (argsL := [(.ref pR18)]) (rest := []) (lenOf pd_4 rfl) rfl (by show 2 * 0 + _ ≤ _; exact Nat.le_of_eq rfl) (hb hby at_96) (fun _ _ => ⟨rfl, e21, (by decide : 2 + 0 ≤ _), (by decide : 2 + 0 ≤ _)⟩)
  dsimp only [Pt.U, Pt.locs, Pt.cells, Pt.slots] at X27 l27 y27 z27 st27 hQ27
  subst l27 y27 z27
  obtain ⟨rfl, Nq27, e27⟩ := hQ27
  have N27 := Fr.app N17 Nq27
  obtain ⟨fs, hr, hrun, hended, hW, hsame⟩ := X27.leave (v := some (.int (1 : Int32))) (fun h => by rw [Bd.returns] at h; cases h)
  refine ⟨_, _, pre0 _ ?_, hrun, hended, _, _, rfl, ?_, ⟨_, rfl⟩, hW, hsame.mono (by decide) (by decide)⟩
  · show oS p e below s₁ m 0 #[.val (.int pI1), .val (.int pI2), .val (.int pI3), .val (.int pI4), .unset, .unset, .unset, .unset, .unset, .unset, .unset] [] _
    refine XS.iloadN X0.here hx rfl (hb hby at_0) rfl ?_
    show oS p e below s₁ m 1 #[.val (.int pI1), .val (.int pI2), .val (.int pI3), .val (.int pI4), .unset, .unset, .unset, .unset, .unset, .unset, .unset] [(.int pI3)] _
    refine XS.iloadN X0.here hx rfl (hb hby at_1) rfl ?_
    show oS p e below s₁ m 2 #[.val (.int pI1), .val (.int pI2), .val (.int pI3), .val (.int pI4), .unset, .unset, .unset, .unset, .unset, .unset, .unset] [(.int pI1), (.int pI3)] _
    refine st5 _ ?_
    show oS p e below T5 m 5 #[.val (.int pI1), .val (.int pI2), .val (.int pI3), .val (.int pI4), .unset, .unset, .unset, .unset, .unset, .unset, .unset] [(.int (own_pick pI3 pI1))] _
    refine XS.istore X5.here hx rfl (hb hby at_5) rfl (l' := #[.val (.int pI1), .val (.int pI2), .val (.int pI3), .val (.int pI4), .val (.int (own_pick pI3 pI1)), .unset, .unset, .unset, .unset, .unset, .unset]) rfl ?_
    show oS p e below T5 m 7 #[.val (.int pI1), .val (.int pI2), .val (.int pI3), .val (.int pI4), .val (.int (own_pick pI3 pI1)), .unset, .unset, .unset, .unset, .unset, .unset] [] _
    refine XS.iloadN X5.here hx rfl (hb hby at_7) rfl ?_
    show oS p e below T5 m 8 #[.val (.int pI1), .val (.int pI2), .val (.int pI3), .val (.int pI4), .val (.int (own_pick pI3 pI1)), .unset, .unset, .unset, .unset, .unset, .unset] [(.int pI4)] _
    refine XS.iloadN X5.here hx rfl (hb hby at_8) rfl ?_
    show oS p e below T5 m 9 #[.val (.int pI1), .val (.int pI2), .val (.int pI3), .val (.int pI4), .val (.int (own_pick pI3 pI1)), .unset, .unset, .unset, .unset, .unset, .unset] [(.int pI2), (.int pI4)] _
    refine st6 _ ?_
    show oS p e below T6 m 12 #[.val (.int pI1), .val (.int pI2), .val (.int pI3), .val (.int pI4), .val (.int (own_pick pI3 pI1)), .unset, .unset, .unset, .unset, .unset, .unset] [(.int (own_pick pI4 pI2))] _
    refine XS.istore X6.here hx rfl (hb hby at_12) rfl (l' := #[.val (.int pI1), .val (.int pI2), .val (.int pI3), .val (.int pI4), .val (.int (own_pick pI3 pI1)), .val (.int (own_pick pI4 pI2)), .unset, .unset, .unset, .unset, .unset]) rfl ?_
    show oS p e below T6 m 14 #[.val (.int pI1), .val (.int pI2), .val (.int pI3), .val (.int pI4), .val (.int (own_pick pI3 pI1)), .val (.int (own_pick pI4 pI2)), .unset, .unset, .unset, .unset, .unset] [] _
    refine XS.iload X6.here hx rfl (hb hby at_14) rfl ?_
    show oS p e below T6 m 16 #[.val (.int pI1), .val (.int pI2), .val (.int pI3), .val (.int pI4), .val (.int (own_pick pI3 pI1)), .val (.int (own_pick pI4 pI2)), .unset, .unset, .unset, .unset, .unset] [(.int (own_pick pI3 pI1))] _
    refine st7 _ ?_
    show oS p e below T7 m 19 #[.val (.int pI1), .val (.int pI2), .val (.int pI3), .val (.int pI4), .val (.int (own_pick pI3 pI1)), .val (.int (own_pick pI4 pI2)), .unset, .unset, .unset, .unset, .unset] [(.ref bR7_2)] _
    refine XS.astore X7.here hx rfl (hb hby at_19) rfl rfl (l' := #[.val (.int pI1), .val (.int pI2), .val (.int pI3), .val (.int pI4), .val (.int (own_pick pI3 pI1)), .val (.int (own_pick pI4 pI2)), .val (.ref bR7_2), .unset, .unset, .unset, .unset]) rfl ?_
    show oS p e below T7 m 21 #[.val (.int pI1), .val (.int pI2), .val (.int pI3), .val (.int pI4), .val (.int (own_pick pI3 pI1)), .val (.int (own_pick pI4 pI2)), .val (.ref bR7_2), .unset, .unset, .unset, .unset] [] _
    refine XS.iload X7.here hx rfl (hb hby at_21) rfl ?_
    show oS p e below T7 m 23 #[.val (.int pI1), .val (.int pI2), .val (.int pI3), .val (.int pI4), .val (.int (own_pick pI3 pI1)), .val (.int (own_pick pI4 pI2)), .val (.ref bR7_2), .unset, .unset, .unset, .unset] [(.int (own_pick pI4 pI2))] _
    refine st10 _ ?_
    show oS p e below T10 m 26 #[.val (.int pI1), .val (.int pI2), .val (.int pI3), .val (.int pI4), .val (.int (own_pick pI3 pI1)), .val (.int (own_pick pI4 pI2)), .val (.ref bR7_2), .unset, .unset, .unset, .unset] [(.ref bR10_2)] _
    refine XS.astore X10.here hx rfl (hb hby at_26) rfl rfl (l' := #[.val (.int pI1), .val (.int pI2), .val (.int pI3), .val (.int pI4), .val (.int (own_pick pI3 pI1)), .val (.int (own_pick pI4 pI2)), .val (.ref bR7_2), .val (.ref bR10_2), .unset, .unset, .unset]) rfl ?_
    show oS p e below T10 m 28 #[.val (.int pI1), .val (.int pI2), .val (.int pI3), .val (.int pI4), .val (.int (own_pick pI3 pI1)), .val (.int (own_pick pI4 pI2)), .val (.ref bR7_2), .val (.ref bR10_2), .unset, .unset, .unset] [] _
    refine XS.aload X10.here hx rfl (hb hby at_28) rfl rfl ?_
    show oS p e below T10 m 30 #[.val (.int pI1), .val (.int pI2), .val (.int pI3), .val (.int pI4), .val (.int (own_pick pI3 pI1)), .val (.int (own_pick pI4 pI2)), .val (.ref bR7_2), .val (.ref bR10_2), .unset, .unset, .unset] [(.ref bR7_2)] _
    refine st14.trans ?_
    show oS p e below T14 m 33 #[.val (.int pI1), .val (.int pI2), .val (.int pI3), .val (.int pI4), .val (.int (own_pick pI3 pI1)), .val (.int (own_pick pI4 pI2)), .val (.ref bR7_2), .val (.ref bR10_2), .unset, .unset, .unset] [(.int (own_pick pI3 pI1))] _
    refine XS.iload X14.here hx rfl (hb hby at_33) rfl ?_
    show oS p e below T14 m 35 #[.val (.int pI1), .val (.int pI2), .val (.int pI3), .val (.int pI4), .val (.int (own_pick pI3 pI1)), .val (.int (own_pick pI4 pI2)), .val (.ref bR7_2), .val (.ref bR10_2), .unset, .unset, .unset] [(.int (own_pick pI3 pI1)), (.int (own_pick pI3 pI1))] _
    refine XS.icmpNo X14.here hx rfl (hb hby at_35) rfl (teq (rfl : (own_pick pI3 pI1) = (own_pick pI3 pI1))).2 ?_
    show oS p e below T14 m 38 #[.val (.int pI1), .val (.int pI2), .val (.int pI3), .val (.int pI4), .val (.int (own_pick pI3 pI1)), .val (.int (own_pick pI4 pI2)), .val (.ref bR7_2), .val (.ref bR10_2), .unset, .unset, .unset] [] _
    refine XS.aload X14.here hx rfl (hb hby at_38) rfl rfl ?_
    show oS p e below T14 m 40 #[.val (.int pI1), .val (.int pI2), .val (.int pI3), .val (.int pI4), .val (.int (own_pick pI3 pI1)), .val (.int (own_pick pI4 pI2)), .val (.ref bR7_2), .val (.ref bR10_2), .unset, .unset, .unset] [(.ref bR10_2)] _
    refine st16.trans ?_
    show oS p e below T16 m 43 #[.val (.int pI1), .val (.int pI2), .val (.int pI3), .val (.int pI4), .val (.int (own_pick pI3 pI1)), .val (.int (own_pick pI4 pI2)), .val (.ref bR7_2), .val (.ref bR10_2), .unset, .unset, .unset] [(.int (own_pick pI4 pI2))] _
    refine XS.iload X16.here hx rfl (hb hby at_43) rfl ?_
    show oS p e below T16 m 45 #[.val (.int pI1), .val (.int pI2), .val (.int pI3), .val (.int pI4), .val (.int (own_pick pI3 pI1)), .val (.int (own_pick pI4 pI2)), .val (.ref bR7_2), .val (.ref bR10_2), .unset, .unset, .unset] [(.int (own_pick pI4 pI2)), (.int (own_pick pI4 pI2))] _
    refine XS.icmpNo X16.here hx rfl (hb hby at_45) rfl (teq (rfl : (own_pick pI4 pI2) = (own_pick pI4 pI2))).2 ?_
    show oS p e below T16 m 48 #[.val (.int pI1), .val (.int pI2), .val (.int pI3), .val (.int pI4), .val (.int (own_pick pI3 pI1)), .val (.int (own_pick pI4 pI2)), .val (.ref bR7_2), .val (.ref bR10_2), .unset, .unset, .unset] [] _
    refine XS.iconst X16.here hx rfl (hb hby at_48) ?_
    show oS p e below T16 m 49 #[.val (.int pI1), .val (.int pI2), .val (.int pI3), .val (.int pI4), .val (.int (own_pick pI3 pI1)), .val (.int (own_pick pI4 pI2)), .val (.ref bR7_2), .val (.ref bR10_2), .unset, .unset, .unset] [(.int (1 : Int32))] _
    refine XS.goto X16.here hx rfl (pc0 := 49) (pc' := 53) rfl (hb hby at_49) (by decide) (by decide) ?_
    show oS p e below T16 m 53 #[.val (.int pI1), .val (.int pI2), .val (.int pI3), .val (.int pI4), .val (.int (own_pick pI3 pI1)), .val (.int (own_pick pI4 pI2)), .val (.ref bR7_2), .val (.ref bR10_2), .unset, .unset, .unset] [(.int (1 : Int32))] _
    refine XS.istore X16.here hx rfl (hb hby at_53) rfl (l' := #[.val (.int pI1), .val (.int pI2), .val (.int pI3), .val (.int pI4), .val (.int (own_pick pI3 pI1)), .val (.int (own_pick pI4 pI2)), .val (.ref bR7_2), .val (.ref bR10_2), .val (.int (1 : Int32)), .unset, .unset]) rfl ?_
    show oS p e below T16 m 55 #[.val (.int pI1), .val (.int pI2), .val (.int pI3), .val (.int pI4), .val (.int (own_pick pI3 pI1)), .val (.int (own_pick pI4 pI2)), .val (.ref bR7_2), .val (.ref bR10_2), .val (.int (1 : Int32)), .unset, .unset] [] _
    refine XS.aload X16.here hx rfl (hb hby at_55) rfl rfl ?_
    show oS p e below T16 m 57 #[.val (.int pI1), .val (.int pI2), .val (.int pI3), .val (.int pI4), .val (.int (own_pick pI3 pI1)), .val (.int (own_pick pI4 pI2)), .val (.ref bR7_2), .val (.ref bR10_2), .val (.int (1 : Int32)), .unset, .unset] [(.ref bR7_2)] _
    refine XS.aload X16.here hx rfl (hb hby at_57) rfl rfl ?_
    show oS p e below T16 m 59 #[.val (.int pI1), .val (.int pI2), .val (.int pI3), .val (.int pI4), .val (.int (own_pick pI3 pI1)), .val (.int (own_pick pI4 pI2)), .val (.ref bR7_2), .val (.ref bR10_2), .val (.int (1 : Int32)), .unset, .unset] [(.ref bR10_2), (.ref bR7_2)] _
    refine st17.trans ?_
    show oS p e below T17 m 62 #[.val (.int pI1), .val (.int pI2), .val (.int pI3), .val (.int pI4), .val (.int (own_pick pI3 pI1)), .val (.int (own_pick pI4 pI2)), .val (.ref bR7_2), .val (.ref bR10_2), .val (.int (1 : Int32)), .unset, .unset] [(.int (0 : Int32))] _
    refine XS.iload X17.here hx rfl (hb hby at_62) rfl ?_
    show oS p e below T17 m 64 #[.val (.int pI1), .val (.int pI2), .val (.int pI3), .val (.int pI4), .val (.int (own_pick pI3 pI1)), .val (.int (own_pick pI4 pI2)), .val (.ref bR7_2), .val (.ref bR10_2), .val (.int (1 : Int32)), .unset, .unset] [(.int (own_pick pI3 pI1)), (.int (0 : Int32))] _
    refine XS.iload X17.here hx rfl (hb hby at_64) rfl ?_
    show oS p e below T17 m 66 #[.val (.int pI1), .val (.int pI2), .val (.int pI3), .val (.int pI4), .val (.int (own_pick pI3 pI1)), .val (.int (own_pick pI4 pI2)), .val (.ref bR7_2), .val (.ref bR10_2), .val (.int (1 : Int32)), .unset, .unset] [(.int (own_pick pI4 pI2)), (.int (own_pick pI3 pI1)), (.int (0 : Int32))] _
    refine XS.icmpYes X17.here hx rfl (pc0 := 66) (pc' := 73) rfl (hb hby at_66) rfl (feq hst).2 (by decide) (by decide) ?_
    show oS p e below T17 m 73 #[.val (.int pI1), .val (.int pI2), .val (.int pI3), .val (.int pI4), .val (.int (own_pick pI3 pI1)), .val (.int (own_pick pI4 pI2)), .val (.ref bR7_2), .val (.ref bR10_2), .val (.int (1 : Int32)), .unset, .unset] [(.int (0 : Int32))] _
    refine XS.iconst X17.here hx rfl (hb hby at_73) ?_
    show oS p e below T17 m 74 #[.val (.int pI1), .val (.int pI2), .val (.int pI3), .val (.int pI4), .val (.int (own_pick pI3 pI1)), .val (.int (own_pick pI4 pI2)), .val (.ref bR7_2), .val (.ref bR10_2), .val (.int (1 : Int32)), .unset, .unset] [(.int (0 : Int32)), (.int (0 : Int32))] _
    refine XS.icmpNo X17.here hx rfl (hb hby at_74) rfl (teq (by decide : (0 : Int32) = (0 : Int32))).2 ?_
    show oS p e below T17 m 77 #[.val (.int pI1), .val (.int pI2), .val (.int pI3), .val (.int pI4), .val (.int (own_pick pI3 pI1)), .val (.int (own_pick pI4 pI2)), .val (.ref bR7_2), .val (.ref bR10_2), .val (.int (1 : Int32)), .unset, .unset] [] _
    refine XS.iconst X17.here hx rfl (hb hby at_77) ?_
    show oS p e below T17 m 78 #[.val (.int pI1), .val (.int pI2), .val (.int pI3), .val (.int pI4), .val (.int (own_pick pI3 pI1)), .val (.int (own_pick pI4 pI2)), .val (.ref bR7_2), .val (.ref bR10_2), .val (.int (1 : Int32)), .unset, .unset] [(.int (1 : Int32))] _
    refine XS.goto X17.here hx rfl (pc0 := 78) (pc' := 82) rfl (hb hby at_78) (by decide) (by decide) ?_
    show oS p e below T17 m 82 #[.val (.int pI1), .val (.int pI2), .val (.int pI3), .val (.int pI4), .val (.int (own_pick pI3 pI1)), .val (.int (own_pick pI4 pI2)), .val (.ref bR7_2), .val (.ref bR10_2), .val (.int (1 : Int32)), .unset, .unset] [(.int (1 : Int32))] _
    refine XS.istore X17.here hx rfl (hb hby at_82) rfl (l' := #[.val (.int pI1), .val (.int pI2), .val (.int pI3), .val (.int pI4), .val (.int (own_pick pI3 pI1)), .val (.int (own_pick pI4 pI2)), .val (.ref bR7_2), .val (.ref bR10_2), .val (.int (1 : Int32)), .val (.int (1 : Int32)), .unset]) rfl ?_
    show oS p e below T17 m 84 #[.val (.int pI1), .val (.int pI2), .val (.int pI3), .val (.int pI4), .val (.int (own_pick pI3 pI1)), .val (.int (own_pick pI4 pI2)), .val (.ref bR7_2), .val (.ref bR10_2), .val (.int (1 : Int32)), .val (.int (1 : Int32)), .unset] [] _
    refine XS.iload X17.here hx rfl (hb hby at_84) rfl ?_
    show oS p e below T17 m 86 #[.val (.int pI1), .val (.int pI2), .val (.int pI3), .val (.int pI4), .val (.int (own_pick pI3 pI1)), .val (.int (own_pick pI4 pI2)), .val (.ref bR7_2), .val (.ref bR10_2), .val (.int (1 : Int32)), .val (.int (1 : Int32)), .unset] [(.int (own_pick pI3 pI1))] _
    refine X17.ldcInt hx hown (mvT hZ (ow hw 6 rfl)) (g := (mkF m 86 #[.val (.int pI1), .val (.int pI2), .val (.int pI3), .val (.int pI4), .val (.int (own_pick pI3 pI1)), .val (.int (own_pick pI4 pI2)), .val (.ref bR7_2), .val (.ref bR10_2), .val (.int (1 : Int32)), .val (.int (1 : Int32)), .unset] [(.int (own_pick pI3 pI1))])) rfl (hb hby at_86) _ ?_
    show oS p e below T17 m 88 #[.val (.int pI1), .val (.int pI2), .val (.int pI3), .val (.int pI4), .val (.int (own_pick pI3 pI1)), .val (.int (own_pick pI4 pI2)), .val (.ref bR7_2), .val (.ref bR10_2), .val (.int (1 : Int32)), .val (.int (1 : Int32)), .unset] [(.int (86400 : Int32)), (.int (own_pick pI3 pI1))] _
    refine XS.icmpNo X17.here hx rfl (hb hby at_88) rfl (teq hse).2 ?_
    show oS p e below T17 m 91 #[.val (.int pI1), .val (.int pI2), .val (.int pI3), .val (.int pI4), .val (.int (own_pick pI3 pI1)), .val (.int (own_pick pI4 pI2)), .val (.ref bR7_2), .val (.ref bR10_2), .val (.int (1 : Int32)), .val (.int (1 : Int32)), .unset] [] _
    refine XS.aload X17.here hx rfl (hb hby at_91) rfl rfl ?_
    show oS p e below T17 m 93 #[.val (.int pI1), .val (.int pI2), .val (.int pI3), .val (.int pI4), .val (.int (own_pick pI3 pI1)), .val (.int (own_pick pI4 pI2)), .val (.ref bR7_2), .val (.ref bR10_2), .val (.int (1 : Int32)), .val (.int (1 : Int32)), .unset] [(.ref bR7_2)] _
    refine st21 _ ?_
    show oS p e below T21 m 96 #[.val (.int pI1), .val (.int pI2), .val (.int pI3), .val (.int pI4), .val (.int (own_pick pI3 pI1)), .val (.int (own_pick pI4 pI2)), .val (.ref bR7_2), .val (.ref bR10_2), .val (.int (1 : Int32)), .val (.int (1 : Int32)), .unset] [(.ref pR18), (.ref bR7_2)] _
    refine st27.trans ?_
    show oS p e below T27 m 99 #[.val (.int pI1), .val (.int pI2), .val (.int pI3), .val (.int pI4), .val (.int (own_pick pI3 pI1)), .val (.int (own_pick pI4 pI2)), .val (.ref bR7_2), .val (.ref bR10_2), .val (.int (1 : Int32)), .val (.int (1 : Int32)), .unset] [(.int (1 : Int32))] _
    refine XS.ifNo X27.here hx rfl (hb hby at_99) rfl ((if0 _ _).trans (feq (by decide : ¬ ((1 : Int32) = (0 : Int32)))).1) ?_
    show oS p e below T27 m 102 #[.val (.int pI1), .val (.int pI2), .val (.int pI3), .val (.int pI4), .val (.int (own_pick pI3 pI1)), .val (.int (own_pick pI4 pI2)), .val (.ref bR7_2), .val (.ref bR10_2), .val (.int (1 : Int32)), .val (.int (1 : Int32)), .unset] [] _
    refine XS.iconst X27.here hx rfl (hb hby at_102) ?_
    show oS p e below T27 m 103 #[.val (.int pI1), .val (.int pI2), .val (.int pI3), .val (.int pI4), .val (.int (own_pick pI3 pI1)), .val (.int (own_pick pI4 pI2)), .val (.ref bR7_2), .val (.ref bR10_2), .val (.int (1 : Int32)), .val (.int (1 : Int32)), .unset] [(.int (1 : Int32))] _
    refine XS.goto X27.here hx rfl (pc0 := 103) (pc' := 107) rfl (hb hby at_103) (by decide) (by decide) ?_
    show oS p e below T27 m 107 #[.val (.int pI1), .val (.int pI2), .val (.int pI3), .val (.int pI4), .val (.int (own_pick pI3 pI1)), .val (.int (own_pick pI4 pI2)), .val (.ref bR7_2), .val (.ref bR10_2), .val (.int (1 : Int32)), .val (.int (1 : Int32)), .unset] [(.int (1 : Int32))] _
    refine XS.istore X27.here hx rfl (hb hby at_107) rfl (l' := #[.val (.int pI1), .val (.int pI2), .val (.int pI3), .val (.int pI4), .val (.int (own_pick pI3 pI1)), .val (.int (own_pick pI4 pI2)), .val (.ref bR7_2), .val (.ref bR10_2), .val (.int (1 : Int32)), .val (.int (1 : Int32)), .val (.int (1 : Int32))]) rfl ?_
    show oS p e below T27 m 109 #[.val (.int pI1), .val (.int pI2), .val (.int pI3), .val (.int pI4), .val (.int (own_pick pI3 pI1)), .val (.int (own_pick pI4 pI2)), .val (.ref bR7_2), .val (.ref bR10_2), .val (.int (1 : Int32)), .val (.int (1 : Int32)), .val (.int (1 : Int32))] [] _
    refine XS.iload X27.here hx rfl (hb hby at_109) rfl ?_
    show oS p e below T27 m 111 #[.val (.int pI1), .val (.int pI2), .val (.int pI3), .val (.int pI4), .val (.int (own_pick pI3 pI1)), .val (.int (own_pick pI4 pI2)), .val (.ref bR7_2), .val (.ref bR10_2), .val (.int (1 : Int32)), .val (.int (1 : Int32)), .val (.int (1 : Int32))] [(.int (1 : Int32))] _
    refine XS.ifNo X27.here hx rfl (hb hby at_111) rfl ((if0 _ _).trans (feq (by decide : ¬ ((1 : Int32) = (0 : Int32)))).1) ?_
    show oS p e below T27 m 114 #[.val (.int pI1), .val (.int pI2), .val (.int pI3), .val (.int pI4), .val (.int (own_pick pI3 pI1)), .val (.int (own_pick pI4 pI2)), .val (.ref bR7_2), .val (.ref bR10_2), .val (.int (1 : Int32)), .val (.int (1 : Int32)), .val (.int (1 : Int32))] [] _
    refine XS.iload X27.here hx rfl (hb hby at_114) rfl ?_
    show oS p e below T27 m 116 #[.val (.int pI1), .val (.int pI2), .val (.int pI3), .val (.int pI4), .val (.int (own_pick pI3 pI1)), .val (.int (own_pick pI4 pI2)), .val (.ref bR7_2), .val (.ref bR10_2), .val (.int (1 : Int32)), .val (.int (1 : Int32)), .val (.int (1 : Int32))] [(.int (1 : Int32))] _
    refine XS.ifNo X27.here hx rfl (hb hby at_116) rfl ((if0 _ _).trans (feq (by decide : ¬ ((1 : Int32) = (0 : Int32)))).1) ?_
    show oS p e below T27 m 119 #[.val (.int pI1), .val (.int pI2), .val (.int pI3), .val (.int pI4), .val (.int (own_pick pI3 pI1)), .val (.int (own_pick pI4 pI2)), .val (.ref bR7_2), .val (.ref bR10_2), .val (.int (1 : Int32)), .val (.int (1 : Int32)), .val (.int (1 : Int32))] [] _
    refine XS.iload X27.here hx rfl (hb hby at_119) rfl ?_
    show oS p e below T27 m 121 #[.val (.int pI1), .val (.int pI2), .val (.int pI3), .val (.int pI4), .val (.int (own_pick pI3 pI1)), .val (.int (own_pick pI4 pI2)), .val (.ref bR7_2), .val (.ref bR10_2), .val (.int (1 : Int32)), .val (.int (1 : Int32)), .val (.int (1 : Int32))] [(.int (1 : Int32))] _
    refine XS.ifNo X27.here hx rfl (hb hby at_121) rfl ((if0 _ _).trans (feq (by decide : ¬ ((1 : Int32) = (0 : Int32)))).1) ?_
    show oS p e below T27 m 124 #[.val (.int pI1), .val (.int pI2), .val (.int pI3), .val (.int pI4), .val (.int (own_pick pI3 pI1)), .val (.int (own_pick pI4 pI2)), .val (.ref bR7_2), .val (.ref bR10_2), .val (.int (1 : Int32)), .val (.int (1 : Int32)), .val (.int (1 : Int32))] [] _
    refine XS.iconst X27.here hx rfl (hb hby at_124) ?_
    show oS p e below T27 m 125 #[.val (.int pI1), .val (.int pI2), .val (.int pI3), .val (.int pI4), .val (.int (own_pick pI3 pI1)), .val (.int (own_pick pI4 pI2)), .val (.ref bR7_2), .val (.ref bR10_2), .val (.int (1 : Int32)), .val (.int (1 : Int32)), .val (.int (1 : Int32))] [(.int (1 : Int32))] _
    refine XS.goto X27.here hx rfl (pc0 := 125) (pc' := 129) rfl (hb hby at_125) (by decide) (by decide) ?_
    show oS p e below T27 m 129 #[.val (.int pI1), .val (.int pI2), .val (.int pI3), .val (.int pI4), .val (.int (own_pick pI3 pI1)), .val (.int (own_pick pI4 pI2)), .val (.ref bR7_2), .val (.ref bR10_2), .val (.int (1 : Int32)), .val (.int (1 : Int32)), .val (.int (1 : Int32))] [(.int (1 : Int32))] _
    exact retN X27 hx (t := .boolean) Bd.returns (by simp) (hb hby at_129) hr
  · show Qlaw01 Z pI1 pI2 pI3 pI4 pR18 pI24 h0 n0 _ T27.heap _
    rw [e27]
    exact ⟨rfl, N27⟩
theorem ef_law00 (m : MethodId) (pI1 : Int32) (pI2 : Int32) (pI3 : Int32) (pI4 : Int32) : entryFrame m #[(.int pI1), (.int pI2), (.int pI3), (.int pI4)] maxLocals = mkF m 0 #[.val (.int pI1), .val (.int pI2), .val (.int pI3), .val (.int pI4), .unset, .unset, .unset, .unset, .unset, .unset, .unset] [] := by first | (simp [entryFrame, mkF, argsToLocals, Value.category, maxLocals]; done) | rfl
def Qlaw00 (Z : State) (pI1 : Int32) (pI2 : Int32) (pI3 : Int32) (pI4 : Int32) (h0 : Heap) (n0 : Nat) (v : Option Value) (h : Heap) (L : List Loc) : Prop := v = some (.int (1 : Int32)) ∧ Fr n0 L
set_option maxRecDepth 65536 in
set_option maxHeartbeats 40000000 in
theorem law00 (l : Launch) (Z : State) (a0 : Array Value) (hw : ∀ d ∈ tables_1, d.before a0 Z = true) (ws : List Jvm.Cond) (pI1 : Int32) (pI2 : Int32) (pI3 : Int32) (pI4 : Int32) (h0 : Heap) (n0 : Nat) (Z0 : n0 ≤ h0.size) (hst : ¬ ((own_pick pI3 pI1) = (own_pick pI4 pI2))) (hse : ¬ ((own_pick pI3 pI1) = (86400 : Int32))) (hc16 : ¬ ((own_pick pI3 pI1) < (0 : Int32))) (hc16' : ¬ ((86400 : Int32) < (own_pick pI3 pI1))) (hc23 : ¬ ((own_pick pI4 pI2) < (0 : Int32))) (hc23' : ¬ ((86400 : Int32) < (own_pick pI4 pI2))) :
    MetFree l x (head1 (Jvm.Cond.code x code maxLocals ret :: ws) room_1) (fun a U => a = #[(.int pI1), (.int pI2), (.int pI3), (.int pI4)] ∧ Z.Warmed39 U.vm ∧ U.heap = h0) (fun _ _ _ _ _ => True) (fun _ U o U' => ∃ v L, o = .returned v ∧ Qlaw00 Z pI1 pI2 pI3 pI4 h0 n0 v U'.heap L ∧ FrameEnd U o U' L room_1.cells room_1.slots) := by
  refine MetFree.of_bodySF (plainFor_of_name pn_0) hisR ?_
  intro p e s m args below meth c s₁ Bd hml0 hP hK
  obtain ⟨rfl, hZ, hh⟩ := hP
  have hx := Bd.exec
  have hby := Bd.bytes
  have hml : c.maxLocals = 11 := hml0
  have hown : s.vm.findClass "com/example/watchful_junction/watchfuljunction/ClockTimeOfSecondOfDayPinLaw" = some m.cls := findClass_of_methodNamed Bd.named
  have hnm := (name_of_methodNamed Bd.named Bd.method).1
  have X0 : Stand p l e room_1 s m #[(.int pI1), (.int pI2), (.int pI3), (.int pI4)] below meth c s₁ [] 0 0 := Stand.of_body Bd
  have e0 : s₁.heap = h0 := by rw [← hh, Bd.state]; rfl
  have N0 := Fr.nil n0
  have pre0 : ∀ t, Steps p.tables e below (s₁.setTop (mkF m 0 #[.val (.int pI1), .val (.int pI2), .val (.int pI3), .val (.int pI4), .unset, .unset, .unset, .unset, .unset, .unset, .unset] [])) t → Steps p.tables e below (s₁.setTop (entryFrame m #[(.int pI1), (.int pI2), (.int pI3), (.int pI4)] maxLocals)) t := fun t k => castTop (ef_law00 m pI1 pI2 pI3 pI4) k
  obtain ⟨_, _, ⟨T5, L5, k5, n5⟩, -, X5, ⟨Lc5, hQ5, l5, y5, z5⟩, st5⟩ := Jvm.LawKit.callS X0 hx (y := yN0) hown (mvT hZ (ow hw 0 rfl)) (mvT hZ (ow hw 1 rfl)) (mvT hZ (ow hw 2 rfl)) (mvT hZ (ow hw 3 rfl)) (by decide) (backOf (W := 0) (pick l Z a0 hw [] pI3 pI1 h0 n0 Z0 ) hZ (ow hw 3 rfl) (ow hw 2 rfl) (by decide) (by decide)) (g := (mkF m 2 #[.val (.int pI1), .val (.int pI2), .val (.int pI3), .val (.int pI4), .unset, .unset, .unset, .unset, .unset, .unset, .unset] [(.int pI1), (.int pI3)])) rfl (by rw [hml]; rfl) (argsL := [(.int pI3), (.int pI1)]) (rest := []) (lenOf pd_1 rfl) rfl (by show 2 * 0 + _ ≤ _; exact Nat.le_of_eq rfl) (hb hby at_2) (fun _ _ => ⟨rfl, e0, (by decide : 0 + 0 ≤ _), (by decide : 0 + 0 ≤ _)⟩)
  dsimp only [Pt.U, Pt.locs, Pt.cells, Pt.slots] at X5 l5 y5 z5 st5 hQ5
  subst l5 y5 z5
  obtain ⟨rfl, Nq5, e5⟩ := hQ5
  have N5 := Fr.app N0 Nq5
  obtain ⟨_, _, ⟨T6, L6, k6, n6⟩, -, X6, ⟨Lc6, hQ6, l6, y6, z6⟩, st6⟩ := Jvm.LawKit.callS X5 hx (y := yN0) hown (mvT hZ (ow hw 0 rfl)) (mvT hZ (ow hw 1 rfl)) (mvT hZ (ow hw 2 rfl)) (mvT hZ (ow hw 3 rfl)) (by decide) (backOf (W := 0) (pick l Z a0 hw [] pI4 pI2 h0 n0 Z0 ) hZ (ow hw 3 rfl) (ow hw 2 rfl) (by decide) (by decide)) (g := (mkF m 9 #[.val (.int pI1), .val (.int pI2), .val (.int pI3), .val (.int pI4), .val (.int (own_pick pI3 pI1)), .unset, .unset, .unset, .unset, .unset, .unset] [(.int pI2), (.int pI4)])) rfl (by rw [hml]; rfl) (argsL := [(.int pI4), (.int pI2)]) (rest := []) (lenOf pd_1 rfl) rfl (by show 2 * 0 + _ ≤ _; exact Nat.le_of_eq rfl) (hb hby at_9) (fun _ _ => ⟨rfl, e5, (by decide : 0 + 0 ≤ _), (by decide : 0 + 0 ≤ _)⟩)
  dsimp only [Pt.U, Pt.locs, Pt.cells, Pt.slots] at X6 l6 y6 z6 st6 hQ6
  subst l6 y6 z6
  obtain ⟨rfl, Nq6, e6⟩ := hQ6
  have N6 := Fr.app N5 Nq6
  obtain ⟨_, _, ⟨T7, L7, k7, n7⟩, -, X7, ⟨Lc7, hQ7, l7, y7, z7⟩, st7⟩ := Jvm.LawKit.callS X6 hx (y := yN2) hown (mvT hZ (ow hw 7 rfl)) (mvT hZ (ow hw 8 rfl)) (mvT hZ (ow hw 9 rfl)) (mvT hZ (ow hw 10 rfl)) (by decide) (backOf (W := 0) (ofs l Z a0 hw [] (own_pick pI3 pI1) h0 n0 Z0 hc16 hc16') hZ (ow hw 10 rfl) (ow hw 9 rfl) (by decide) (by decide)) (g := (mkF m 16 #[.val (.int pI1), .val (.int pI2), .val (.int pI3), .val (.int pI4), .val (.int (own_pick pI3 pI1)), .val (.int (own_pick pI4 pI2)), .unset, .unset, .unset, .unset, .unset] [(.int (own_pick pI3 pI1))])) rfl (by rw [hml]; rfl) (argsL := [(.int (own_pick pI3 pI1))]) (rest := []) (lenOf pd_2 rfl) rfl (by show 2 * 0 + _ ≤ _; exact Nat.le_of_eq rfl) (hb hby at_16) (fun _ _ => ⟨rfl, e6, (by decide : 0 + 1 ≤ _), (by decide : 0 + 1 ≤ _)⟩)
  dsimp only [Pt.U, Pt.locs, Pt.cells, Pt.slots] at X7 l7 y7 z7 st7 hQ7
  subst l7 y7 z7
  obtain ⟨bR7_2, rfl, Nq7, Kq7, sz7_2, x7_0, x7_1⟩ := hQ7
  have N7 := Fr.app N6 Nq7
  have Z9 : n0 ≤ T7.heap.size := (Nat.le_trans Z0 Kq7.1)
  obtain ⟨_, _, ⟨T10, L10, k10, n10⟩, -, X10, ⟨Lc10, hQ10, l10, y10, z10⟩, st10⟩ := Jvm.LawKit.callS X7 hx (y := yN2) hown (mvT hZ (ow hw 7 rfl)) (mvT hZ (ow hw 8 rfl)) (mvT hZ (ow hw 9 rfl)) (mvT hZ (ow hw 10 rfl)) (by decide) (backOf (W := 0) (ofs l Z a0 hw [] (own_pick pI4 pI2) T7.heap n0 Z9 hc23 hc23') hZ (ow hw 10 rfl) (ow hw 9 rfl) (by decide) (by decide)) (g := (mkF m 23 #[.val (.int pI1), .val (.int pI2), .val (.int pI3), .val (.int pI4), .val (.int (own_pick pI3 pI1)), .val (.int (own_pick pI4 pI2)), .val (.ref bR7_2), .unset, .unset, .unset, .unset] [(.int (own_pick pI4 pI2))])) rfl (by rw [hml]; rfl) (argsL := [(.int (own_pick pI4 pI2))]) (rest := []) (lenOf pd_2 rfl) rfl (by show 2 * 0 + _ ≤ _; exact Nat.le_of_eq rfl) (hb hby at_23) (fun _ _ => ⟨rfl, rfl, (by decide : 1 + 1 ≤ _), (by decide : 1 + 1 ≤ _)⟩)
  dsimp only [Pt.U, Pt.locs, Pt.cells, Pt.slots] at X10 l10 y10 z10 st10 hQ10
  subst l10 y10 z10
  obtain ⟨bR10_2, rfl, Nq10, Kq10, sz10_2, x10_0, x10_1⟩ := hQ10
  have N10 := Fr.app N7 Nq10
  have Z12 : n0 ≤ T10.heap.size := (Nat.le_trans Z9 Kq10.1)
  have c13 : Fld Z T10.heap bR7_2 "com/example/watchful_junction/watchfuljunction/ClockTime" "secondOfDay" "I" (.int (own_pick pI3 pI1)) := x7_1.keep Kq10 nin0
  have c15 : Exa Z T10.heap bR7_2 "com/example/watchful_junction/watchfuljunction/ClockTime" := x7_0.keep Kq10
  obtain ⟨cq14, kq14, q14a, q14b, q14c⟩ := isOf hZ rfl c15
  obtain ⟨_, _, ⟨T14, L14, k14, n14⟩, -, X14, ⟨Lc14, hQ14, l14, y14, z14⟩, st14⟩ := X10.virtualBack hx (y := yN3) (z := yN3) hown (mvT hZ (ow hw 22 rfl)) (mvT hZ (ow hw 23 rfl)) (notFace_of_selects (args := #[]) (mvT hZ (ow hw 25 rfl))) (mvT hZ (ow hw 25 rfl)) (mvT hZ (ow hw 24 rfl)) (by decide) (backOf (W := 0) (sod l Z a0 hw [] bR7_2 (own_pick pI3 pI1) T10.heap n0 Z12 c13) hZ (ow hw 26 rfl) (ow hw 9 rfl) (by decide) (by decide)) q14a q14c (g := (mkF m 30 #[.val (.int pI1), .val (.int pI2), .val (.int pI3), .val (.int pI4), .val (.int (own_pick pI3 pI1)), .val (.int (own_pick pI4 pI2)), .val (.ref bR7_2), .val (.ref bR10_2), .unset, .unset, .unset] [(.ref bR7_2)])) rfl (by rw [hml]; rfl) (Steps.refl _) (argsL := []) (rest := []) (lenOf pd_3 rfl) rfl (by show 2 * 0 + _ ≤ _; exact Nat.le_of_eq rfl) (hb hby at_30) (fun _ _ => ⟨rfl, rfl, (by decide : 2 + 0 ≤ _), (by decide : 2 + 0 ≤ _)⟩)
  dsimp only [Pt.U, Pt.locs, Pt.cells, Pt.slots] at X14 l14 y14 z14 st14 hQ14
  subst l14 y14 z14
  obtain ⟨rfl, Nq14, e14⟩ := hQ14
  have N14 := Fr.app N10 Nq14
  obtain ⟨cq16, kq16, q16a, q16b, q16c⟩ := isOf hZ e14 x10_0
  obtain ⟨_, _, ⟨T16, L16, k16, n16⟩, -, X16, ⟨Lc16, hQ16, l16, y16, z16⟩, st16⟩ := X14.virtualBack hx (y := yN3) (z := yN3) hown (mvT hZ (ow hw 22 rfl)) (mvT hZ (ow hw 23 rfl)) (notFace_of_selects (args := #[]) (mvT hZ (ow hw 25 rfl))) (mvT hZ (ow hw 25 rfl)) (mvT hZ (ow hw 24 rfl)) (by decide) (backOf (W := 0) (sod l Z a0 hw [] bR10_2 (own_pick pI4 pI2) T10.heap n0 Z12 x10_1) hZ (ow hw 26 rfl) (ow hw 9 rfl) (by decide) (by decide)) q16a q16c (g := (mkF m 40 #[.val (.int pI1), .val (.int pI2), .val (.int pI3), .val (.int pI4), .val (.int (own_pick pI3 pI1)), .val (.int (own_pick pI4 pI2)), .val (.ref bR7_2), .val (.ref bR10_2), .unset, .unset, .unset] [(.ref bR10_2)])) rfl (by rw [hml]; rfl) (Steps.refl _) (argsL := []) (rest := []) (lenOf pd_3 rfl) rfl (by show 2 * 0 + _ ≤ _; exact Nat.le_of_eq rfl) (hb hby at_40) (fun _ _ => ⟨rfl, e14, (by decide : 2 + 0 ≤ _), (by decide : 2 + 0 ≤ _)⟩)
  dsimp only [Pt.U, Pt.locs, Pt.cells, Pt.slots] at X16 l16 y16 z16 st16 hQ16
  subst l16 y16 z16
  obtain ⟨rfl, Nq16, e16⟩ := hQ16
  have N16 := Fr.app N14 Nq16
  obtain ⟨cq17, kq17, q17a, q17b, q17c⟩ := isOf hZ e16 c15
  obtain ⟨_, _, ⟨T17, L17, k17, n17⟩, -, X17, ⟨Lc17, hQ17, l17, y17, z17⟩, st17⟩ := X16.virtualBack hx (y := yN4) (z := yN4) hown (mvT hZ (ow hw 27 rfl)) (mvT hZ (ow hw 28 rfl)) (notFace_of_selects (args := #[]) (mvT hZ (ow hw 30 rfl))) (mvT hZ (ow hw 30 rfl)) (mvT hZ (ow hw 29 rfl)) (by decide) (backOf (W := 0) (eqN l Z a0 hw [] bR7_2 bR10_2 (own_pick pI4 pI2) (own_pick pI3 pI1) T10.heap n0 Z12 x10_0 x10_1 c13 (fun q => hst q.symm)) hZ (ow hw 31 rfl) (ow hw 9 rfl) (by decide) (by decide)) q17a q17c (g := (mkF m 59 #[.val (.int pI1), .val (.int pI2), .val (.int pI3), .val (.int pI4), .val (.int (own_pick pI3 pI1)), .val (.int (own_pick pI4 pI2)), .val (.ref bR7_2), .val (.ref bR10_2), .val (.int (1 : Int32)), .unset, .unset] [(.ref bR10_2), (.ref bR7_2)])) rfl (by rw [hml]; rfl) (Steps.refl _) (argsL := [(.ref bR10_2)]) (rest := []) (lenOf pd_4 rfl) rfl (by show 2 * 0 + _ ≤ _; exact Nat.le_of_eq rfl) (hb hby at_59) (fun _ _ => ⟨rfl, e16, (by decide : 2 + 0 ≤ _), (by decide : 2 + 0 ≤ _)⟩)
  dsimp only [Pt.U, Pt.locs, Pt.cells, Pt.slots] at X17 l17 y17 z17 st17 hQ17
  subst l17 y17 z17
  obtain ⟨rfl, Nq17, e17⟩ := hQ17
  have N17 := Fr.app N16 Nq17
  obtain ⟨fs, hr, hrun, hended, hW, hsame⟩ := X17.leave (v := some (.int (1 : Int32))) (fun h => by rw [Bd.returns] at h; cases h)
  refine ⟨_, _, pre0 _ ?_, hrun, hended, _, _, rfl, ?_, ⟨_, rfl⟩, hW, hsame.mono (by decide) (by decide)⟩
  · show oS p e below s₁ m 0 #[.val (.int pI1), .val (.int pI2), .val (.int pI3), .val (.int pI4), .unset, .unset, .unset, .unset, .unset, .unset, .unset] [] _
    refine XS.iloadN X0.here hx rfl (hb hby at_0) rfl ?_
    show oS p e below s₁ m 1 #[.val (.int pI1), .val (.int pI2), .val (.int pI3), .val (.int pI4), .unset, .unset, .unset, .unset, .unset, .unset, .unset] [(.int pI3)] _
    refine XS.iloadN X0.here hx rfl (hb hby at_1) rfl ?_
    show oS p e below s₁ m 2 #[.val (.int pI1), .val (.int pI2), .val (.int pI3), .val (.int pI4), .unset, .unset, .unset, .unset, .unset, .unset, .unset] [(.int pI1), (.int pI3)] _
    refine st5 _ ?_
    show oS p e below T5 m 5 #[.val (.int pI1), .val (.int pI2), .val (.int pI3), .val (.int pI4), .unset, .unset, .unset, .unset, .unset, .unset, .unset] [(.int (own_pick pI3 pI1))] _
    refine XS.istore X5.here hx rfl (hb hby at_5) rfl (l' := #[.val (.int pI1), .val (.int pI2), .val (.int pI3), .val (.int pI4), .val (.int (own_pick pI3 pI1)), .unset, .unset, .unset, .unset, .unset, .unset]) rfl ?_
    show oS p e below T5 m 7 #[.val (.int pI1), .val (.int pI2), .val (.int pI3), .val (.int pI4), .val (.int (own_pick pI3 pI1)), .unset, .unset, .unset, .unset, .unset, .unset] [] _
    refine XS.iloadN X5.here hx rfl (hb hby at_7) rfl ?_
    show oS p e below T5 m 8 #[.val (.int pI1), .val (.int pI2), .val (.int pI3), .val (.int pI4), .val (.int (own_pick pI3 pI1)), .unset, .unset, .unset, .unset, .unset, .unset] [(.int pI4)] _
    refine XS.iloadN X5.here hx rfl (hb hby at_8) rfl ?_
    show oS p e below T5 m 9 #[.val (.int pI1), .val (.int pI2), .val (.int pI3), .val (.int pI4), .val (.int (own_pick pI3 pI1)), .unset, .unset, .unset, .unset, .unset, .unset] [(.int pI2), (.int pI4)] _
    refine st6 _ ?_
    show oS p e below T6 m 12 #[.val (.int pI1), .val (.int pI2), .val (.int pI3), .val (.int pI4), .val (.int (own_pick pI3 pI1)), .unset, .unset, .unset, .unset, .unset, .unset] [(.int (own_pick pI4 pI2))] _
    refine XS.istore X6.here hx rfl (hb hby at_12) rfl (l' := #[.val (.int pI1), .val (.int pI2), .val (.int pI3), .val (.int pI4), .val (.int (own_pick pI3 pI1)), .val (.int (own_pick pI4 pI2)), .unset, .unset, .unset, .unset, .unset]) rfl ?_
    show oS p e below T6 m 14 #[.val (.int pI1), .val (.int pI2), .val (.int pI3), .val (.int pI4), .val (.int (own_pick pI3 pI1)), .val (.int (own_pick pI4 pI2)), .unset, .unset, .unset, .unset, .unset] [] _
    refine XS.iload X6.here hx rfl (hb hby at_14) rfl ?_
    show oS p e below T6 m 16 #[.val (.int pI1), .val (.int pI2), .val (.int pI3), .val (.int pI4), .val (.int (own_pick pI3 pI1)), .val (.int (own_pick pI4 pI2)), .unset, .unset, .unset, .unset, .unset] [(.int (own_pick pI3 pI1))] _
    refine st7 _ ?_
    show oS p e below T7 m 19 #[.val (.int pI1), .val (.int pI2), .val (.int pI3), .val (.int pI4), .val (.int (own_pick pI3 pI1)), .val (.int (own_pick pI4 pI2)), .unset, .unset, .unset, .unset, .unset] [(.ref bR7_2)] _
    refine XS.astore X7.here hx rfl (hb hby at_19) rfl rfl (l' := #[.val (.int pI1), .val (.int pI2), .val (.int pI3), .val (.int pI4), .val (.int (own_pick pI3 pI1)), .val (.int (own_pick pI4 pI2)), .val (.ref bR7_2), .unset, .unset, .unset, .unset]) rfl ?_
    show oS p e below T7 m 21 #[.val (.int pI1), .val (.int pI2), .val (.int pI3), .val (.int pI4), .val (.int (own_pick pI3 pI1)), .val (.int (own_pick pI4 pI2)), .val (.ref bR7_2), .unset, .unset, .unset, .unset] [] _
    refine XS.iload X7.here hx rfl (hb hby at_21) rfl ?_
    show oS p e below T7 m 23 #[.val (.int pI1), .val (.int pI2), .val (.int pI3), .val (.int pI4), .val (.int (own_pick pI3 pI1)), .val (.int (own_pick pI4 pI2)), .val (.ref bR7_2), .unset, .unset, .unset, .unset] [(.int (own_pick pI4 pI2))] _
    refine st10 _ ?_
    show oS p e below T10 m 26 #[.val (.int pI1), .val (.int pI2), .val (.int pI3), .val (.int pI4), .val (.int (own_pick pI3 pI1)), .val (.int (own_pick pI4 pI2)), .val (.ref bR7_2), .unset, .unset, .unset, .unset] [(.ref bR10_2)] _
    refine XS.astore X10.here hx rfl (hb hby at_26) rfl rfl (l' := #[.val (.int pI1), .val (.int pI2), .val (.int pI3), .val (.int pI4), .val (.int (own_pick pI3 pI1)), .val (.int (own_pick pI4 pI2)), .val (.ref bR7_2), .val (.ref bR10_2), .unset, .unset, .unset]) rfl ?_
    show oS p e below T10 m 28 #[.val (.int pI1), .val (.int pI2), .val (.int pI3), .val (.int pI4), .val (.int (own_pick pI3 pI1)), .val (.int (own_pick pI4 pI2)), .val (.ref bR7_2), .val (.ref bR10_2), .unset, .unset, .unset] [] _
    refine XS.aload X10.here hx rfl (hb hby at_28) rfl rfl ?_
    show oS p e below T10 m 30 #[.val (.int pI1), .val (.int pI2), .val (.int pI3), .val (.int pI4), .val (.int (own_pick pI3 pI1)), .val (.int (own_pick pI4 pI2)), .val (.ref bR7_2), .val (.ref bR10_2), .unset, .unset, .unset] [(.ref bR7_2)] _
    refine st14.trans ?_
    show oS p e below T14 m 33 #[.val (.int pI1), .val (.int pI2), .val (.int pI3), .val (.int pI4), .val (.int (own_pick pI3 pI1)), .val (.int (own_pick pI4 pI2)), .val (.ref bR7_2), .val (.ref bR10_2), .unset, .unset, .unset] [(.int (own_pick pI3 pI1))] _
    refine XS.iload X14.here hx rfl (hb hby at_33) rfl ?_
    show oS p e below T14 m 35 #[.val (.int pI1), .val (.int pI2), .val (.int pI3), .val (.int pI4), .val (.int (own_pick pI3 pI1)), .val (.int (own_pick pI4 pI2)), .val (.ref bR7_2), .val (.ref bR10_2), .unset, .unset, .unset] [(.int (own_pick pI3 pI1)), (.int (own_pick pI3 pI1))] _
    refine XS.icmpNo X14.here hx rfl (hb hby at_35) rfl (teq (rfl : (own_pick pI3 pI1) = (own_pick pI3 pI1))).2 ?_
    show oS p e below T14 m 38 #[.val (.int pI1), .val (.int pI2), .val (.int pI3), .val (.int pI4), .val (.int (own_pick pI3 pI1)), .val (.int (own_pick pI4 pI2)), .val (.ref bR7_2), .val (.ref bR10_2), .unset, .unset, .unset] [] _
    refine XS.aload X14.here hx rfl (hb hby at_38) rfl rfl ?_
    show oS p e below T14 m 40 #[.val (.int pI1), .val (.int pI2), .val (.int pI3), .val (.int pI4), .val (.int (own_pick pI3 pI1)), .val (.int (own_pick pI4 pI2)), .val (.ref bR7_2), .val (.ref bR10_2), .unset, .unset, .unset] [(.ref bR10_2)] _
    refine st16.trans ?_
    show oS p e below T16 m 43 #[.val (.int pI1), .val (.int pI2), .val (.int pI3), .val (.int pI4), .val (.int (own_pick pI3 pI1)), .val (.int (own_pick pI4 pI2)), .val (.ref bR7_2), .val (.ref bR10_2), .unset, .unset, .unset] [(.int (own_pick pI4 pI2))] _
    refine XS.iload X16.here hx rfl (hb hby at_43) rfl ?_
    show oS p e below T16 m 45 #[.val (.int pI1), .val (.int pI2), .val (.int pI3), .val (.int pI4), .val (.int (own_pick pI3 pI1)), .val (.int (own_pick pI4 pI2)), .val (.ref bR7_2), .val (.ref bR10_2), .unset, .unset, .unset] [(.int (own_pick pI4 pI2)), (.int (own_pick pI4 pI2))] _
    refine XS.icmpNo X16.here hx rfl (hb hby at_45) rfl (teq (rfl : (own_pick pI4 pI2) = (own_pick pI4 pI2))).2 ?_
    show oS p e below T16 m 48 #[.val (.int pI1), .val (.int pI2), .val (.int pI3), .val (.int pI4), .val (.int (own_pick pI3 pI1)), .val (.int (own_pick pI4 pI2)), .val (.ref bR7_2), .val (.ref bR10_2), .unset, .unset, .unset] [] _
    refine XS.iconst X16.here hx rfl (hb hby at_48) ?_
    show oS p e below T16 m 49 #[.val (.int pI1), .val (.int pI2), .val (.int pI3), .val (.int pI4), .val (.int (own_pick pI3 pI1)), .val (.int (own_pick pI4 pI2)), .val (.ref bR7_2), .val (.ref bR10_2), .unset, .unset, .unset] [(.int (1 : Int32))] _
    refine XS.goto X16.here hx rfl (pc0 := 49) (pc' := 53) rfl (hb hby at_49) (by decide) (by decide) ?_
    show oS p e below T16 m 53 #[.val (.int pI1), .val (.int pI2), .val (.int pI3), .val (.int pI4), .val (.int (own_pick pI3 pI1)), .val (.int (own_pick pI4 pI2)), .val (.ref bR7_2), .val (.ref bR10_2), .unset, .unset, .unset] [(.int (1 : Int32))] _
    refine XS.istore X16.here hx rfl (hb hby at_53) rfl (l' := #[.val (.int pI1), .val (.int pI2), .val (.int pI3), .val (.int pI4), .val (.int (own_pick pI3 pI1)), .val (.int (own_pick pI4 pI2)), .val (.ref bR7_2), .val (.ref bR10_2), .val (.int (1 : Int32)), .unset, .unset]) rfl ?_
    show oS p e below T16 m 55 #[.val (.int pI1), .val (.int pI2), .val (.int pI3), .val (.int pI4), .val (.int (own_pick pI3 pI1)), .val (.int (own_pick pI4 pI2)), .val (.ref bR7_2), .val (.ref bR10_2), .val (.int (1 : Int32)), .unset, .unset] [] _
    refine XS.aload X16.here hx rfl (hb hby at_55) rfl rfl ?_
    show oS p e below T16 m 57 #[.val (.int pI1), .val (.int pI2), .val (.int pI3), .val (.int pI4), .val (.int (own_pick pI3 pI1)), .val (.int (own_pick pI4 pI2)), .val (.ref bR7_2), .val (.ref bR10_2), .val (.int (1 : Int32)), .unset, .unset] [(.ref bR7_2)] _
    refine XS.aload X16.here hx rfl (hb hby at_57) rfl rfl ?_
    show oS p e below T16 m 59 #[.val (.int pI1), .val (.int pI2), .val (.int pI3), .val (.int pI4), .val (.int (own_pick pI3 pI1)), .val (.int (own_pick pI4 pI2)), .val (.ref bR7_2), .val (.ref bR10_2), .val (.int (1 : Int32)), .unset, .unset] [(.ref bR10_2), (.ref bR7_2)] _
    refine st17.trans ?_
    show oS p e below T17 m 62 #[.val (.int pI1), .val (.int pI2), .val (.int pI3), .val (.int pI4), .val (.int (own_pick pI3 pI1)), .val (.int (own_pick pI4 pI2)), .val (.ref bR7_2), .val (.ref bR10_2), .val (.int (1 : Int32)), .unset, .unset] [(.int (0 : Int32))] _
    refine XS.iload X17.here hx rfl (hb hby at_62) rfl ?_
    show oS p e below T17 m 64 #[.val (.int pI1), .val (.int pI2), .val (.int pI3), .val (.int pI4), .val (.int (own_pick pI3 pI1)), .val (.int (own_pick pI4 pI2)), .val (.ref bR7_2), .val (.ref bR10_2), .val (.int (1 : Int32)), .unset, .unset] [(.int (own_pick pI3 pI1)), (.int (0 : Int32))] _
    refine XS.iload X17.here hx rfl (hb hby at_64) rfl ?_
    show oS p e below T17 m 66 #[.val (.int pI1), .val (.int pI2), .val (.int pI3), .val (.int pI4), .val (.int (own_pick pI3 pI1)), .val (.int (own_pick pI4 pI2)), .val (.ref bR7_2), .val (.ref bR10_2), .val (.int (1 : Int32)), .unset, .unset] [(.int (own_pick pI4 pI2)), (.int (own_pick pI3 pI1)), (.int (0 : Int32))] _
    refine XS.icmpYes X17.here hx rfl (pc0 := 66) (pc' := 73) rfl (hb hby at_66) rfl (feq hst).2 (by decide) (by decide) ?_
    show oS p e below T17 m 73 #[.val (.int pI1), .val (.int pI2), .val (.int pI3), .val (.int pI4), .val (.int (own_pick pI3 pI1)), .val (.int (own_pick pI4 pI2)), .val (.ref bR7_2), .val (.ref bR10_2), .val (.int (1 : Int32)), .unset, .unset] [(.int (0 : Int32))] _
    refine XS.iconst X17.here hx rfl (hb hby at_73) ?_
    show oS p e below T17 m 74 #[.val (.int pI1), .val (.int pI2), .val (.int pI3), .val (.int pI4), .val (.int (own_pick pI3 pI1)), .val (.int (own_pick pI4 pI2)), .val (.ref bR7_2), .val (.ref bR10_2), .val (.int (1 : Int32)), .unset, .unset] [(.int (0 : Int32)), (.int (0 : Int32))] _
    refine XS.icmpNo X17.here hx rfl (hb hby at_74) rfl (teq (by decide : (0 : Int32) = (0 : Int32))).2 ?_
    show oS p e below T17 m 77 #[.val (.int pI1), .val (.int pI2), .val (.int pI3), .val (.int pI4), .val (.int (own_pick pI3 pI1)), .val (.int (own_pick pI4 pI2)), .val (.ref bR7_2), .val (.ref bR10_2), .val (.int (1 : Int32)), .unset, .unset] [] _
    refine XS.iconst X17.here hx rfl (hb hby at_77) ?_
    show oS p e below T17 m 78 #[.val (.int pI1), .val (.int pI2), .val (.int pI3), .val (.int pI4), .val (.int (own_pick pI3 pI1)), .val (.int (own_pick pI4 pI2)), .val (.ref bR7_2), .val (.ref bR10_2), .val (.int (1 : Int32)), .unset, .unset] [(.int (1 : Int32))] _
    refine XS.goto X17.here hx rfl (pc0 := 78) (pc' := 82) rfl (hb hby at_78) (by decide) (by decide) ?_
    show oS p e below T17 m 82 #[.val (.int pI1), .val (.int pI2), .val (.int pI3), .val (.int pI4), .val (.int (own_pick pI3 pI1)), .val (.int (own_pick pI4 pI2)), .val (.ref bR7_2), .val (.ref bR10_2), .val (.int (1 : Int32)), .unset, .unset] [(.int (1 : Int32))] _
    refine XS.istore X17.here hx rfl (hb hby at_82) rfl (l' := #[.val (.int pI1), .val (.int pI2), .val (.int pI3), .val (.int pI4), .val (.int (own_pick pI3 pI1)), .val (.int (own_pick pI4 pI2)), .val (.ref bR7_2), .val (.ref bR10_2), .val (.int (1 : Int32)), .val (.int (1 : Int32)), .unset]) rfl ?_
    show oS p e below T17 m 84 #[.val (.int pI1), .val (.int pI2), .val (.int pI3), .val (.int pI4), .val (.int (own_pick pI3 pI1)), .val (.int (own_pick pI4 pI2)), .val (.ref bR7_2), .val (.ref bR10_2), .val (.int (1 : Int32)), .val (.int (1 : Int32)), .unset] [] _
    refine XS.iload X17.here hx rfl (hb hby at_84) rfl ?_
    show oS p e below T17 m 86 #[.val (.int pI1), .val (.int pI2), .val (.int pI3), .val (.int pI4), .val (.int (own_pick pI3 pI1)), .val (.int (own_pick pI4 pI2)), .val (.ref bR7_2), .val (.ref bR10_2), .val (.int (1 : Int32)), .val (.int (1 : Int32)), .unset] [(.int (own_pick pI3 pI1))] _
    refine X17.ldcInt hx hown (mvT hZ (ow hw 6 rfl)) (g := (mkF m 86 #[.val (.int pI1), .val (.int pI2), .val (.int pI3), .val (.int pI4), .val (.int (own_pick pI3 pI1)), .val (.int (own_pick pI4 pI2)), .val (.ref bR7_2), .val (.ref bR10_2), .val (.int (1 : Int32)), .val (.int (1 : Int32)), .unset] [(.int (own_pick pI3 pI1))])) rfl (hb hby at_86) _ ?_
    show oS p e below T17 m 88 #[.val (.int pI1), .val (.int pI2), .val (.int pI3), .val (.int pI4), .val (.int (own_pick pI3 pI1)), .val (.int (own_pick pI4 pI2)), .val (.ref bR7_2), .val (.ref bR10_2), .val (.int (1 : Int32)), .val (.int (1 : Int32)), .unset] [(.int (86400 : Int32)), (.int (own_pick pI3 pI1))] _
    refine XS.icmpYes X17.here hx rfl (pc0 := 88) (pc' := 102) rfl (hb hby at_88) rfl (feq hse).2 (by decide) (by decide) ?_
    show oS p e below T17 m 102 #[.val (.int pI1), .val (.int pI2), .val (.int pI3), .val (.int pI4), .val (.int (own_pick pI3 pI1)), .val (.int (own_pick pI4 pI2)), .val (.ref bR7_2), .val (.ref bR10_2), .val (.int (1 : Int32)), .val (.int (1 : Int32)), .unset] [] _
    refine XS.iconst X17.here hx rfl (hb hby at_102) ?_
    show oS p e below T17 m 103 #[.val (.int pI1), .val (.int pI2), .val (.int pI3), .val (.int pI4), .val (.int (own_pick pI3 pI1)), .val (.int (own_pick pI4 pI2)), .val (.ref bR7_2), .val (.ref bR10_2), .val (.int (1 : Int32)), .val (.int (1 : Int32)), .unset] [(.int (1 : Int32))] _
    refine XS.goto X17.here hx rfl (pc0 := 103) (pc' := 107) rfl (hb hby at_103) (by decide) (by decide) ?_
    show oS p e below T17 m 107 #[.val (.int pI1), .val (.int pI2), .val (.int pI3), .val (.int pI4), .val (.int (own_pick pI3 pI1)), .val (.int (own_pick pI4 pI2)), .val (.ref bR7_2), .val (.ref bR10_2), .val (.int (1 : Int32)), .val (.int (1 : Int32)), .unset] [(.int (1 : Int32))] _
    refine XS.istore X17.here hx rfl (hb hby at_107) rfl (l' := #[.val (.int pI1), .val (.int pI2), .val (.int pI3), .val (.int pI4), .val (.int (own_pick pI3 pI1)), .val (.int (own_pick pI4 pI2)), .val (.ref bR7_2), .val (.ref bR10_2), .val (.int (1 : Int32)), .val (.int (1 : Int32)), .val (.int (1 : Int32))]) rfl ?_
    show oS p e below T17 m 109 #[.val (.int pI1), .val (.int pI2), .val (.int pI3), .val (.int pI4), .val (.int (own_pick pI3 pI1)), .val (.int (own_pick pI4 pI2)), .val (.ref bR7_2), .val (.ref bR10_2), .val (.int (1 : Int32)), .val (.int (1 : Int32)), .val (.int (1 : Int32))] [] _
    refine XS.iload X17.here hx rfl (hb hby at_109) rfl ?_
    show oS p e below T17 m 111 #[.val (.int pI1), .val (.int pI2), .val (.int pI3), .val (.int pI4), .val (.int (own_pick pI3 pI1)), .val (.int (own_pick pI4 pI2)), .val (.ref bR7_2), .val (.ref bR10_2), .val (.int (1 : Int32)), .val (.int (1 : Int32)), .val (.int (1 : Int32))] [(.int (1 : Int32))] _
    refine XS.ifNo X17.here hx rfl (hb hby at_111) rfl ((if0 _ _).trans (feq (by decide : ¬ ((1 : Int32) = (0 : Int32)))).1) ?_
    show oS p e below T17 m 114 #[.val (.int pI1), .val (.int pI2), .val (.int pI3), .val (.int pI4), .val (.int (own_pick pI3 pI1)), .val (.int (own_pick pI4 pI2)), .val (.ref bR7_2), .val (.ref bR10_2), .val (.int (1 : Int32)), .val (.int (1 : Int32)), .val (.int (1 : Int32))] [] _
    refine XS.iload X17.here hx rfl (hb hby at_114) rfl ?_
    show oS p e below T17 m 116 #[.val (.int pI1), .val (.int pI2), .val (.int pI3), .val (.int pI4), .val (.int (own_pick pI3 pI1)), .val (.int (own_pick pI4 pI2)), .val (.ref bR7_2), .val (.ref bR10_2), .val (.int (1 : Int32)), .val (.int (1 : Int32)), .val (.int (1 : Int32))] [(.int (1 : Int32))] _
    refine XS.ifNo X17.here hx rfl (hb hby at_116) rfl ((if0 _ _).trans (feq (by decide : ¬ ((1 : Int32) = (0 : Int32)))).1) ?_
    show oS p e below T17 m 119 #[.val (.int pI1), .val (.int pI2), .val (.int pI3), .val (.int pI4), .val (.int (own_pick pI3 pI1)), .val (.int (own_pick pI4 pI2)), .val (.ref bR7_2), .val (.ref bR10_2), .val (.int (1 : Int32)), .val (.int (1 : Int32)), .val (.int (1 : Int32))] [] _
    refine XS.iload X17.here hx rfl (hb hby at_119) rfl ?_
    show oS p e below T17 m 121 #[.val (.int pI1), .val (.int pI2), .val (.int pI3), .val (.int pI4), .val (.int (own_pick pI3 pI1)), .val (.int (own_pick pI4 pI2)), .val (.ref bR7_2), .val (.ref bR10_2), .val (.int (1 : Int32)), .val (.int (1 : Int32)), .val (.int (1 : Int32))] [(.int (1 : Int32))] _
    refine XS.ifNo X17.here hx rfl (hb hby at_121) rfl ((if0 _ _).trans (feq (by decide : ¬ ((1 : Int32) = (0 : Int32)))).1) ?_
    show oS p e below T17 m 124 #[.val (.int pI1), .val (.int pI2), .val (.int pI3), .val (.int pI4), .val (.int (own_pick pI3 pI1)), .val (.int (own_pick pI4 pI2)), .val (.ref bR7_2), .val (.ref bR10_2), .val (.int (1 : Int32)), .val (.int (1 : Int32)), .val (.int (1 : Int32))] [] _
    refine XS.iconst X17.here hx rfl (hb hby at_124) ?_
    show oS p e below T17 m 125 #[.val (.int pI1), .val (.int pI2), .val (.int pI3), .val (.int pI4), .val (.int (own_pick pI3 pI1)), .val (.int (own_pick pI4 pI2)), .val (.ref bR7_2), .val (.ref bR10_2), .val (.int (1 : Int32)), .val (.int (1 : Int32)), .val (.int (1 : Int32))] [(.int (1 : Int32))] _
    refine XS.goto X17.here hx rfl (pc0 := 125) (pc' := 129) rfl (hb hby at_125) (by decide) (by decide) ?_
    show oS p e below T17 m 129 #[.val (.int pI1), .val (.int pI2), .val (.int pI3), .val (.int pI4), .val (.int (own_pick pI3 pI1)), .val (.int (own_pick pI4 pI2)), .val (.ref bR7_2), .val (.ref bR10_2), .val (.int (1 : Int32)), .val (.int (1 : Int32)), .val (.int (1 : Int32))] [(.int (1 : Int32))] _
    exact retN X17 hx (t := .boolean) Bd.returns (by simp) (hb hby at_129) hr
  · show Qlaw00 Z pI1 pI2 pI3 pI4 h0 n0 _ T17.heap _
    rw [e17]
    exact ⟨rfl, N17⟩
set_option maxRecDepth 65536 in
set_option maxHeartbeats 40000000 in
theorem comes_1 {Post : Tables → Env → Array Value → State → Outcome → State → Prop} (hpost : ∀ tb e args s v u, (limb_1_1.after args s (.returned v) u = true ∧ limb_1_2.after args s (.returned v) u = true ∧ True) → FrameEnd s (.returned v) u (Jvm.fieldLocs frame_1_writes args s ++ Jvm.arrayLocs frame_1_arrays args s ++ Jvm.staticLocs frame_1_statics s) 16 128 → Post tb e args s (.returned v) u) :
    ArmFor flags0 classFile x code maxLocals ret World_1 tables_1 room_1 Calls_1 rest_1 Pre_1 Post := by
  intro l hfl _ _ p e ha hc hk s m args below hf hA hF happ hP
  obtain ⟨hcalls, hrest, hpre⟩ := hP
  obtain ⟨-, -, -, hnamed, -, -, -, hat⟩ := (Spec.applies_iff hf).mp happ
  obtain ⟨hg, hn⟩ := and_e (Cond.before_iff.mp (show (Jvm.Cond.and given_1 narrow_1).before args s = true from hpre))
  obtain ⟨w1, w2⟩ := and_e hg
  obtain ⟨w3, w4⟩ := and_e w2
  obtain ⟨w5, w6⟩ := and_e w4
  obtain ⟨w7, w8⟩ := and_e w6
  obtain ⟨w9, w10⟩ := and_e hn
  obtain ⟨v0, v1, v2, v3, rfl⟩ : ∃ v0 v1 v2 v3 : Value, args = #[v0, v1, v2, v3] := by
    have hs : args.size = 4 := by simpa [Cond.value, given_1] using w1
    obtain ⟨L⟩ := args
    match L, hs with
    | [v0, v1, v2, v3], _ => exact ⟨v0, v1, v2, v3, rfl⟩
  have hw := fun d (hd : d ∈ tables_1) => atoms_spec (ws := Jvm.Cond.code x code maxLocals ret :: tables_1) hat d (List.mem_cons_of_mem _ hd)
  have hfit : Fit s := fun {y c} hc i hi => by
    obtain ⟨ha, rfl⟩ := Array.getElem?_eq_some_iff.mp hc
    have q := List.all_eq_true.mp ((Array.all_eq_true_iff_forall_mem.mp hF) _ (Array.getElem_mem ha)) i (List.mem_range.mpr hi)
    simpa [Array.getElem?_eq_getElem hi] using q
  obtain ⟨i0, ei0⟩ := is_v w3
  obtain rfl : v0 = (.int i0) := Option.some.inj ei0
  obtain ⟨i1, ei1⟩ := is_v w5
  obtain rfl : v1 = (.int i1) := Option.some.inj ei1
  obtain ⟨i2, ei2⟩ := is_v w7
  obtain rfl : v2 = (.int i2) := Option.some.inj ei2
  obtain ⟨i3, ei3⟩ := is_v w8
  obtain rfl : v3 = (.int i3) := Option.some.inj ei3
  obtain ⟨bR11, ev12⟩ := exa_v w9
  have S13 : Sta s s.heap "com/example/watchful_junction/watchfuljunction/ClockTime" "END_OF_DAY" "Lcom/example/watchful_junction/watchfuljunction/ClockTime;" (.ref bR11) := Sta.start ev12 (Or.inr ⟨(ow hw 9 rfl), (ow hw 34 rfl)⟩)
  have E14 : Exa s s.heap bR11 "com/example/watchful_junction/watchfuljunction/ClockTime" := Exa.start ev12 w9
  have ev15 := Cond.eq_int (Cond.before_iff.mpr w10) rfl
  have F16 : Fld s s.heap bR11 "com/example/watchful_junction/watchfuljunction/ClockTime" "secondOfDay" "I" (.int (86400 : Int32)) := Fld.start ((fld_at ev12).symm.trans ev15)
  have hb1 := own_pick_in i2 i0
  have hb2 := own_pick_in i3 i1
  by_cases hst : own_pick i2 i0 = own_pick i3 i1
  · by_cases hse : own_pick i2 i0 = (86400 : Int32)
    · obtain ⟨n, o, h1, h2, h3, _, L, rfl, ⟨rfl, N⟩, hq⟩ := law11 l s _ hw tables_1 i0 i1 i2 i3 bR11 (86400 : Int32) s.heap s.heap.size (Nat.le_refl _) S13 E14 F16 hst hse hb1.1 hb1.2 hb2.1 hb2.2 (Eq.symm hse) p e ha hc hk s m _ below hf ((Spec.applies_iff_loose hf).mp happ).1 ⟨rfl, State.Warmed39.refl s, rfl⟩ trivial
      exact ⟨n, _, h1, h2, h3, hpost _ _ _ _ _ _ ⟨Cond.after_iff.mpr rfl, Cond.after_iff.mpr (eq_i res_at (Term.int_eval (1)) rfl), trivial⟩ ⟨hq.1, hq.2.1, (hq.2.2.sift fun y hy => Or.inr (N y hy)).mono (by decide) (by decide)⟩⟩
    · obtain ⟨n, o, h1, h2, h3, _, L, rfl, ⟨rfl, N⟩, hq⟩ := law10 l s _ hw tables_1 i0 i1 i2 i3 s.heap s.heap.size (Nat.le_refl _) hst hse hb1.1 hb1.2 hb2.1 hb2.2 p e ha hc hk s m _ below hf ((Spec.applies_iff_loose hf).mp happ).1 ⟨rfl, State.Warmed39.refl s, rfl⟩ trivial
      exact ⟨n, _, h1, h2, h3, hpost _ _ _ _ _ _ ⟨Cond.after_iff.mpr rfl, Cond.after_iff.mpr (eq_i res_at (Term.int_eval (1)) rfl), trivial⟩ ⟨hq.1, hq.2.1, (hq.2.2.sift fun y hy => Or.inr (N y hy)).mono (by decide) (by decide)⟩⟩
  · by_cases hse : own_pick i2 i0 = (86400 : Int32)
    · obtain ⟨n, o, h1, h2, h3, _, L, rfl, ⟨rfl, N⟩, hq⟩ := law01 l s _ hw tables_1 i0 i1 i2 i3 bR11 (86400 : Int32) s.heap s.heap.size (Nat.le_refl _) S13 E14 F16 hst hse hb1.1 hb1.2 hb2.1 hb2.2 (Eq.symm hse) p e ha hc hk s m _ below hf ((Spec.applies_iff_loose hf).mp happ).1 ⟨rfl, State.Warmed39.refl s, rfl⟩ trivial
      exact ⟨n, _, h1, h2, h3, hpost _ _ _ _ _ _ ⟨Cond.after_iff.mpr rfl, Cond.after_iff.mpr (eq_i res_at (Term.int_eval (1)) rfl), trivial⟩ ⟨hq.1, hq.2.1, (hq.2.2.sift fun y hy => Or.inr (N y hy)).mono (by decide) (by decide)⟩⟩
    · obtain ⟨n, o, h1, h2, h3, _, L, rfl, ⟨rfl, N⟩, hq⟩ := law00 l s _ hw tables_1 i0 i1 i2 i3 s.heap s.heap.size (Nat.le_refl _) hst hse hb1.1 hb1.2 hb2.1 hb2.2 p e ha hc hk s m _ below hf ((Spec.applies_iff_loose hf).mp happ).1 ⟨rfl, State.Warmed39.refl s, rfl⟩ trivial
      exact ⟨n, _, h1, h2, h3, hpost _ _ _ _ _ _ ⟨Cond.after_iff.mpr rfl, Cond.after_iff.mpr (eq_i res_at (Term.int_eval (1)) rfl), trivial⟩ ⟨hq.1, hq.2.1, (hq.2.2.sift fun y hy => Or.inr (N y hy)).mono (by decide) (by decide)⟩⟩
theorem main_1_1 : Claimed_1_1 := comes_1 fun _ _ _ _ _ _ h hF => ⟨h.1, hF⟩
theorem main_1_2 : Claimed_1_2 := comes_1 fun _ _ _ _ _ _ h hF => ⟨h.2.1, hF⟩
end Jvm.Pilot.@@N@@
namespace Jvm.Pilot.@@N@@
open Jvm Jvm.ClassFile Sem Op Lib Jvm.Free Jvm.Stand Jvm.Pilot.@@N@@.Jvm.D
/-! MADE BY PROGRAM (witnessworld.py) out of the Statement's table words and the real class files: 9 classes; the members and pool entries that the words name. The judged class is class 1, her method 2. -/
namespace start1
open Jvm.ClassFile
def u (s : String) : CpInfo := .utf8 (stringToUtf16 s)
/-- a pool by its gaps: so many unusable entries, then the entry; so many at the end -/
def gap : Nat → List CpInfo → List CpInfo
  | 0, r => r
  | n + 1, r => .unusable :: gap n r
def poolList (es : List (Nat × CpInfo)) (last : Nat) : List CpInfo := es.foldr (fun e r => gap e.1 (e.2 :: r)) (gap last [])
def pool (es : List (Nat × CpInfo)) (last : Nat) : Array CpInfo := ⟨poolList es last⟩
def fileOf (pool : Array CpInfo) (this : Nat) (attrs : Array Attribute := #[]) (ms : Array MethodInfo := #[]) (fl : Nat := 33) (sup : Nat := 0) (ifs : Array Nat := #[]) (fds : Array FieldInfo := #[]) : ClassFile where
  minorVersion := 0
  majorVersion := 65
  constantPool := pool
  accessFlags := fl
  thisClass := this
  superClass := sup
  interfaces := ifs
  fields := fds
  methods := ms
  attributes := attrs
def plain (name : String) (sup : Option ClassId) : Class where
  name := name
  kind := .ordinary
  loader := none
  accessFlags := 33
  super := sup
  interfaces := #[]
  cf := none
  fields := #[]
  methods := #[]
  instanceTypes := #[]
  staticTypes := #[]
  resolved := #[]
  callSites := []
  init := .initialized
  statics := none
  mirror := none

def pool0 : Array CpInfo := pool [(5, u "<init>"), (0, u "()V"), (1, .class_ 10), (1, u "java/lang/Object")] 113

def k0c0 : Code := { maxStack := 0, maxLocals := 1, code := object_method_1_code, exceptionTable := #[], attributes := #[] }
def k0m0 : Method := { name := "<init>", desc := "()V", sig := { parameters := [], returnType := none }, accessFlags := 1, code := some k0c0 }
/-- java/lang/Object -/
def k0 : Class := { plain "java/lang/Object" none with
  accessFlags := 33
  interfaces := #[]
  cf := some (fileOf pool0 8 #[] #[{ accessFlags := 1, nameIndex := 5, descriptorIndex := 6, attributes := #[] }] 33 0 #[] #[])
  fields := #[]
  methods := #[k0m0]
  instanceTypes := #[]
  staticTypes := #[]
  resolved := Array.replicate 124 none
  statics := none }

def pool1 : Array CpInfo := pool [(2, .class_ 4), (1, u "java/lang/Object"), (0, u "<init>"), (0, u "()V"), (0, .integer 86400), (0, .integer 2147483647), (0, .integer 86401), (0, .methodref 11 12), (0, .class_ 13), (0, .nameAndType 14 15), (0, u "com/example/watchful_junction/watchfuljunction/ClockTimeOfSecondOfDayPinLaw"), (0, u "pick"), (0, u "(II)I"), (0, .methodref 17 18), (0, .class_ 19), (0, .nameAndType 20 21), (0, u "com/example/watchful_junction/watchfuljunction/ClockTime"), (0, u "ofSecondOfDay"), (0, u "(I)Lcom/example/watchful_junction/watchfuljunction/ClockTime;"), (0, .methodref 17 23), (0, .nameAndType 24 25), (0, u "secondOfDay"), (0, u "()I"), (0, .methodref 17 27), (0, .nameAndType 28 29), (0, u "equals"), (0, u "(Ljava/lang/Object;)Z"), (0, .fieldref 17 31), (0, .nameAndType 32 33), (0, u "END_OF_DAY"), (0, u "Lcom/example/watchful_junction/watchfuljunction/ClockTime;"), (3, u "law"), (0, u "(IIII)Z")] 2

def k1m0 : Method := { name := "<init>", desc := "()V", sig := { parameters := [], returnType := none }, accessFlags := 2, code := none }
def k1c1 : Code := { maxStack := 2, maxLocals := 3, code := method_2_code, exceptionTable := #[], attributes := #[] }
def k1m1 : Method := { name := "pick", desc := "(II)I", sig := { parameters := [.int, .int], returnType := some .int }, accessFlags := 10, code := some k1c1 }
def k1c2 : Code := { maxStack := 3, maxLocals := 11, code := code, exceptionTable := #[], attributes := #[] }
def k1m2 : Method := { name := "law", desc := "(IIII)Z", sig := { parameters := [.int, .int, .int, .int], returnType := some .boolean }, accessFlags := 9, code := some k1c2 }
/-- com/example/watchful_junction/watchfuljunction/ClockTimeOfSecondOfDayPinLaw -/
def k1 : Class := { plain "com/example/watchful_junction/watchfuljunction/ClockTimeOfSecondOfDayPinLaw" (some 0) with
  accessFlags := 49
  interfaces := #[]
  cf := some (fileOf pool1 11 #[] #[{ accessFlags := 2, nameIndex := 5, descriptorIndex := 6, attributes := #[] }, { accessFlags := 10, nameIndex := 14, descriptorIndex := 15, attributes := #[] }, { accessFlags := 9, nameIndex := 37, descriptorIndex := 38, attributes := #[] }] 49 2 #[] #[])
  fields := #[]
  methods := #[k1m0, k1m1, k1m2]
  instanceTypes := #[]
  staticTypes := #[]
  resolved := Array.replicate 41 none
  statics := none }

def pool2 : Array CpInfo := pool [(1, .methodref 2 3), (0, .class_ 4), (0, .nameAndType 5 6), (0, u "java/lang/Object"), (0, u "<init>"), (0, u "()V"), (0, .fieldref 8 9), (0, .class_ 10), (0, .nameAndType 11 12), (0, u "com/example/watchful_junction/watchfuljunction/ClockTime"), (0, u "secondOfDay"), (0, u "I"), (0, .integer 86400), (9, .methodref 8 24), (0, .nameAndType 5 25), (0, u "(I)V"), (21, u "()I"), (14, u "FIELD_SECONDS"), (0, u "[I"), (38, u "END_OF_DAY"), (0, u "Lcom/example/watchful_junction/watchfuljunction/ClockTime;"), (0, u "SECONDS_PER_DAY"), (3, u "ofSecondOfDay"), (0, u "(I)Lcom/example/watchful_junction/watchfuljunction/ClockTime;"), (5, u "equals"), (0, u "(Ljava/lang/Object;)Z")] 26

def k2c0 : Code := { maxStack := 2, maxLocals := 2, code := prog_1_method_1_code, exceptionTable := #[], attributes := #[] }
def k2m0 : Method := { name := "<init>", desc := "(I)V", sig := { parameters := [.int], returnType := none }, accessFlags := 2, code := some k2c0 }
def k2c1 : Code := { maxStack := 3, maxLocals := 1, code := prog_1_method_2_code, exceptionTable := #[], attributes := #[] }
def k2m1 : Method := { name := "ofSecondOfDay", desc := "(I)Lcom/example/watchful_junction/watchfuljunction/ClockTime;", sig := { parameters := [.int], returnType := some (.object "com/example/watchful_junction/watchfuljunction/ClockTime") }, accessFlags := 9, code := some k2c1 }
def k2c2 : Code := { maxStack := 1, maxLocals := 1, code := prog_1_method_7_code, exceptionTable := #[], attributes := #[] }
def k2m2 : Method := { name := "secondOfDay", desc := "()I", sig := { parameters := [], returnType := some .int }, accessFlags := 1, code := some k2c2 }
def k2c3 : Code := { maxStack := 2, maxLocals := 3, code := prog_1_method_8_code, exceptionTable := #[], attributes := #[] }
def k2m3 : Method := { name := "equals", desc := "(Ljava/lang/Object;)Z", sig := { parameters := [(.object "java/lang/Object")], returnType := some .boolean }, accessFlags := 1, code := some k2c3 }
/-- com/example/watchful_junction/watchfuljunction/ClockTime -/
def k2 : Class := { plain "com/example/watchful_junction/watchfuljunction/ClockTime" (some 0) with
  accessFlags := 49
  interfaces := #[]
  cf := some (fileOf pool2 8 #[] #[{ accessFlags := 2, nameIndex := 5, descriptorIndex := 25, attributes := #[] }, { accessFlags := 9, nameIndex := 108, descriptorIndex := 109, attributes := #[] }, { accessFlags := 1, nameIndex := 11, descriptorIndex := 47, attributes := #[] }, { accessFlags := 1, nameIndex := 115, descriptorIndex := 116, attributes := #[] }] 49 2 #[] #[{ accessFlags := 26, nameIndex := 104, descriptorIndex := 12, attributes := #[] }, { accessFlags := 26, nameIndex := 62, descriptorIndex := 63, attributes := #[] }, { accessFlags := 25, nameIndex := 102, descriptorIndex := 103, attributes := #[] }, { accessFlags := 18, nameIndex := 11, descriptorIndex := 12, attributes := #[] }])
  fields := #[{ name := "SECONDS_PER_DAY", type := .int, accessFlags := 26, slot := 0, constantValue := 0 }, { name := "FIELD_SECONDS", type := (.array .int), accessFlags := 26, slot := 1, constantValue := 0 }, { name := "END_OF_DAY", type := (.object "com/example/watchful_junction/watchfuljunction/ClockTime"), accessFlags := 25, slot := 2, constantValue := 0 }, { name := "secondOfDay", type := .int, accessFlags := 18, slot := 0, constantValue := 0 }]
  methods := #[k2m0, k2m1, k2m2, k2m3]
  instanceTypes := #[.int]
  staticTypes := #[.int, (.array .int), (.object "com/example/watchful_junction/watchfuljunction/ClockTime")]
  resolved := Array.replicate 143 none
  statics := some 0 }

def pool3 : Array CpInfo := pool [(1, u "java/lang/Cloneable"), (0, .class_ 1), (0, u "java/lang/Object"), (0, .class_ 3)] 3

/-- java/lang/Cloneable -/
def k3 : Class := { plain "java/lang/Cloneable" (some 0) with
  accessFlags := 1537
  interfaces := #[]
  cf := some (fileOf pool3 2 #[] #[] 1537 4 #[] #[])
  fields := #[]
  methods := #[]
  instanceTypes := #[]
  staticTypes := #[]
  resolved := Array.replicate 8 none
  statics := none }

def pool4 : Array CpInfo := pool [(1, u "java/io/Serializable"), (0, .class_ 1), (0, u "java/lang/Object"), (0, .class_ 3)] 3

/-- java/io/Serializable -/
def k4 : Class := { plain "java/io/Serializable" (some 0) with
  accessFlags := 1537
  interfaces := #[]
  cf := some (fileOf pool4 2 #[] #[] 1537 4 #[] #[])
  fields := #[]
  methods := #[]
  instanceTypes := #[]
  staticTypes := #[]
  resolved := Array.replicate 8 none
  statics := none }

/-- the primitive byte -/
def k5 : Class := { plain "byte" none with kind := .primitive 'B', accessFlags := 0x411 }
/-- [B -/
def k6 : Class := { plain "[B" (some 0) with kind := .array 5 .byte, interfaces := #[3, 4], accessFlags := 1041 }

/-- the primitive int -/
def k7 : Class := { plain "int" none with kind := .primitive 'I', accessFlags := 0x411 }
/-- [I -/
def k8 : Class := { plain "[I" (some 0) with kind := .array 7 .int, interfaces := #[3, 4], accessFlags := 1041 }

def heap : Heap := #[{ cls := 2, slots := #[.int 0, .null, .ref 1], vm := .statics 2 },
  { cls := 2, slots := #[.int 86400], vm := .none }]
def classes : Array Class := #[k0, k1, k2, k3, k4, k5, k6, k7, k8]
def interned : List (Array UInt16 × Addr) := []
def slotsUsed : Nat := 4
def theMethod : MethodId := ⟨1, 2⟩
def args0 : Array Value := #[.int 5, .int 7, .int 2, .int 3]
def aboutOver (below : List Frame) : State where
  vm := { classes := classes, interned := interned.toArray }
  heap := heap
  slotsUsed := slotsUsed
  threads := #[{ frames := .invoking theMethod args0 :: below }]
def below0 : List Frame := [.native { method := ⟨0, 0⟩, args := #[] }]
def about1 : State := aboutOver below0
def p0 : Program := .bare "" "" ""
def e0 : Env := launch0.env 0 0 0
theorem w_frames : about1.frames = Frame.invoking theMethod args0 :: below0 := rfl
set_option maxRecDepth 65536 in
theorem w_args : argsFit about1.vm theMethod args0 = true := by decide +kernel
set_option maxRecDepth 65536 in
theorem w_heap : heapFits about1 = true := by decide +kernel
set_option maxRecDepth 65536 in
theorem w_runnable : about1.curStatus? = some .runnable := by decide +kernel
set_option maxRecDepth 65536 in
theorem w_alone : about1.alone = true := by decide +kernel
set_option maxRecDepth 65536 in
theorem w_named : about1.methodNamed? x = some theMethod := by decide +kernel
set_option maxRecDepth 65536 in
theorem w_hears : about1.hears theMethod below0 = true := by decide +kernel
set_option maxRecDepth 65536 in
theorem w_ripe : about1.ripe theMethod args0 below0 = true := by decide +kernel
theorem w_running : about1.status = .running := rfl
set_option maxRecDepth 65536 in
theorem w_room : about1.hasRoom e0.platform room_1 = true :=
  launch0.hasRoom_least _ room_1 (by decide +kernel) (by decide +kernel) (by decide +kernel) (by decide +kernel) (by decide +kernel) (by decide +kernel)
theorem allAtoms_all (ts : List Jvm.Cond) (a : Array Jvm.Value) (st : Jvm.State) : (allAtoms ts).before a st = ts.all (fun c => c.before a st) := by
  induction ts with
  | nil => rfl
  | cons c t ih =>
    show (Jvm.Cond.and c (allAtoms t)).before a st = _
    rw [Jvm.Cond.before_and, ih, List.all_cons]
def words1 : List Jvm.Cond := Jvm.Cond.code x code maxLocals ret :: tables_1
/-- a 'code' word, met by the world's own term for the bytes: nothing is compared byte by byte -/
theorem code_word {y : MethodName} {bytes : ByteArray} {mx : Nat} {rt : Option FieldType} {a : Array Value} {s : State} {m : MethodId} {meth : Method} {c : Code} (h1 : s.methodNamed? y = some m) (h2 : s.vm.method? m = some meth) (h3 : meth.code = some c) (h4 : c.code = bytes)
    (h5 : (c.maxLocals == mx && c.exceptionTable.isEmpty && decide (c.maxStack ≤ mostOperands) && decide (meth.sig.returnType = rt) && !meth.locks && decide (parseMethodDescriptor y.desc = some meth.sig)) = true) : (Jvm.Cond.code y bytes mx rt).before a s = true := by
  simp only [Bool.and_eq_true, beq_iff_eq, Bool.not_eq_true', decide_eq_true_eq] at h5
  obtain ⟨⟨⟨⟨⟨g1, g2⟩, g3⟩, g4⟩, g5⟩, g6⟩ := h5
  simp [Cond.before, Cond.holds, Cond.value, h1, h2, h3, h4, g1, g2, g3, g4, g5, g6]
def isCode : Jvm.Cond → Bool
  | .code _ _ _ _ => true
  | _ => false
theorem all_split {L : List Jvm.Cond} {P : Jvm.Cond → Bool} (h1 : L.all (fun c => isCode c || P c) = true) (h2 : ∀ c ∈ L.filter isCode, P c = true) : L.all P = true := by
  refine List.all_eq_true.mpr fun c hc => ?_
  have h := List.all_eq_true.mp h1 c hc
  rcases Bool.eq_false_or_eq_true (isCode c) with hi | hi
  · exact h2 c (List.mem_filter.mpr ⟨hc, hi⟩)
  · simpa [hi] using h
set_option maxRecDepth 65536 in
theorem w_c0 : (Jvm.Cond.code x code maxLocals ret).before args0 about1 = true := code_word (m := ⟨1, 2⟩) (meth := k1m2) (c := k1c2) (by decide +kernel) rfl rfl rfl (by decide +kernel)
set_option maxRecDepth 65536 in
theorem w_c1 : (Jvm.Cond.code ({ cls := "com/example/watchful_junction/watchfuljunction/ClockTimeOfSecondOfDayPinLaw", name := "pick", desc := "(II)I" } : Jvm.MethodName) method_2_code (3 : Nat) (Option.some Jvm.ClassFile.FieldType.int)).before args0 about1 = true := code_word (m := ⟨1, 1⟩) (meth := k1m1) (c := k1c1) (by decide +kernel) rfl rfl rfl (by decide +kernel)
set_option maxRecDepth 65536 in
theorem w_c2 : (Jvm.Cond.code ({ cls := "com/example/watchful_junction/watchfuljunction/ClockTime", name := "ofSecondOfDay", desc := "(I)Lcom/example/watchful_junction/watchfuljunction/ClockTime;" } : Jvm.MethodName) prog_1_method_2_code (1 : Nat) (Option.some (Jvm.ClassFile.FieldType.object "com/example/watchful_junction/watchfuljunction/ClockTime"))).before args0 about1 = true := code_word (m := ⟨2, 1⟩) (meth := k2m1) (c := k2c1) (by decide +kernel) rfl rfl rfl (by decide +kernel)
set_option maxRecDepth 65536 in
theorem w_c3 : (Jvm.Cond.code ({ cls := "com/example/watchful_junction/watchfuljunction/ClockTime", name := "<init>", desc := "(I)V" } : Jvm.MethodName) prog_1_method_1_code (2 : Nat) (Option.none : Option Jvm.ClassFile.FieldType)).before args0 about1 = true := code_word (m := ⟨2, 0⟩) (meth := k2m0) (c := k2c0) (by decide +kernel) rfl rfl rfl (by decide +kernel)
set_option maxRecDepth 65536 in
theorem w_c4 : (Jvm.Cond.code ({ cls := "java/lang/Object", name := "<init>", desc := "()V" } : Jvm.MethodName) object_method_1_code (1 : Nat) (Option.none : Option Jvm.ClassFile.FieldType)).before args0 about1 = true := code_word (m := ⟨0, 0⟩) (meth := k0m0) (c := k0c0) (by decide +kernel) rfl rfl rfl (by decide +kernel)
set_option maxRecDepth 65536 in
theorem w_c5 : (Jvm.Cond.code ({ cls := "com/example/watchful_junction/watchfuljunction/ClockTime", name := "secondOfDay", desc := "()I" } : Jvm.MethodName) prog_1_method_7_code (1 : Nat) (Option.some Jvm.ClassFile.FieldType.int)).before args0 about1 = true := code_word (m := ⟨2, 2⟩) (meth := k2m2) (c := k2c2) (by decide +kernel) rfl rfl rfl (by decide +kernel)
set_option maxRecDepth 65536 in
theorem w_c6 : (Jvm.Cond.code ({ cls := "com/example/watchful_junction/watchfuljunction/ClockTime", name := "equals", desc := "(Ljava/lang/Object;)Z" } : Jvm.MethodName) prog_1_method_8_code (3 : Nat) (Option.some Jvm.ClassFile.FieldType.boolean)).before args0 about1 = true := code_word (m := ⟨2, 3⟩) (meth := k2m3) (c := k2c3) (by decide +kernel) rfl rfl rfl (by decide +kernel)
def codes1 : List Jvm.Cond := [Jvm.Cond.code x code maxLocals ret, Jvm.Cond.code ({ cls := "com/example/watchful_junction/watchfuljunction/ClockTimeOfSecondOfDayPinLaw", name := "pick", desc := "(II)I" } : Jvm.MethodName) method_2_code (3 : Nat) (Option.some Jvm.ClassFile.FieldType.int), Jvm.Cond.code ({ cls := "com/example/watchful_junction/watchfuljunction/ClockTime", name := "ofSecondOfDay", desc := "(I)Lcom/example/watchful_junction/watchfuljunction/ClockTime;" } : Jvm.MethodName) prog_1_method_2_code (1 : Nat) (Option.some (Jvm.ClassFile.FieldType.object "com/example/watchful_junction/watchfuljunction/ClockTime")), Jvm.Cond.code ({ cls := "com/example/watchful_junction/watchfuljunction/ClockTime", name := "<init>", desc := "(I)V" } : Jvm.MethodName) prog_1_method_1_code (2 : Nat) (Option.none : Option Jvm.ClassFile.FieldType), Jvm.Cond.code ({ cls := "java/lang/Object", name := "<init>", desc := "()V" } : Jvm.MethodName) object_method_1_code (1 : Nat) (Option.none : Option Jvm.ClassFile.FieldType), Jvm.Cond.code ({ cls := "com/example/watchful_junction/watchfuljunction/ClockTime", name := "secondOfDay", desc := "()I" } : Jvm.MethodName) prog_1_method_7_code (1 : Nat) (Option.some Jvm.ClassFile.FieldType.int), Jvm.Cond.code ({ cls := "com/example/watchful_junction/watchfuljunction/ClockTime", name := "equals", desc := "(Ljava/lang/Object;)Z" } : Jvm.MethodName) prog_1_method_8_code (3 : Nat) (Option.some Jvm.ClassFile.FieldType.boolean)]
set_option maxRecDepth 65536 in
theorem codes_eq : words1.filter isCode = codes1 := rfl
theorem w_codes : ∀ c ∈ words1.filter isCode, c.before args0 about1 = true := by
  rw [codes_eq]
  intro c hc
  simp only [codes1, List.mem_cons, List.not_mem_nil, or_false] at hc
  rcases hc with rfl | rfl | rfl | rfl | rfl | rfl | rfl
  · exact w_c0
  · exact w_c1
  · exact w_c2
  · exact w_c3
  · exact w_c4
  · exact w_c5
  · exact w_c6
set_option maxRecDepth 65536 in
theorem w_t1 : (words1.take 24).all (fun c => isCode c || c.before args0 about1) = true := by decide +kernel
set_option maxRecDepth 65536 in
theorem w_t2 : (words1.drop 24).all (fun c => isCode c || c.before args0 about1) = true := by decide +kernel
theorem w_tables : (allAtoms (Jvm.Cond.code x code maxLocals ret :: tables_1)).before args0 about1 = true := by
  rw [allAtoms_all]
  show words1.all (fun c => c.before args0 about1) = true
  refine all_split ?_ w_codes
  rw [← List.take_append_drop 24 words1, List.all_append, w_t1, w_t2]
  rfl
set_option maxRecDepth 65536 in
theorem w_case : (Jvm.Cond.and given_1 narrow_1).before args0 about1 = true := by decide +kernel
theorem w_applies : (headSpec (Jvm.Cond.code x code maxLocals ret :: tables_1) room_1).applies x e0.platform about1 = true :=
  (Spec.applies_iff w_frames).mpr ⟨w_running, w_runnable, w_alone, w_named, w_hears, w_ripe, w_room, w_tables⟩
theorem atStart : AtStart classFile x code maxLocals ret World_1 tables_1 room_1 Calls_1 rest_1 Pre_1 launch0 p0 e0 about1 theMethod args0 below0 :=
  ⟨lists_1, trivial, launch0.admits_env _ _ _, launch0.least_env, fairChoices_fair.cas, fairChoices_fair.clock, w_frames, w_args, w_heap, w_applies, trivial, trivial, w_case⟩
end start1
theorem witness_1 : WitnessClaimed_1 := ⟨start1.p0, start1.e0, start1.about1, start1.theMethod, start1.args0, start1.below0, start1.atStart⟩
end Jvm.Pilot.@@N@@
