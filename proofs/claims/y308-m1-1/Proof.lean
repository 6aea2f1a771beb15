import JvmDerived
import JvmDerived.Pilot.@@N@@Statement
import JvmDerived.Pilot.@@N@@Code
set_option linter.unusedVariables false
set_option linter.unusedSimpArgs false
namespace Jvm.Pilot.@@N@@
open Jvm Jvm.ClassFile Sem Op Lib Jvm.Free Jvm.Stand Jvm.LawKit Jvm.RoadKit Bundle Jvm.Pilot.@@N@@.Jvm.D
theorem own_go {α β : Sort _} {A B : α → Prop} {P : α → β → Prop} (k : ∀ t, A t → B t) (h : ∃ t o, A t ∧ P t o) : ∃ t o, B t ∧ P t o := by
  obtain ⟨t, o, h1, h2⟩ := h
  exact ⟨t, o, k t h1, h2⟩
theorem own_abs {α β : Sort _} {A : α → Prop} {P : α → β → Prop} (h : ∀ P' : α → β → Prop, (∀ t o, P t o → P' t o) → ∃ t o, A t ∧ P' t o) : ∃ t o, A t ∧ P t o := h P fun _ _ q => q
theorem own_cat1 {v : Value} (h : v.isRef = true) : v.category = 1 := by rcases ref_cases h with rfl | ⟨_, rfl⟩ <;> rfl
theorem own_slot1 {v : Value} (h : v.isRef = true) : Slot.val v = .unset ∨ ∃ w, Slot.val v = .val w ∧ w.category = 1 := Or.inr ⟨v, rfl, own_cat1 h⟩
theorem own_nar {C : String} {w : Value} (h : w.isRef = true) : narrow (.object C) w = w := by rcases ref_cases h with rfl | ⟨_, rfl⟩ <;> rfl
def own_g : Int64 := -7046029254386353131
def own_m1 (s : Int64) : Int64 := (s ^^^ ((s.toUInt64 >>> ((30 : Int32) &&& 0x3f).toInt64.toUInt64).toInt64)) * (-4658895280553007687 : Int64)
def own_m2 (z : Int64) : Int64 := (z ^^^ ((z.toUInt64 >>> ((27 : Int32) &&& 0x3f).toInt64.toUInt64).toInt64)) * (-7723592293110705685 : Int64)
def own_m3 (z : Int64) : Int64 := z ^^^ ((z.toUInt64 >>> ((31 : Int32) &&& 0x3f).toInt64.toUInt64).toInt64)
def own_mix (s : Int64) : Int64 := own_m3 (own_m2 (own_m1 s))
def own_ref (i : Int32) : Int64 := if i = (0 : Int32) then 6457827717110365317 else if i = (1 : Int32) then 3203168211198807973 else if i = (2 : Int32) then -8629252141511181193 else if i = (3 : Int32) then 4593380528125082431 else -2037821214251327795
theorem own_m (x : Int32) : x &&& 3 = 0 ∨ x &&& 3 = 1 ∨ x &&& 3 = 2 ∨ x &&& 3 = 3 := by
  have e := c_mask x 3 2 (by decide) (by decide)
  have q : (x &&& 3).toInt = (0 : Int32).toInt ∨ (x &&& 3).toInt = (1 : Int32).toInt ∨ (x &&& 3).toInt = (2 : Int32).toInt ∨ (x &&& 3).toInt = (3 : Int32).toInt := by
    show _ = 0 ∨ _ = 1 ∨ _ = 2 ∨ _ = 3
    rw [e]; have : ((2 ^ 2 : Nat) : Int) = 4 := rfl
    omega
  rcases q with q | q | q | q
  · exact Or.inl (Int32.toInt_inj.mp q)
  · exact Or.inr (Or.inl (Int32.toInt_inj.mp q))
  · exact Or.inr (Or.inr (Or.inl (Int32.toInt_inj.mp q)))
  · exact Or.inr (Or.inr (Or.inr (Int32.toInt_inj.mp q)))
theorem own_d_prog_3_method_1_code_0 : decode prog_3_method_1_code 0 = .ok (.aload_n 0, 1) := by decide +kernel
theorem own_d_prog_3_method_1_code_1 : decode prog_3_method_1_code 1 = .ok (.invokespecial 1, 3) := by decide +kernel
theorem own_d_prog_3_method_1_code_4 : decode prog_3_method_1_code 4 = .ok (.aload_n 0, 1) := by decide +kernel
theorem own_d_prog_3_method_1_code_5 : decode prog_3_method_1_code 5 = .ok (.lload_n 1, 1) := by decide +kernel
theorem own_d_prog_3_method_1_code_6 : decode prog_3_method_1_code 6 = .ok (.putfield 7, 3) := by decide +kernel
theorem own_d_prog_3_method_1_code_9 : decode prog_3_method_1_code 9 = .ok (.return_, 1) := by decide +kernel
theorem own_ef_init (m : MethodId) (x0 : Addr) (x1 : Int64) : entryFrame m #[(.ref x0), (.long x1)] 3 = mkF m 0 #[.val (.ref x0), .val (.long x1), .second] [] := by first | (simp [entryFrame, mkF, argsToLocals, Value.category]; done) | rfl
def own_Q_init (Z : State) (pa : Addr) (pj : Int64) (u0 : Int64) (h0 : Heap) (n0 : Nat) (v : Option Value) (h : Heap) (L : List Loc) : Prop := v = none ∧ Fr n0 L ∧ Keep h0 h [pa] ∧ Exa Z h pa "com/example/composure/composure/generate/SplitMix64" ∧ Fld Z h pa "com/example/composure/composure/generate/SplitMix64" "state" "J" (.long pj)
theorem own_pn_com_example_composure_composure_generate_SplitMix64 : plainName "com/example/composure/composure/generate/SplitMix64" = true := by first | (simp [plainName, overriddenIn]; done) | decide +kernel
set_option maxRecDepth 65536 in
set_option maxHeartbeats 40000000 in
theorem own_rm_init (l : Launch) (Z : State) (a0 : Array Value) (hw : ∀ d ∈ tables_1, d.before a0 Z = true) (ws : List Jvm.Cond) (pa : Addr) (pj : Int64) (u0 : Int64) (h0 : Heap) (n0 : Nat) (Z0 : n0 ≤ h0.size) (F0 : Fld Z h0 pa "com/example/composure/composure/generate/SplitMix64" "state" "J" (.long u0)) (E0 : Exa Z h0 pa "com/example/composure/composure/generate/SplitMix64") (g_pa : n0 ≤ pa) :
    MetFree l (⟨"com/example/composure/composure/generate/SplitMix64", "<init>", "(J)V"⟩ : MethodName) (head1 (Jvm.Cond.code (⟨"com/example/composure/composure/generate/SplitMix64", "<init>", "(J)V"⟩ : MethodName) prog_3_method_1_code 3 none :: ws) ({ frames := 1, cells := 0, slots := 0, locals := 12 } : Room)) (fun a U => a = #[(.ref pa), (.long pj)] ∧ Z.Warmed39 U.vm ∧ U.heap = h0) (fun _ _ _ _ _ => True) (fun _ U o U' => ∃ v L, o = .returned v ∧ own_Q_init Z pa pj u0 h0 n0 v U'.heap L ∧ FrameEnd U o U' L ({ frames := 1, cells := 0, slots := 0, locals := 12 } : Room).cells ({ frames := 1, cells := 0, slots := 0, locals := 12 } : Room).slots) := by
  refine MetFree.of_bodySF (plainFor_of_name own_pn_com_example_composure_composure_generate_SplitMix64) hisR ?_
  intro p e s m args below meth c s₁ Bd hml0 hP hKq_
  obtain ⟨rfl, hZ, hh⟩ := hP
  have hx := Bd.exec
  have hby := Bd.bytes
  have hml : c.maxLocals = 3 := hml0
  have hown : s.vm.findClass "com/example/composure/composure/generate/SplitMix64" = some m.cls := findClass_of_methodNamed Bd.named
  have hnm := (name_of_methodNamed Bd.named Bd.method).1
  have X0 : Stand p l e ({ frames := 1, cells := 0, slots := 0, locals := 12 } : Room) s m #[(.ref pa), (.long pj)] below meth c s₁ [] 0 0 := Stand.of_body Bd
  have e0 : s₁.heap = h0 := by rw [← hh, Bd.state]; rfl
  have N0 := Fr.nil n0
  have pre0 : ∀ t, Steps p.tables e below (s₁.setTop (mkF m 0 #[.val (.ref pa), .val (.long pj), .second] [])) t → Steps p.tables e below (s₁.setTop (entryFrame m #[(.ref pa), (.long pj)] 3)) t := fun t k => castTop (own_ef_init m pa pj) k
  refine own_go pre0 ?_
  refine own_abs ?_
  intro Pf hPf
  have k1 : ∀ t, Steps p.tables e below (s₁.setTop (mkF m 1 #[.val (.ref pa), .val (.long pj), .second] [(.ref pa)])) t → Steps p.tables e below (s₁.setTop (mkF m 0 #[.val (.ref pa), .val (.long pj), .second] [])) t := fun t k => by
    refine XS.aloadN X0.here hx rfl (hb hby own_d_prog_3_method_1_code_0) rfl rfl ?_
    show Steps p.tables e below (s₁.setTop (mkF m 1 #[.val (.ref pa), .val (.long pj), .second] [(.ref pa)])) _
    exact k
  refine own_go k1 ?_
  clear k1
  obtain ⟨T2, X2, e2, st2⟩ := initO X0 hx hZ hown (hw _ (List.mem_of_getElem? (i := 7) rfl)) (hw _ (List.mem_of_getElem? (i := 8) rfl)) (hw _ (List.mem_of_getElem? (i := 9) rfl)) e0 (g := (mkF m 1 #[.val (.ref pa), .val (.long pj), .second] [(.ref pa)])) rfl (by rw [hml]; rfl) rfl (hb hby own_d_prog_3_method_1_code_1) (by decide) (W := 0) (by show 2 * 0 + _ ≤ _; exact Nat.le_of_eq rfl) (by decide)
  refine own_go st2 ?_
  have k3 : ∀ t, Steps p.tables e below (T2.setTop (mkF m 6 #[.val (.ref pa), .val (.long pj), .second] [(.long pj), (.ref pa)])) t → Steps p.tables e below (T2.setTop (mkF m 4 #[.val (.ref pa), .val (.long pj), .second] [])) t := fun t k => by
    refine XS.aloadN X2.here hx rfl (hb hby own_d_prog_3_method_1_code_4) rfl rfl ?_
    show Steps p.tables e below (T2.setTop (mkF m 5 #[.val (.ref pa), .val (.long pj), .second] [(.ref pa)])) _
    refine XS.lloadN X2.here hx rfl (hb hby own_d_prog_3_method_1_code_5) rfl ?_
    show Steps p.tables e below (T2.setTop (mkF m 6 #[.val (.ref pa), .val (.long pj), .second] [(.long pj), (.ref pa)])) _
    exact k
  refine own_go k3 ?_
  clear k3
  obtain ⟨T4, h4, X4, e4, W4, st4⟩ := putF X2 hx hZ hown (host := "") (Or.inl (hw _ (List.mem_of_getElem? (i := 10) rfl))) Via.refl e2 F0 E0 (Or.inl (hw _ (List.mem_of_getElem? (i := 11) rfl))) (hw _ (List.mem_of_getElem? (i := 2) rfl)) (ty := .long) (by decide) rfl rfl (g := (mkF m 6 #[.val (.ref pa), .val (.long pj), .second] [(.long pj), (.ref pa)])) rfl rfl (hb hby own_d_prog_3_method_1_code_6)
  refine own_go st4 ?_
  have f4_0 : Fld Z h4 pa "com/example/composure/composure/generate/SplitMix64" "state" "J" (.long pj) := F0.same W4
  have f4_1 : Exa Z h4 pa "com/example/composure/composure/generate/SplitMix64" := E0.wr W4
  have N4 := Fr.snoc X4 N0 g_pa
  have Z4 : n0 ≤ h4.size := Nat.le_trans Z0 (Keep.of_wr W4).1
  have K4 : Keep h0 h4 [pa] := (Keep.refl h0 [pa]).wr W4 (Or.inl (List.mem_of_getElem? (i := 0) rfl))
  obtain ⟨fs, hr, hrun, hended, hW, hsame⟩ := X4.leave (v := none) (fun _ => rfl)
  refine ⟨_, _, X4.returnOut hx Bd.returns (hb hby own_d_prog_3_method_1_code_9) hr, hPf _ _ ⟨hrun, hended, _, _, rfl, ?_, ⟨_, rfl⟩, hW, hsame.mono (by decide) (by decide)⟩⟩
  show own_Q_init Z pa pj u0 h0 n0 _ T4.heap _
  rw [e4]
  exact ⟨rfl, N4, K4, f4_1, f4_0⟩
theorem own_d_prog_3_method_2_code_0 : decode prog_3_method_2_code 0 = .ok (.aload_n 0, 1) := by decide +kernel
theorem own_d_prog_3_method_2_code_1 : decode prog_3_method_2_code 1 = .ok (.dup, 1) := by decide +kernel
theorem own_d_prog_3_method_2_code_2 : decode prog_3_method_2_code 2 = .ok (.getfield 7, 3) := by decide +kernel
theorem own_d_prog_3_method_2_code_5 : decode prog_3_method_2_code 5 = .ok (.ldc2_w 13, 3) := by decide +kernel
theorem own_d_prog_3_method_2_code_8 : decode prog_3_method_2_code 8 = .ok (.ladd, 1) := by decide +kernel
theorem own_d_prog_3_method_2_code_9 : decode prog_3_method_2_code 9 = .ok (.putfield 7, 3) := by decide +kernel
theorem own_d_prog_3_method_2_code_12 : decode prog_3_method_2_code 12 = .ok (.aload_n 0, 1) := by decide +kernel
theorem own_d_prog_3_method_2_code_13 : decode prog_3_method_2_code 13 = .ok (.getfield 7, 3) := by decide +kernel
theorem own_d_prog_3_method_2_code_16 : decode prog_3_method_2_code 16 = .ok (.aload_n 0, 1) := by decide +kernel
theorem own_d_prog_3_method_2_code_17 : decode prog_3_method_2_code 17 = .ok (.getfield 7, 3) := by decide +kernel
theorem own_d_prog_3_method_2_code_20 : decode prog_3_method_2_code 20 = .ok (.bipush 30, 2) := by decide +kernel
theorem own_d_prog_3_method_2_code_22 : decode prog_3_method_2_code 22 = .ok (.lushr, 1) := by decide +kernel
theorem own_d_prog_3_method_2_code_23 : decode prog_3_method_2_code 23 = .ok (.lxor, 1) := by decide +kernel
theorem own_d_prog_3_method_2_code_24 : decode prog_3_method_2_code 24 = .ok (.ldc2_w 15, 3) := by decide +kernel
theorem own_d_prog_3_method_2_code_27 : decode prog_3_method_2_code 27 = .ok (.lmul, 1) := by decide +kernel
theorem own_d_prog_3_method_2_code_28 : decode prog_3_method_2_code 28 = .ok (.lstore_n 1, 1) := by decide +kernel
theorem own_d_prog_3_method_2_code_29 : decode prog_3_method_2_code 29 = .ok (.lload_n 1, 1) := by decide +kernel
theorem own_d_prog_3_method_2_code_30 : decode prog_3_method_2_code 30 = .ok (.lload_n 1, 1) := by decide +kernel
theorem own_d_prog_3_method_2_code_31 : decode prog_3_method_2_code 31 = .ok (.bipush 27, 2) := by decide +kernel
theorem own_d_prog_3_method_2_code_33 : decode prog_3_method_2_code 33 = .ok (.lushr, 1) := by decide +kernel
theorem own_d_prog_3_method_2_code_34 : decode prog_3_method_2_code 34 = .ok (.lxor, 1) := by decide +kernel
theorem own_d_prog_3_method_2_code_35 : decode prog_3_method_2_code 35 = .ok (.ldc2_w 17, 3) := by decide +kernel
theorem own_d_prog_3_method_2_code_38 : decode prog_3_method_2_code 38 = .ok (.lmul, 1) := by decide +kernel
theorem own_d_prog_3_method_2_code_39 : decode prog_3_method_2_code 39 = .ok (.lstore_n 1, 1) := by decide +kernel
theorem own_d_prog_3_method_2_code_40 : decode prog_3_method_2_code 40 = .ok (.lload_n 1, 1) := by decide +kernel
theorem own_d_prog_3_method_2_code_41 : decode prog_3_method_2_code 41 = .ok (.lload_n 1, 1) := by decide +kernel
theorem own_d_prog_3_method_2_code_42 : decode prog_3_method_2_code 42 = .ok (.bipush 31, 2) := by decide +kernel
theorem own_d_prog_3_method_2_code_44 : decode prog_3_method_2_code 44 = .ok (.lushr, 1) := by decide +kernel
theorem own_d_prog_3_method_2_code_45 : decode prog_3_method_2_code 45 = .ok (.lxor, 1) := by decide +kernel
theorem own_d_prog_3_method_2_code_46 : decode prog_3_method_2_code 46 = .ok (.lreturn, 1) := by decide +kernel
theorem own_ef_next (m : MethodId) (x0 : Addr) : entryFrame m #[(.ref x0)] 3 = mkF m 0 #[.val (.ref x0), .unset, .unset] [] := by first | (simp [entryFrame, mkF, argsToLocals, Value.category]; done) | rfl
def own_Q_next (Z : State) (pa : Addr) (u0 : Int64) (h0 : Heap) (n0 : Nat) (v : Option Value) (h : Heap) (L : List Loc) : Prop := v = some (.long (own_mix (u0 + (-7046029254386353131 : Int64)))) ∧ Fr n0 L ∧ Keep h0 h [pa] ∧ Exa Z h pa "com/example/composure/composure/generate/SplitMix64" ∧ Fld Z h pa "com/example/composure/composure/generate/SplitMix64" "state" "J" (.long (u0 + (-7046029254386353131 : Int64)))
set_option maxRecDepth 65536 in
set_option maxHeartbeats 40000000 in
theorem own_rm_next (l : Launch) (Z : State) (a0 : Array Value) (hw : ∀ d ∈ tables_1, d.before a0 Z = true) (ws : List Jvm.Cond) (pa : Addr) (u0 : Int64) (h0 : Heap) (n0 : Nat) (Z0 : n0 ≤ h0.size) (F0 : Fld Z h0 pa "com/example/composure/composure/generate/SplitMix64" "state" "J" (.long u0)) (E0 : Exa Z h0 pa "com/example/composure/composure/generate/SplitMix64") (g_pa : n0 ≤ pa) :
    MetFree l (⟨"com/example/composure/composure/generate/SplitMix64", "next", "()J"⟩ : MethodName) (head1 (Jvm.Cond.code (⟨"com/example/composure/composure/generate/SplitMix64", "next", "()J"⟩ : MethodName) prog_3_method_2_code 3 (some .long) :: ws) ({ frames := 0, cells := 0, slots := 0, locals := 0 } : Room)) (fun a U => a = #[(.ref pa)] ∧ Z.Warmed39 U.vm ∧ U.heap = h0) (fun _ _ _ _ _ => True) (fun _ U o U' => ∃ v L, o = .returned v ∧ own_Q_next Z pa u0 h0 n0 v U'.heap L ∧ FrameEnd U o U' L ({ frames := 0, cells := 0, slots := 0, locals := 0 } : Room).cells ({ frames := 0, cells := 0, slots := 0, locals := 0 } : Room).slots) := by
  refine MetFree.of_bodySF (plainFor_of_name own_pn_com_example_composure_composure_generate_SplitMix64) hisR ?_
  intro p e s m args below meth c s₁ Bd hml0 hP hKq_
  obtain ⟨rfl, hZ, hh⟩ := hP
  have hx := Bd.exec
  have hby := Bd.bytes
  have hml : c.maxLocals = 3 := hml0
  have hown : s.vm.findClass "com/example/composure/composure/generate/SplitMix64" = some m.cls := findClass_of_methodNamed Bd.named
  have hnm := (name_of_methodNamed Bd.named Bd.method).1
  have X0 : Stand p l e ({ frames := 0, cells := 0, slots := 0, locals := 0 } : Room) s m #[(.ref pa)] below meth c s₁ [] 0 0 := Stand.of_body Bd
  have e0 : s₁.heap = h0 := by rw [← hh, Bd.state]; rfl
  have N0 := Fr.nil n0
  have pre0 : ∀ t, Steps p.tables e below (s₁.setTop (mkF m 0 #[.val (.ref pa), .unset, .unset] [])) t → Steps p.tables e below (s₁.setTop (entryFrame m #[(.ref pa)] 3)) t := fun t k => castTop (own_ef_next m pa) k
  refine own_go pre0 ?_
  refine own_abs ?_
  intro Pf hPf
  have k1 : ∀ t, Steps p.tables e below (s₁.setTop (mkF m 2 #[.val (.ref pa), .unset, .unset] [(.ref pa), (.ref pa)])) t → Steps p.tables e below (s₁.setTop (mkF m 0 #[.val (.ref pa), .unset, .unset] [])) t := fun t k => by
    refine XS.aloadN X0.here hx rfl (hb hby own_d_prog_3_method_2_code_0) rfl rfl ?_
    show Steps p.tables e below (s₁.setTop (mkF m 1 #[.val (.ref pa), .unset, .unset] [(.ref pa)])) _
    refine XS.dup X0.here hx rfl (hb hby own_d_prog_3_method_2_code_1) rfl rfl ?_
    show Steps p.tables e below (s₁.setTop (mkF m 2 #[.val (.ref pa), .unset, .unset] [(.ref pa), (.ref pa)])) _
    exact k
  refine own_go k1 ?_
  clear k1
  obtain ⟨T2, X2, e2, st2⟩ := getF X0 hx hZ hown (host := "") (Or.inl (hw _ (List.mem_of_getElem? (i := 10) rfl))) Via.refl e0 F0 (g := (mkF m 2 #[.val (.ref pa), .unset, .unset] [(.ref pa), (.ref pa)])) rfl rfl (hb hby own_d_prog_3_method_2_code_2)
  refine own_go st2 ?_
  have k3 : ∀ t, Steps p.tables e below (T2.setTop (mkF m 9 #[.val (.ref pa), .unset, .unset] [(.long (u0 + (-7046029254386353131 : Int64))), (.ref pa)])) t → Steps p.tables e below (T2.setTop (mkF m 5 #[.val (.ref pa), .unset, .unset] [(.long u0), (.ref pa)])) t := fun t k => by
    refine X2.ldc2Long hx hown (mvT hZ (hw _ (List.mem_of_getElem? (i := 17) rfl))) (g := (mkF m 5 #[.val (.ref pa), .unset, .unset] [(.long u0), (.ref pa)])) rfl (hb hby own_d_prog_3_method_2_code_5) _ ?_
    show Steps p.tables e below (T2.setTop (mkF m 8 #[.val (.ref pa), .unset, .unset] [(.long (-7046029254386353131 : Int64)), (.long u0), (.ref pa)])) _
    refine XS.ladd X2.here hx rfl (hb hby own_d_prog_3_method_2_code_8) rfl ?_
    show Steps p.tables e below (T2.setTop (mkF m 9 #[.val (.ref pa), .unset, .unset] [(.long (u0 + (-7046029254386353131 : Int64))), (.ref pa)])) _
    exact k
  refine own_go k3 ?_
  clear k3
  obtain ⟨T4, h4, X4, e4, W4, st4⟩ := putF X2 hx hZ hown (host := "") (Or.inl (hw _ (List.mem_of_getElem? (i := 10) rfl))) Via.refl e2 F0 E0 (Or.inl (hw _ (List.mem_of_getElem? (i := 11) rfl))) (hw _ (List.mem_of_getElem? (i := 2) rfl)) (ty := .long) (by decide) rfl rfl (g := (mkF m 9 #[.val (.ref pa), .unset, .unset] [(.long (u0 + (-7046029254386353131 : Int64))), (.ref pa)])) rfl rfl (hb hby own_d_prog_3_method_2_code_9)
  refine own_go st4 ?_
  have f4_0 : Fld Z h4 pa "com/example/composure/composure/generate/SplitMix64" "state" "J" (.long (u0 + (-7046029254386353131 : Int64))) := F0.same W4
  have f4_1 : Exa Z h4 pa "com/example/composure/composure/generate/SplitMix64" := E0.wr W4
  have N4 := Fr.snoc X4 N0 g_pa
  have Z4 : n0 ≤ h4.size := Nat.le_trans Z0 (Keep.of_wr W4).1
  have K4 : Keep h0 h4 [pa] := (Keep.refl h0 [pa]).wr W4 (Or.inl (List.mem_of_getElem? (i := 0) rfl))
  have k5 : ∀ t, Steps p.tables e below (T4.setTop (mkF m 13 #[.val (.ref pa), .unset, .unset] [(.ref pa)])) t → Steps p.tables e below (T4.setTop (mkF m 12 #[.val (.ref pa), .unset, .unset] [])) t := fun t k => by
    refine XS.aloadN X4.here hx rfl (hb hby own_d_prog_3_method_2_code_12) rfl rfl ?_
    show Steps p.tables e below (T4.setTop (mkF m 13 #[.val (.ref pa), .unset, .unset] [(.ref pa)])) _
    exact k
  refine own_go k5 ?_
  clear k5
  obtain ⟨T6, X6, e6, st6⟩ := getF X4 hx hZ hown (host := "") (Or.inl (hw _ (List.mem_of_getElem? (i := 10) rfl))) Via.refl e4 f4_0 (g := (mkF m 13 #[.val (.ref pa), .unset, .unset] [(.ref pa)])) rfl rfl (hb hby own_d_prog_3_method_2_code_13)
  refine own_go st6 ?_
  have k7 : ∀ t, Steps p.tables e below (T6.setTop (mkF m 17 #[.val (.ref pa), .unset, .unset] [(.ref pa), (.long (u0 + (-7046029254386353131 : Int64)))])) t → Steps p.tables e below (T6.setTop (mkF m 16 #[.val (.ref pa), .unset, .unset] [(.long (u0 + (-7046029254386353131 : Int64)))])) t := fun t k => by
    refine XS.aloadN X6.here hx rfl (hb hby own_d_prog_3_method_2_code_16) rfl rfl ?_
    show Steps p.tables e below (T6.setTop (mkF m 17 #[.val (.ref pa), .unset, .unset] [(.ref pa), (.long (u0 + (-7046029254386353131 : Int64)))])) _
    exact k
  refine own_go k7 ?_
  clear k7
  obtain ⟨T8, X8, e8, st8⟩ := getF X6 hx hZ hown (host := "") (Or.inl (hw _ (List.mem_of_getElem? (i := 10) rfl))) Via.refl e6 f4_0 (g := (mkF m 17 #[.val (.ref pa), .unset, .unset] [(.ref pa), (.long (u0 + (-7046029254386353131 : Int64)))])) rfl rfl (hb hby own_d_prog_3_method_2_code_17)
  refine own_go st8 ?_
  have k9 : ∀ t, Steps p.tables e below (T8.setTop (mkF m 28 #[.val (.ref pa), .unset, .unset] [(.long (((u0 + (-7046029254386353131 : Int64)) ^^^ (((u0 + (-7046029254386353131 : Int64)).toUInt64 >>> ((30 : Int32) &&& 0x3f).toInt64.toUInt64).toInt64)) * (-4658895280553007687 : Int64)))])) t → Steps p.tables e below (T8.setTop (mkF m 20 #[.val (.ref pa), .unset, .unset] [(.long (u0 + (-7046029254386353131 : Int64))), (.long (u0 + (-7046029254386353131 : Int64)))])) t := fun t k => by
    refine XS.bipush X8.here hx rfl (hb hby own_d_prog_3_method_2_code_20) ?_
    show Steps p.tables e below (T8.setTop (mkF m 22 #[.val (.ref pa), .unset, .unset] [(.int (30 : Int32)), (.long (u0 + (-7046029254386353131 : Int64))), (.long (u0 + (-7046029254386353131 : Int64)))])) _
    refine XS.lushr X8.here hx rfl (hb hby own_d_prog_3_method_2_code_22) rfl ?_
    show Steps p.tables e below (T8.setTop (mkF m 23 #[.val (.ref pa), .unset, .unset] [(.long (((u0 + (-7046029254386353131 : Int64)).toUInt64 >>> ((30 : Int32) &&& 0x3f).toInt64.toUInt64).toInt64)), (.long (u0 + (-7046029254386353131 : Int64)))])) _
    refine XS.lxor X8.here hx rfl (hb hby own_d_prog_3_method_2_code_23) rfl ?_
    show Steps p.tables e below (T8.setTop (mkF m 24 #[.val (.ref pa), .unset, .unset] [(.long ((u0 + (-7046029254386353131 : Int64)) ^^^ (((u0 + (-7046029254386353131 : Int64)).toUInt64 >>> ((30 : Int32) &&& 0x3f).toInt64.toUInt64).toInt64)))])) _
    refine X8.ldc2Long hx hown (mvT hZ (hw _ (List.mem_of_getElem? (i := 18) rfl))) (g := (mkF m 24 #[.val (.ref pa), .unset, .unset] [(.long ((u0 + (-7046029254386353131 : Int64)) ^^^ (((u0 + (-7046029254386353131 : Int64)).toUInt64 >>> ((30 : Int32) &&& 0x3f).toInt64.toUInt64).toInt64)))])) rfl (hb hby own_d_prog_3_method_2_code_24) _ ?_
    show Steps p.tables e below (T8.setTop (mkF m 27 #[.val (.ref pa), .unset, .unset] [(.long (-4658895280553007687 : Int64)), (.long ((u0 + (-7046029254386353131 : Int64)) ^^^ (((u0 + (-7046029254386353131 : Int64)).toUInt64 >>> ((30 : Int32) &&& 0x3f).toInt64.toUInt64).toInt64)))])) _
    refine XS.lmul X8.here hx rfl (hb hby own_d_prog_3_method_2_code_27) rfl ?_
    show Steps p.tables e below (T8.setTop (mkF m 28 #[.val (.ref pa), .unset, .unset] [(.long (((u0 + (-7046029254386353131 : Int64)) ^^^ (((u0 + (-7046029254386353131 : Int64)).toUInt64 >>> ((30 : Int32) &&& 0x3f).toInt64.toUInt64).toInt64)) * (-4658895280553007687 : Int64)))])) _
    exact k
  refine own_go k9 ?_
  clear k9
  obtain ⟨z1, h_z1⟩ : ∃ z, z = (((u0 + (-7046029254386353131 : Int64)) ^^^ (((u0 + (-7046029254386353131 : Int64)).toUInt64 >>> ((30 : Int32) &&& 0x3f).toInt64.toUInt64).toInt64)) * (-4658895280553007687 : Int64)) := ⟨_, rfl⟩
  rw [← h_z1]
  have k10 : ∀ t, Steps p.tables e below (T8.setTop (mkF m 39 #[.val (.ref pa), .val (.long z1), .second] [(.long ((z1 ^^^ ((z1.toUInt64 >>> ((27 : Int32) &&& 0x3f).toInt64.toUInt64).toInt64)) * (-7723592293110705685 : Int64)))])) t → Steps p.tables e below (T8.setTop (mkF m 28 #[.val (.ref pa), .unset, .unset] [(.long z1)])) t := fun t k => by
    refine XS.lstoreN X8.here hx rfl (hb hby own_d_prog_3_method_2_code_28) rfl (l' := #[.val (.ref pa), .val (.long z1), .second]) rfl ?_
    show Steps p.tables e below (T8.setTop (mkF m 29 #[.val (.ref pa), .val (.long z1), .second] [])) _
    refine XS.lloadN X8.here hx rfl (hb hby own_d_prog_3_method_2_code_29) rfl ?_
    show Steps p.tables e below (T8.setTop (mkF m 30 #[.val (.ref pa), .val (.long z1), .second] [(.long z1)])) _
    refine XS.lloadN X8.here hx rfl (hb hby own_d_prog_3_method_2_code_30) rfl ?_
    show Steps p.tables e below (T8.setTop (mkF m 31 #[.val (.ref pa), .val (.long z1), .second] [(.long z1), (.long z1)])) _
    refine XS.bipush X8.here hx rfl (hb hby own_d_prog_3_method_2_code_31) ?_
    show Steps p.tables e below (T8.setTop (mkF m 33 #[.val (.ref pa), .val (.long z1), .second] [(.int (27 : Int32)), (.long z1), (.long z1)])) _
    refine XS.lushr X8.here hx rfl (hb hby own_d_prog_3_method_2_code_33) rfl ?_
    show Steps p.tables e below (T8.setTop (mkF m 34 #[.val (.ref pa), .val (.long z1), .second] [(.long ((z1.toUInt64 >>> ((27 : Int32) &&& 0x3f).toInt64.toUInt64).toInt64)), (.long z1)])) _
    refine XS.lxor X8.here hx rfl (hb hby own_d_prog_3_method_2_code_34) rfl ?_
    show Steps p.tables e below (T8.setTop (mkF m 35 #[.val (.ref pa), .val (.long z1), .second] [(.long (z1 ^^^ ((z1.toUInt64 >>> ((27 : Int32) &&& 0x3f).toInt64.toUInt64).toInt64)))])) _
    refine X8.ldc2Long hx hown (mvT hZ (hw _ (List.mem_of_getElem? (i := 19) rfl))) (g := (mkF m 35 #[.val (.ref pa), .val (.long z1), .second] [(.long (z1 ^^^ ((z1.toUInt64 >>> ((27 : Int32) &&& 0x3f).toInt64.toUInt64).toInt64)))])) rfl (hb hby own_d_prog_3_method_2_code_35) _ ?_
    show Steps p.tables e below (T8.setTop (mkF m 38 #[.val (.ref pa), .val (.long z1), .second] [(.long (-7723592293110705685 : Int64)), (.long (z1 ^^^ ((z1.toUInt64 >>> ((27 : Int32) &&& 0x3f).toInt64.toUInt64).toInt64)))])) _
    refine XS.lmul X8.here hx rfl (hb hby own_d_prog_3_method_2_code_38) rfl ?_
    show Steps p.tables e below (T8.setTop (mkF m 39 #[.val (.ref pa), .val (.long z1), .second] [(.long ((z1 ^^^ ((z1.toUInt64 >>> ((27 : Int32) &&& 0x3f).toInt64.toUInt64).toInt64)) * (-7723592293110705685 : Int64)))])) _
    exact k
  refine own_go k10 ?_
  clear k10
  obtain ⟨z2, h_z2⟩ : ∃ z, z = ((z1 ^^^ ((z1.toUInt64 >>> ((27 : Int32) &&& 0x3f).toInt64.toUInt64).toInt64)) * (-7723592293110705685 : Int64)) := ⟨_, rfl⟩
  rw [← h_z2]
  have k11 : ∀ t, Steps p.tables e below (T8.setTop (mkF m 46 #[.val (.ref pa), .val (.long z2), .second] [(.long (z2 ^^^ ((z2.toUInt64 >>> ((31 : Int32) &&& 0x3f).toInt64.toUInt64).toInt64)))])) t → Steps p.tables e below (T8.setTop (mkF m 39 #[.val (.ref pa), .val (.long z1), .second] [(.long z2)])) t := fun t k => by
    refine XS.lstoreN X8.here hx rfl (hb hby own_d_prog_3_method_2_code_39) rfl (l' := #[.val (.ref pa), .val (.long z2), .second]) rfl ?_
    show Steps p.tables e below (T8.setTop (mkF m 40 #[.val (.ref pa), .val (.long z2), .second] [])) _
    refine XS.lloadN X8.here hx rfl (hb hby own_d_prog_3_method_2_code_40) rfl ?_
    show Steps p.tables e below (T8.setTop (mkF m 41 #[.val (.ref pa), .val (.long z2), .second] [(.long z2)])) _
    refine XS.lloadN X8.here hx rfl (hb hby own_d_prog_3_method_2_code_41) rfl ?_
    show Steps p.tables e below (T8.setTop (mkF m 42 #[.val (.ref pa), .val (.long z2), .second] [(.long z2), (.long z2)])) _
    refine XS.bipush X8.here hx rfl (hb hby own_d_prog_3_method_2_code_42) ?_
    show Steps p.tables e below (T8.setTop (mkF m 44 #[.val (.ref pa), .val (.long z2), .second] [(.int (31 : Int32)), (.long z2), (.long z2)])) _
    refine XS.lushr X8.here hx rfl (hb hby own_d_prog_3_method_2_code_44) rfl ?_
    show Steps p.tables e below (T8.setTop (mkF m 45 #[.val (.ref pa), .val (.long z2), .second] [(.long ((z2.toUInt64 >>> ((31 : Int32) &&& 0x3f).toInt64.toUInt64).toInt64)), (.long z2)])) _
    refine XS.lxor X8.here hx rfl (hb hby own_d_prog_3_method_2_code_45) rfl ?_
    show Steps p.tables e below (T8.setTop (mkF m 46 #[.val (.ref pa), .val (.long z2), .second] [(.long (z2 ^^^ ((z2.toUInt64 >>> ((31 : Int32) &&& 0x3f).toInt64.toUInt64).toInt64)))])) _
    exact k
  refine own_go k11 ?_
  clear k11
  obtain ⟨fs, hr, hrun, hended, hW, hsame⟩ := X8.leave (v := some (.long (z2 ^^^ ((z2.toUInt64 >>> ((31 : Int32) &&& 0x3f).toInt64.toUInt64).toInt64)))) (fun h => by rw [Bd.returns] at h; cases h)
  refine ⟨_, _, retOut X8 hx Bd.returns rfl (Or.inr (Or.inl ⟨rfl, rfl, _, rfl⟩)) (hb hby own_d_prog_3_method_2_code_46) hr, hPf _ _ ⟨hrun, hended, _, _, rfl, ?_, ⟨_, rfl⟩, hW, hsame.mono (by decide) (by decide)⟩⟩
  show own_Q_next Z pa u0 h0 n0 _ T8.heap _
  rw [e8]
  exact ⟨by rw [h_z2, h_z1]; rfl, N4, K4, f4_1, f4_0⟩
theorem own_d_method_2_code_0 : decode method_2_code 0 = .ok (.iload_n 0, 1) := by decide +kernel
theorem own_d_method_2_code_1 : decode method_2_code 1 = .ok (.ifCond .ne 7, 3) := by decide +kernel
theorem own_d_method_2_code_4 : decode method_2_code 4 = .ok (.ldc2_w 7, 3) := by decide +kernel
theorem own_d_method_2_code_7 : decode method_2_code 7 = .ok (.lreturn, 1) := by decide +kernel
theorem own_d_method_2_code_8 : decode method_2_code 8 = .ok (.iload_n 0, 1) := by decide +kernel
theorem own_d_method_2_code_9 : decode method_2_code 9 = .ok (.iconst 1, 1) := by decide +kernel
theorem own_d_method_2_code_10 : decode method_2_code 10 = .ok (.if_icmp .ne 7, 3) := by decide +kernel
theorem own_d_method_2_code_13 : decode method_2_code 13 = .ok (.ldc2_w 9, 3) := by decide +kernel
theorem own_d_method_2_code_16 : decode method_2_code 16 = .ok (.lreturn, 1) := by decide +kernel
theorem own_d_method_2_code_17 : decode method_2_code 17 = .ok (.iload_n 0, 1) := by decide +kernel
theorem own_d_method_2_code_18 : decode method_2_code 18 = .ok (.iconst 2, 1) := by decide +kernel
theorem own_d_method_2_code_19 : decode method_2_code 19 = .ok (.if_icmp .ne 7, 3) := by decide +kernel
theorem own_d_method_2_code_22 : decode method_2_code 22 = .ok (.ldc2_w 11, 3) := by decide +kernel
theorem own_d_method_2_code_25 : decode method_2_code 25 = .ok (.lreturn, 1) := by decide +kernel
theorem own_d_method_2_code_26 : decode method_2_code 26 = .ok (.iload_n 0, 1) := by decide +kernel
theorem own_d_method_2_code_27 : decode method_2_code 27 = .ok (.iconst 3, 1) := by decide +kernel
theorem own_d_method_2_code_28 : decode method_2_code 28 = .ok (.if_icmp .ne 7, 3) := by decide +kernel
theorem own_d_method_2_code_31 : decode method_2_code 31 = .ok (.ldc2_w 13, 3) := by decide +kernel
theorem own_d_method_2_code_34 : decode method_2_code 34 = .ok (.lreturn, 1) := by decide +kernel
theorem own_d_method_2_code_35 : decode method_2_code 35 = .ok (.ldc2_w 15, 3) := by decide +kernel
theorem own_d_method_2_code_38 : decode method_2_code 38 = .ok (.lreturn, 1) := by decide +kernel
theorem own_ef_ref (m : MethodId) (x0 : Int32) : entryFrame m #[(.int x0)] 1 = mkF m 0 #[.val (.int x0)] [] := by first | (simp [entryFrame, mkF, argsToLocals, Value.category]; done) | rfl
def own_Q_ref (Z : State) (ix : Int32)  (h0 : Heap) (n0 : Nat) (v : Option Value) (h : Heap) (L : List Loc) : Prop := v = some (.long (own_ref ix)) ∧ Fr n0 L ∧ h = h0
theorem own_pn_com_example_composure_composure_generate_SplitMix64NextPinLaw : plainName "com/example/composure/composure/generate/SplitMix64NextPinLaw" = true := by first | (simp [plainName, overriddenIn]; done) | decide +kernel
set_option maxRecDepth 65536 in
set_option maxHeartbeats 40000000 in
theorem own_rm_ref (l : Launch) (Z : State) (a0 : Array Value) (hw : ∀ d ∈ tables_1, d.before a0 Z = true) (ws : List Jvm.Cond) (ix : Int32)  (h0 : Heap) (n0 : Nat) (Z0 : n0 ≤ h0.size) :
    MetFree l (⟨"com/example/composure/composure/generate/SplitMix64NextPinLaw", "ref", "(I)J"⟩ : MethodName) (head1 (Jvm.Cond.code (⟨"com/example/composure/composure/generate/SplitMix64NextPinLaw", "ref", "(I)J"⟩ : MethodName) method_2_code 1 (some .long) :: ws) ({ frames := 0, cells := 0, slots := 0, locals := 0 } : Room)) (fun a U => a = #[(.int ix)] ∧ Z.Warmed39 U.vm ∧ U.heap = h0) (fun _ _ _ _ _ => True) (fun _ U o U' => ∃ v L, o = .returned v ∧ own_Q_ref Z ix h0 n0 v U'.heap L ∧ FrameEnd U o U' L ({ frames := 0, cells := 0, slots := 0, locals := 0 } : Room).cells ({ frames := 0, cells := 0, slots := 0, locals := 0 } : Room).slots) := by
  refine MetFree.of_bodySF (plainFor_of_name own_pn_com_example_composure_composure_generate_SplitMix64NextPinLaw) hisR ?_
  intro p e s m args below meth c s₁ Bd hml0 hP hKq_
  obtain ⟨rfl, hZ, hh⟩ := hP
  have hx := Bd.exec
  have hby := Bd.bytes
  have hml : c.maxLocals = 1 := hml0
  have hown : s.vm.findClass "com/example/composure/composure/generate/SplitMix64NextPinLaw" = some m.cls := findClass_of_methodNamed Bd.named
  have hnm := (name_of_methodNamed Bd.named Bd.method).1
  have X0 : Stand p l e ({ frames := 0, cells := 0, slots := 0, locals := 0 } : Room) s m #[(.int ix)] below meth c s₁ [] 0 0 := Stand.of_body Bd
  have e0 : s₁.heap = h0 := by rw [← hh, Bd.state]; rfl
  have N0 := Fr.nil n0
  have pre0 : ∀ t, Steps p.tables e below (s₁.setTop (mkF m 0 #[.val (.int ix)] [])) t → Steps p.tables e below (s₁.setTop (entryFrame m #[(.int ix)] 1)) t := fun t k => castTop (own_ef_ref m ix) k
  refine own_go pre0 ?_
  refine own_abs ?_
  intro Pf hPf
  have k1 : ∀ t, Steps p.tables e below (s₁.setTop (mkF m 1 #[.val (.int ix)] [(.int ix)])) t → Steps p.tables e below (s₁.setTop (mkF m 0 #[.val (.int ix)] [])) t := fun t k => by
    refine XS.iloadN X0.here hx rfl (hb hby own_d_method_2_code_0) rfl ?_
    show Steps p.tables e below (s₁.setTop (mkF m 1 #[.val (.int ix)] [(.int ix)])) _
    exact k
  refine own_go k1 ?_
  clear k1
  by_cases hc1_2 : ix = (0 : Int32)
  · skip
    have k3 : ∀ t, Steps p.tables e below (s₁.setTop (mkF m 7 #[.val (.int ix)] [(.long (6457827717110365317 : Int64))])) t → Steps p.tables e below (s₁.setTop (mkF m 1 #[.val (.int ix)] [(.int ix)])) t := fun t k => by
      refine XS.ifNo X0.here hx rfl (hb hby own_d_method_2_code_1) rfl ((if0 _ _).trans (teq hc1_2).2) ?_
      show Steps p.tables e below (s₁.setTop (mkF m 4 #[.val (.int ix)] [])) _
      refine X0.ldc2Long hx hown (mvT hZ (hw _ (List.mem_of_getElem? (i := 27) rfl))) (g := (mkF m 4 #[.val (.int ix)] [])) rfl (hb hby own_d_method_2_code_4) _ ?_
      show Steps p.tables e below (s₁.setTop (mkF m 7 #[.val (.int ix)] [(.long (6457827717110365317 : Int64))])) _
      exact k
    refine own_go k3 ?_
    clear k3
    obtain ⟨fs, hr, hrun, hended, hW, hsame⟩ := X0.leave (v := some (.long (6457827717110365317 : Int64))) (fun h => by rw [Bd.returns] at h; cases h)
    refine ⟨_, _, retOut X0 hx Bd.returns rfl (Or.inr (Or.inl ⟨rfl, rfl, _, rfl⟩)) (hb hby own_d_method_2_code_7) hr, hPf _ _ ⟨hrun, hended, _, _, rfl, ?_, ⟨_, rfl⟩, hW, hsame.mono (by decide) (by decide)⟩⟩
    show own_Q_ref Z ix h0 n0 _ s₁.heap _
    rw [e0]
    exact ⟨by unfold own_ref; rw [if_pos hc1_2], N0, rfl⟩
  · skip
    have k4 : ∀ t, Steps p.tables e below (s₁.setTop (mkF m 10 #[.val (.int ix)] [(.int (1 : Int32)), (.int ix)])) t → Steps p.tables e below (s₁.setTop (mkF m 1 #[.val (.int ix)] [(.int ix)])) t := fun t k => by
      refine XS.ifYes X0.here hx rfl (pc0 := 1) (pc' := 8) rfl (hb hby own_d_method_2_code_1) rfl ((if0 _ _).trans (feq hc1_2).2) (by decide) (by decide) ?_
      show Steps p.tables e below (s₁.setTop (mkF m 8 #[.val (.int ix)] [])) _
      refine XS.iloadN X0.here hx rfl (hb hby own_d_method_2_code_8) rfl ?_
      show Steps p.tables e below (s₁.setTop (mkF m 9 #[.val (.int ix)] [(.int ix)])) _
      refine XS.iconst X0.here hx rfl (hb hby own_d_method_2_code_9) ?_
      show Steps p.tables e below (s₁.setTop (mkF m 10 #[.val (.int ix)] [(.int (1 : Int32)), (.int ix)])) _
      exact k
    refine own_go k4 ?_
    clear k4
    by_cases hc10_5 : ix = (1 : Int32)
    · skip
      have k6 : ∀ t, Steps p.tables e below (s₁.setTop (mkF m 16 #[.val (.int ix)] [(.long (3203168211198807973 : Int64))])) t → Steps p.tables e below (s₁.setTop (mkF m 10 #[.val (.int ix)] [(.int (1 : Int32)), (.int ix)])) t := fun t k => by
        refine XS.icmpNo X0.here hx rfl (hb hby own_d_method_2_code_10) rfl (teq hc10_5).2 ?_
        show Steps p.tables e below (s₁.setTop (mkF m 13 #[.val (.int ix)] [])) _
        refine X0.ldc2Long hx hown (mvT hZ (hw _ (List.mem_of_getElem? (i := 28) rfl))) (g := (mkF m 13 #[.val (.int ix)] [])) rfl (hb hby own_d_method_2_code_13) _ ?_
        show Steps p.tables e below (s₁.setTop (mkF m 16 #[.val (.int ix)] [(.long (3203168211198807973 : Int64))])) _
        exact k
      refine own_go k6 ?_
      clear k6
      obtain ⟨fs, hr, hrun, hended, hW, hsame⟩ := X0.leave (v := some (.long (3203168211198807973 : Int64))) (fun h => by rw [Bd.returns] at h; cases h)
      refine ⟨_, _, retOut X0 hx Bd.returns rfl (Or.inr (Or.inl ⟨rfl, rfl, _, rfl⟩)) (hb hby own_d_method_2_code_16) hr, hPf _ _ ⟨hrun, hended, _, _, rfl, ?_, ⟨_, rfl⟩, hW, hsame.mono (by decide) (by decide)⟩⟩
      show own_Q_ref Z ix h0 n0 _ s₁.heap _
      rw [e0]
      exact ⟨by unfold own_ref; rw [if_neg hc1_2, if_pos hc10_5], N0, rfl⟩
    · skip
      have k7 : ∀ t, Steps p.tables e below (s₁.setTop (mkF m 19 #[.val (.int ix)] [(.int (2 : Int32)), (.int ix)])) t → Steps p.tables e below (s₁.setTop (mkF m 10 #[.val (.int ix)] [(.int (1 : Int32)), (.int ix)])) t := fun t k => by
        refine XS.icmpYes X0.here hx rfl (pc0 := 10) (pc' := 17) rfl (hb hby own_d_method_2_code_10) rfl (feq hc10_5).2 (by decide) (by decide) ?_
        show Steps p.tables e below (s₁.setTop (mkF m 17 #[.val (.int ix)] [])) _
        refine XS.iloadN X0.here hx rfl (hb hby own_d_method_2_code_17) rfl ?_
        show Steps p.tables e below (s₁.setTop (mkF m 18 #[.val (.int ix)] [(.int ix)])) _
        refine XS.iconst X0.here hx rfl (hb hby own_d_method_2_code_18) ?_
        show Steps p.tables e below (s₁.setTop (mkF m 19 #[.val (.int ix)] [(.int (2 : Int32)), (.int ix)])) _
        exact k
      refine own_go k7 ?_
      clear k7
      by_cases hc19_8 : ix = (2 : Int32)
      · skip
        have k9 : ∀ t, Steps p.tables e below (s₁.setTop (mkF m 25 #[.val (.int ix)] [(.long (-8629252141511181193 : Int64))])) t → Steps p.tables e below (s₁.setTop (mkF m 19 #[.val (.int ix)] [(.int (2 : Int32)), (.int ix)])) t := fun t k => by
          refine XS.icmpNo X0.here hx rfl (hb hby own_d_method_2_code_19) rfl (teq hc19_8).2 ?_
          show Steps p.tables e below (s₁.setTop (mkF m 22 #[.val (.int ix)] [])) _
          refine X0.ldc2Long hx hown (mvT hZ (hw _ (List.mem_of_getElem? (i := 24) rfl))) (g := (mkF m 22 #[.val (.int ix)] [])) rfl (hb hby own_d_method_2_code_22) _ ?_
          show Steps p.tables e below (s₁.setTop (mkF m 25 #[.val (.int ix)] [(.long (-8629252141511181193 : Int64))])) _
          exact k
        refine own_go k9 ?_
        clear k9
        obtain ⟨fs, hr, hrun, hended, hW, hsame⟩ := X0.leave (v := some (.long (-8629252141511181193 : Int64))) (fun h => by rw [Bd.returns] at h; cases h)
        refine ⟨_, _, retOut X0 hx Bd.returns rfl (Or.inr (Or.inl ⟨rfl, rfl, _, rfl⟩)) (hb hby own_d_method_2_code_25) hr, hPf _ _ ⟨hrun, hended, _, _, rfl, ?_, ⟨_, rfl⟩, hW, hsame.mono (by decide) (by decide)⟩⟩
        show own_Q_ref Z ix h0 n0 _ s₁.heap _
        rw [e0]
        exact ⟨by unfold own_ref; rw [if_neg hc1_2, if_neg hc10_5, if_pos hc19_8], N0, rfl⟩
      · skip
        have k10 : ∀ t, Steps p.tables e below (s₁.setTop (mkF m 28 #[.val (.int ix)] [(.int (3 : Int32)), (.int ix)])) t → Steps p.tables e below (s₁.setTop (mkF m 19 #[.val (.int ix)] [(.int (2 : Int32)), (.int ix)])) t := fun t k => by
          refine XS.icmpYes X0.here hx rfl (pc0 := 19) (pc' := 26) rfl (hb hby own_d_method_2_code_19) rfl (feq hc19_8).2 (by decide) (by decide) ?_
          show Steps p.tables e below (s₁.setTop (mkF m 26 #[.val (.int ix)] [])) _
          refine XS.iloadN X0.here hx rfl (hb hby own_d_method_2_code_26) rfl ?_
          show Steps p.tables e below (s₁.setTop (mkF m 27 #[.val (.int ix)] [(.int ix)])) _
          refine XS.iconst X0.here hx rfl (hb hby own_d_method_2_code_27) ?_
          show Steps p.tables e below (s₁.setTop (mkF m 28 #[.val (.int ix)] [(.int (3 : Int32)), (.int ix)])) _
          exact k
        refine own_go k10 ?_
        clear k10
        by_cases hc28_11 : ix = (3 : Int32)
        · skip
          have k12 : ∀ t, Steps p.tables e below (s₁.setTop (mkF m 34 #[.val (.int ix)] [(.long (4593380528125082431 : Int64))])) t → Steps p.tables e below (s₁.setTop (mkF m 28 #[.val (.int ix)] [(.int (3 : Int32)), (.int ix)])) t := fun t k => by
            refine XS.icmpNo X0.here hx rfl (hb hby own_d_method_2_code_28) rfl (teq hc28_11).2 ?_
            show Steps p.tables e below (s₁.setTop (mkF m 31 #[.val (.int ix)] [])) _
            refine X0.ldc2Long hx hown (mvT hZ (hw _ (List.mem_of_getElem? (i := 25) rfl))) (g := (mkF m 31 #[.val (.int ix)] [])) rfl (hb hby own_d_method_2_code_31) _ ?_
            show Steps p.tables e below (s₁.setTop (mkF m 34 #[.val (.int ix)] [(.long (4593380528125082431 : Int64))])) _
            exact k
          refine own_go k12 ?_
          clear k12
          obtain ⟨fs, hr, hrun, hended, hW, hsame⟩ := X0.leave (v := some (.long (4593380528125082431 : Int64))) (fun h => by rw [Bd.returns] at h; cases h)
          refine ⟨_, _, retOut X0 hx Bd.returns rfl (Or.inr (Or.inl ⟨rfl, rfl, _, rfl⟩)) (hb hby own_d_method_2_code_34) hr, hPf _ _ ⟨hrun, hended, _, _, rfl, ?_, ⟨_, rfl⟩, hW, hsame.mono (by decide) (by decide)⟩⟩
          show own_Q_ref Z ix h0 n0 _ s₁.heap _
          rw [e0]
          exact ⟨by unfold own_ref; rw [if_neg hc1_2, if_neg hc10_5, if_neg hc19_8, if_pos hc28_11], N0, rfl⟩
        · skip
          have k13 : ∀ t, Steps p.tables e below (s₁.setTop (mkF m 38 #[.val (.int ix)] [(.long (-2037821214251327795 : Int64))])) t → Steps p.tables e below (s₁.setTop (mkF m 28 #[.val (.int ix)] [(.int (3 : Int32)), (.int ix)])) t := fun t k => by
            refine XS.icmpYes X0.here hx rfl (pc0 := 28) (pc' := 35) rfl (hb hby own_d_method_2_code_28) rfl (feq hc28_11).2 (by decide) (by decide) ?_
            show Steps p.tables e below (s₁.setTop (mkF m 35 #[.val (.int ix)] [])) _
            refine X0.ldc2Long hx hown (mvT hZ (hw _ (List.mem_of_getElem? (i := 29) rfl))) (g := (mkF m 35 #[.val (.int ix)] [])) rfl (hb hby own_d_method_2_code_35) _ ?_
            show Steps p.tables e below (s₁.setTop (mkF m 38 #[.val (.int ix)] [(.long (-2037821214251327795 : Int64))])) _
            exact k
          refine own_go k13 ?_
          clear k13
          obtain ⟨fs, hr, hrun, hended, hW, hsame⟩ := X0.leave (v := some (.long (-2037821214251327795 : Int64))) (fun h => by rw [Bd.returns] at h; cases h)
          refine ⟨_, _, retOut X0 hx Bd.returns rfl (Or.inr (Or.inl ⟨rfl, rfl, _, rfl⟩)) (hb hby own_d_method_2_code_38) hr, hPf _ _ ⟨hrun, hended, _, _, rfl, ?_, ⟨_, rfl⟩, hW, hsame.mono (by decide) (by decide)⟩⟩
          show own_Q_ref Z ix h0 n0 _ s₁.heap _
          rw [e0]
          exact ⟨by unfold own_ref; rw [if_neg hc1_2, if_neg hc10_5, if_neg hc19_8, if_neg hc28_11], N0, rfl⟩
theorem own_pd_28J29V : parseMethodDescriptor "(J)V" = some ⟨[.long], none⟩ := by decide +kernel
theorem own_pd_2829J : parseMethodDescriptor "()J" = some ⟨[], some .long⟩ := by decide +kernel
theorem own_pd_28I29J : parseMethodDescriptor "(I)J" = some ⟨[.int], some .long⟩ := by decide +kernel
theorem own_ef_law (m : MethodId) (x0 : Int64) (x1 : Int32) : entryFrame m #[(.long x0), (.int x1)] maxLocals = mkF m 0 #[.val (.long x0), .second, .val (.int x1), .unset, .unset, .unset, .unset, .unset, .unset, .unset, .unset, .unset, .unset, .unset, .unset, .unset, .unset, .unset] [] := by first | (simp [entryFrame, mkF, argsToLocals, Value.category, maxLocals]; done) | rfl
def own_Q_law (Z : State) (p0 : Int64) (p1 : Int32)  (h0 : Heap) (n0 : Nat) (v : Option Value) (h : Heap) (L : List Loc) : Prop := v = some (.int 1) ∧ Fr n0 L
set_option maxRecDepth 65536 in
set_option maxHeartbeats 40000000 in
theorem own_rm_law (l : Launch) (Z : State) (a0 : Array Value) (hw : ∀ d ∈ tables_1, d.before a0 Z = true) (ws : List Jvm.Cond) (p0 : Int64) (p1 : Int32)  (h0 : Heap) (n0 : Nat) (Z0 : n0 ≤ h0.size) :
    MetFree l x (head1 (Jvm.Cond.code x code maxLocals ret :: ws) room_1) (fun a U => a = #[(.long p0), (.int p1)] ∧ Z.Warmed39 U.vm ∧ U.heap = h0) (fun _ _ _ _ _ => True) (fun _ U o U' => ∃ v L, o = .returned v ∧ own_Q_law Z p0 p1 h0 n0 v U'.heap L ∧ FrameEnd U o U' L room_1.cells room_1.slots) := by
  refine MetFree.of_bodySF (plainFor_of_name own_pn_com_example_composure_composure_generate_SplitMix64NextPinLaw) hisR ?_
  intro p e s m args below meth c s₁ Bd hml0 hP hKq_
  obtain ⟨rfl, hZ, hh⟩ := hP
  have hx := Bd.exec
  have hby := Bd.bytes
  have hml : c.maxLocals = 18 := hml0
  have hown : s.vm.findClass "com/example/composure/composure/generate/SplitMix64NextPinLaw" = some m.cls := findClass_of_methodNamed Bd.named
  have hnm := (name_of_methodNamed Bd.named Bd.method).1
  have X0 : Stand p l e room_1 s m #[(.long p0), (.int p1)] below meth c s₁ [] 0 0 := Stand.of_body Bd
  have e0 : s₁.heap = h0 := by rw [← hh, Bd.state]; rfl
  have N0 := Fr.nil n0
  have pre0 : ∀ t, Steps p.tables e below (s₁.setTop (mkF m 0 #[.val (.long p0), .second, .val (.int p1), .unset, .unset, .unset, .unset, .unset, .unset, .unset, .unset, .unset, .unset, .unset, .unset, .unset, .unset, .unset] [])) t → Steps p.tables e below (s₁.setTop (entryFrame m #[(.long p0), (.int p1)] maxLocals)) t := fun t k => castTop (own_ef_law m p0 p1) k
  refine own_go pre0 ?_
  refine own_abs ?_
  intro Pf hPf
  have k1 : ∀ t, Steps p.tables e below (s₁.setTop (mkF m 9 #[.val (.long p0), .second, .val (.int p1), .val (.long (-7046029254386353131 : Int64)), .second, .val (.int (p1 &&& (3 : Int32))), .unset, .unset, .unset, .unset, .unset, .unset, .unset, .unset, .unset, .unset, .unset, .unset] [])) t → Steps p.tables e below (s₁.setTop (mkF m 0 #[.val (.long p0), .second, .val (.int p1), .unset, .unset, .unset, .unset, .unset, .unset, .unset, .unset, .unset, .unset, .unset, .unset, .unset, .unset, .unset] [])) t := fun t k => by
    refine X0.ldc2Long hx hown (mvT hZ (hw _ (List.mem_of_getElem? (i := 0) rfl))) (g := (mkF m 0 #[.val (.long p0), .second, .val (.int p1), .unset, .unset, .unset, .unset, .unset, .unset, .unset, .unset, .unset, .unset, .unset, .unset, .unset, .unset, .unset] [])) rfl (hb hby at_0) _ ?_
    show Steps p.tables e below (s₁.setTop (mkF m 3 #[.val (.long p0), .second, .val (.int p1), .unset, .unset, .unset, .unset, .unset, .unset, .unset, .unset, .unset, .unset, .unset, .unset, .unset, .unset, .unset] [(.long (-7046029254386353131 : Int64))])) _
    refine XS.lstoreN X0.here hx rfl (hb hby at_3) rfl (l' := #[.val (.long p0), .second, .val (.int p1), .val (.long (-7046029254386353131 : Int64)), .second, .unset, .unset, .unset, .unset, .unset, .unset, .unset, .unset, .unset, .unset, .unset, .unset, .unset]) rfl ?_
    show Steps p.tables e below (s₁.setTop (mkF m 4 #[.val (.long p0), .second, .val (.int p1), .val (.long (-7046029254386353131 : Int64)), .second, .unset, .unset, .unset, .unset, .unset, .unset, .unset, .unset, .unset, .unset, .unset, .unset, .unset] [])) _
    refine XS.iloadN X0.here hx rfl (hb hby at_4) rfl ?_
    show Steps p.tables e below (s₁.setTop (mkF m 5 #[.val (.long p0), .second, .val (.int p1), .val (.long (-7046029254386353131 : Int64)), .second, .unset, .unset, .unset, .unset, .unset, .unset, .unset, .unset, .unset, .unset, .unset, .unset, .unset] [(.int p1)])) _
    refine XS.iconst X0.here hx rfl (hb hby at_5) ?_
    show Steps p.tables e below (s₁.setTop (mkF m 6 #[.val (.long p0), .second, .val (.int p1), .val (.long (-7046029254386353131 : Int64)), .second, .unset, .unset, .unset, .unset, .unset, .unset, .unset, .unset, .unset, .unset, .unset, .unset, .unset] [(.int (3 : Int32)), (.int p1)])) _
    refine XS.iand X0.here hx rfl (hb hby at_6) rfl ?_
    show Steps p.tables e below (s₁.setTop (mkF m 7 #[.val (.long p0), .second, .val (.int p1), .val (.long (-7046029254386353131 : Int64)), .second, .unset, .unset, .unset, .unset, .unset, .unset, .unset, .unset, .unset, .unset, .unset, .unset, .unset] [(.int (p1 &&& (3 : Int32)))])) _
    refine XS.istore X0.here hx rfl (hb hby at_7) rfl (l' := #[.val (.long p0), .second, .val (.int p1), .val (.long (-7046029254386353131 : Int64)), .second, .val (.int (p1 &&& (3 : Int32))), .unset, .unset, .unset, .unset, .unset, .unset, .unset, .unset, .unset, .unset, .unset, .unset]) rfl ?_
    show Steps p.tables e below (s₁.setTop (mkF m 9 #[.val (.long p0), .second, .val (.int p1), .val (.long (-7046029254386353131 : Int64)), .second, .val (.int (p1 &&& (3 : Int32))), .unset, .unset, .unset, .unset, .unset, .unset, .unset, .unset, .unset, .unset, .unset, .unset] [])) _
    exact k
  refine own_go k1 ?_
  clear k1
  obtain ⟨jj, h_jj⟩ : ∃ z, z = (p1 &&& (3 : Int32)) := ⟨_, rfl⟩
  rw [← h_jj]
  have hj : jj = 0 ∨ jj = 1 ∨ jj = 2 ∨ jj = 3 := by rw [h_jj]; exact own_m _
  rcases hj with hj | hj | hj | hj
  · subst hj
    obtain ⟨T2, h2, X2, e2, E2, A2, D2, -, st2⟩ := newO X0 hx hZ hown (hw _ (List.mem_of_getElem? (i := 1) rfl)) (hw _ (List.mem_of_getElem? (i := 2) rfl)) (hw _ (List.mem_of_getElem? (i := 3) rfl)) e0 (g := (mkF m 9 #[.val (.long p0), .second, .val (.int p1), .val (.long (-7046029254386353131 : Int64)), .second, .val (.int (0 : Int32)), .unset, .unset, .unset, .unset, .unset, .unset, .unset, .unset, .unset, .unset, .unset, .unset] [])) rfl (hb hby at_9) (by decide) (by decide)
    obtain ⟨b2, g2⟩ : ∃ z, z = h0.size := ⟨_, rfl⟩
    rw [← g2] at A2 D2 st2
    refine own_go st2 ?_
    have g_b2 : n0 ≤ b2 := Nat.le_trans Z0 (Nat.le_of_eq g2.symm)
    have Z2 : n0 ≤ h2.size := Nat.le_trans Z0 E2.1
    have F2_state : Fld Z h2 b2 "com/example/composure/composure/generate/SplitMix64" "state" "J" (.long (0 : Int64)) := D2 (Or.inl (hw _ (List.mem_of_getElem? (i := 11) rfl))) (ty := .long) (by decide)
    have k4 : ∀ t, Steps p.tables e below (T2.setTop (mkF m 14 #[.val (.long p0), .second, .val (.int p1), .val (.long (-7046029254386353131 : Int64)), .second, .val (.int (0 : Int32)), .unset, .unset, .unset, .unset, .unset, .unset, .unset, .unset, .unset, .unset, .unset, .unset] [(.long p0), (.ref b2), (.ref b2)])) t → Steps p.tables e below (T2.setTop (mkF m 12 #[.val (.long p0), .second, .val (.int p1), .val (.long (-7046029254386353131 : Int64)), .second, .val (.int (0 : Int32)), .unset, .unset, .unset, .unset, .unset, .unset, .unset, .unset, .unset, .unset, .unset, .unset] [(.ref b2)])) t := fun t k => by
      refine XS.dup X2.here hx rfl (hb hby at_12) rfl rfl ?_
      show Steps p.tables e below (T2.setTop (mkF m 13 #[.val (.long p0), .second, .val (.int p1), .val (.long (-7046029254386353131 : Int64)), .second, .val (.int (0 : Int32)), .unset, .unset, .unset, .unset, .unset, .unset, .unset, .unset, .unset, .unset, .unset, .unset] [(.ref b2), (.ref b2)])) _
      refine XS.lloadN X2.here hx rfl (hb hby at_13) rfl ?_
      show Steps p.tables e below (T2.setTop (mkF m 14 #[.val (.long p0), .second, .val (.int p1), .val (.long (-7046029254386353131 : Int64)), .second, .val (.int (0 : Int32)), .unset, .unset, .unset, .unset, .unset, .unset, .unset, .unset, .unset, .unset, .unset, .unset] [(.long p0), (.ref b2), (.ref b2)])) _
      exact k
    refine own_go k4 ?_
    clear k4
    obtain ⟨_, _, ⟨T3, L3, k3, n3⟩, -, X3, ⟨Lc3, hQ3, l3, y3, z3⟩, st3⟩ := X2.specialBack hx (y := (⟨"com/example/composure/composure/generate/SplitMix64", "<init>", "(J)V"⟩ : MethodName)) rfl hown (mvT hZ (hw _ (List.mem_of_getElem? (i := 4) rfl))) (mvT hZ (hw _ (List.mem_of_getElem? (i := 5) rfl))) (mvT hZ (hw _ (List.mem_of_getElem? (i := 6) rfl))) (by decide) (backOf (W := 1) (own_rm_init l Z a0 hw [] b2 p0 (0 : Int64) h2 n0 Z2 F2_state A2 g_b2) hZ (hw _ (List.mem_of_getElem? (i := 6) rfl)) (hw _ (List.mem_of_getElem? (i := 3) rfl)) (by decide) (by decide)) (g := (mkF m 14 #[.val (.long p0), .second, .val (.int p1), .val (.long (-7046029254386353131 : Int64)), .second, .val (.int (0 : Int32)), .unset, .unset, .unset, .unset, .unset, .unset, .unset, .unset, .unset, .unset, .unset, .unset] [(.long p0), (.ref b2), (.ref b2)])) rfl (by rw [hml]; rfl) (Steps.refl _) (a := b2) (argsL := [(.long p0)]) (rest := [(.ref b2)]) (lenOf own_pd_28J29V rfl) rfl (by show 2 * 0 + _ ≤ _; exact Nat.le_of_eq rfl) (hb hby at_14) (fun _ _ => ⟨rfl, e2, (by decide : 1 + 0 ≤ _), (by decide : 1 + 0 ≤ _)⟩)
    dsimp only [Pt.U, Pt.locs, Pt.cells, Pt.slots] at X3 l3 y3 z3 st3 hQ3
    subst l3 y3 z3
    obtain ⟨rfl, N3q, K3q, p3_0, p3_1⟩ := hQ3
    have N3 := Fr.app N0 N3q
    have Z3 : n0 ≤ T3.heap.size := Nat.le_trans Z2 K3q.1
    refine own_go (fun _ k => st3.trans k) ?_
    have k6 : ∀ t, Steps p.tables e below (T3.setTop (mkF m 21 #[.val (.long p0), .second, .val (.int p1), .val (.long (-7046029254386353131 : Int64)), .second, .val (.int (0 : Int32)), .val (.ref b2), .unset, .unset, .unset, .unset, .unset, .unset, .unset, .unset, .unset, .unset, .unset] [(.ref b2)])) t → Steps p.tables e below (T3.setTop (mkF m 17 #[.val (.long p0), .second, .val (.int p1), .val (.long (-7046029254386353131 : Int64)), .second, .val (.int (0 : Int32)), .unset, .unset, .unset, .unset, .unset, .unset, .unset, .unset, .unset, .unset, .unset, .unset] [(.ref b2)])) t := fun t k => by
      refine XS.astore X3.here hx rfl (hb hby at_17) rfl rfl (l' := #[.val (.long p0), .second, .val (.int p1), .val (.long (-7046029254386353131 : Int64)), .second, .val (.int (0 : Int32)), .val (.ref b2), .unset, .unset, .unset, .unset, .unset, .unset, .unset, .unset, .unset, .unset, .unset]) rfl ?_
      show Steps p.tables e below (T3.setTop (mkF m 19 #[.val (.long p0), .second, .val (.int p1), .val (.long (-7046029254386353131 : Int64)), .second, .val (.int (0 : Int32)), .val (.ref b2), .unset, .unset, .unset, .unset, .unset, .unset, .unset, .unset, .unset, .unset, .unset] [])) _
      refine XS.aload X3.here hx rfl (hb hby at_19) rfl rfl ?_
      show Steps p.tables e below (T3.setTop (mkF m 21 #[.val (.long p0), .second, .val (.int p1), .val (.long (-7046029254386353131 : Int64)), .second, .val (.int (0 : Int32)), .val (.ref b2), .unset, .unset, .unset, .unset, .unset, .unset, .unset, .unset, .unset, .unset, .unset] [(.ref b2)])) _
      exact k
    refine own_go k6 ?_
    clear k6
    obtain ⟨cq5, kq5, q5a, q5b, q5c⟩ := isOf hZ rfl p3_0
    obtain ⟨_, _, ⟨T5, L5, k5, n5⟩, -, X5, ⟨Lc5, hQ5, l5, y5, z5⟩, st5⟩ := X3.virtualBack hx (y := (⟨"com/example/composure/composure/generate/SplitMix64", "next", "()J"⟩ : MethodName)) (z := (⟨"com/example/composure/composure/generate/SplitMix64", "next", "()J"⟩ : MethodName)) hown (mvT hZ (hw _ (List.mem_of_getElem? (i := 12) rfl))) (mvT hZ (hw _ (List.mem_of_getElem? (i := 13) rfl))) (notFace_of_selects (args := #[]) (mvT hZ (hw _ (List.mem_of_getElem? (i := 15) rfl)))) (mvT hZ (hw _ (List.mem_of_getElem? (i := 15) rfl))) (mvT hZ (hw _ (List.mem_of_getElem? (i := 14) rfl))) (by decide) (backOf (W := 0) (own_rm_next l Z a0 hw [] b2 p0 T3.heap n0 Z3 p3_1 p3_0 g_b2) hZ (hw _ (List.mem_of_getElem? (i := 16) rfl)) (hw _ (List.mem_of_getElem? (i := 3) rfl)) (by decide) (by decide)) q5a q5c (g := (mkF m 21 #[.val (.long p0), .second, .val (.int p1), .val (.long (-7046029254386353131 : Int64)), .second, .val (.int (0 : Int32)), .val (.ref b2), .unset, .unset, .unset, .unset, .unset, .unset, .unset, .unset, .unset, .unset, .unset] [(.ref b2)])) rfl (by rw [hml]; rfl) (Steps.refl _) (argsL := []) (rest := []) (lenOf own_pd_2829J rfl) rfl (by show 2 * 0 + _ ≤ _; exact Nat.le_of_eq rfl) (hb hby at_21) (fun _ _ => ⟨rfl, rfl, (by decide : 1 + 0 ≤ _), (by decide : 1 + 0 ≤ _)⟩)
    dsimp only [Pt.U, Pt.locs, Pt.cells, Pt.slots] at X5 l5 y5 z5 st5 hQ5
    subst l5 y5 z5
    obtain ⟨rfl, N5q, K5q, p5_0, p5_1⟩ := hQ5
    have N5 := Fr.app N3 N5q
    have Z5 : n0 ≤ T5.heap.size := Nat.le_trans Z3 K5q.1
    refine own_go (fun _ k => st5.trans k) ?_
    have k7 : ∀ t, Steps p.tables e below (T5.setTop (mkF m 65 #[.val (.long p0), .second, .val (.int p1), .val (.long (-7046029254386353131 : Int64)), .second, .val (.int (0 : Int32)), .val (.ref b2), .val (.long (own_mix (p0 + (-7046029254386353131 : Int64)))), .second, .unset, .unset, .unset, .unset, .unset, .unset, .unset, .unset, .unset] [])) t → Steps p.tables e below (T5.setTop (mkF m 24 #[.val (.long p0), .second, .val (.int p1), .val (.long (-7046029254386353131 : Int64)), .second, .val (.int (0 : Int32)), .val (.ref b2), .unset, .unset, .unset, .unset, .unset, .unset, .unset, .unset, .unset, .unset, .unset] [(.long (own_mix (p0 + (-7046029254386353131 : Int64))))])) t := fun t k => by
      refine XS.lstore X5.here hx rfl (hb hby at_24) rfl (l' := #[.val (.long p0), .second, .val (.int p1), .val (.long (-7046029254386353131 : Int64)), .second, .val (.int (0 : Int32)), .val (.ref b2), .val (.long (own_mix (p0 + (-7046029254386353131 : Int64)))), .second, .unset, .unset, .unset, .unset, .unset, .unset, .unset, .unset, .unset]) rfl ?_
      show Steps p.tables e below (T5.setTop (mkF m 26 #[.val (.long p0), .second, .val (.int p1), .val (.long (-7046029254386353131 : Int64)), .second, .val (.int (0 : Int32)), .val (.ref b2), .val (.long (own_mix (p0 + (-7046029254386353131 : Int64)))), .second, .unset, .unset, .unset, .unset, .unset, .unset, .unset, .unset, .unset] [])) _
      refine XS.iload X5.here hx rfl (hb hby at_26) rfl ?_
      show Steps p.tables e below (T5.setTop (mkF m 28 #[.val (.long p0), .second, .val (.int p1), .val (.long (-7046029254386353131 : Int64)), .second, .val (.int (0 : Int32)), .val (.ref b2), .val (.long (own_mix (p0 + (-7046029254386353131 : Int64)))), .second, .unset, .unset, .unset, .unset, .unset, .unset, .unset, .unset, .unset] [(.int (0 : Int32))])) _
      refine XS.iconst X5.here hx rfl (hb hby at_28) ?_
      show Steps p.tables e below (T5.setTop (mkF m 29 #[.val (.long p0), .second, .val (.int p1), .val (.long (-7046029254386353131 : Int64)), .second, .val (.int (0 : Int32)), .val (.ref b2), .val (.long (own_mix (p0 + (-7046029254386353131 : Int64)))), .second, .unset, .unset, .unset, .unset, .unset, .unset, .unset, .unset, .unset] [(.int (1 : Int32)), (.int (0 : Int32))])) _
      refine XS.icmpYes X5.here hx rfl (pc0 := 29) (pc' := 39) rfl (hb hby at_29) rfl (tlt (by decide : (0 : Int32) < (1 : Int32))).1 (by decide) (by decide) ?_
      show Steps p.tables e below (T5.setTop (mkF m 39 #[.val (.long p0), .second, .val (.int p1), .val (.long (-7046029254386353131 : Int64)), .second, .val (.int (0 : Int32)), .val (.ref b2), .val (.long (own_mix (p0 + (-7046029254386353131 : Int64)))), .second, .unset, .unset, .unset, .unset, .unset, .unset, .unset, .unset, .unset] [])) _
      refine XS.iload X5.here hx rfl (hb hby at_39) rfl ?_
      show Steps p.tables e below (T5.setTop (mkF m 41 #[.val (.long p0), .second, .val (.int p1), .val (.long (-7046029254386353131 : Int64)), .second, .val (.int (0 : Int32)), .val (.ref b2), .val (.long (own_mix (p0 + (-7046029254386353131 : Int64)))), .second, .unset, .unset, .unset, .unset, .unset, .unset, .unset, .unset, .unset] [(.int (0 : Int32))])) _
      refine XS.iconst X5.here hx rfl (hb hby at_41) ?_
      show Steps p.tables e below (T5.setTop (mkF m 42 #[.val (.long p0), .second, .val (.int p1), .val (.long (-7046029254386353131 : Int64)), .second, .val (.int (0 : Int32)), .val (.ref b2), .val (.long (own_mix (p0 + (-7046029254386353131 : Int64)))), .second, .unset, .unset, .unset, .unset, .unset, .unset, .unset, .unset, .unset] [(.int (2 : Int32)), (.int (0 : Int32))])) _
      refine XS.icmpYes X5.here hx rfl (pc0 := 42) (pc' := 52) rfl (hb hby at_42) rfl (tlt (by decide : (0 : Int32) < (2 : Int32))).1 (by decide) (by decide) ?_
      show Steps p.tables e below (T5.setTop (mkF m 52 #[.val (.long p0), .second, .val (.int p1), .val (.long (-7046029254386353131 : Int64)), .second, .val (.int (0 : Int32)), .val (.ref b2), .val (.long (own_mix (p0 + (-7046029254386353131 : Int64)))), .second, .unset, .unset, .unset, .unset, .unset, .unset, .unset, .unset, .unset] [])) _
      refine XS.iload X5.here hx rfl (hb hby at_52) rfl ?_
      show Steps p.tables e below (T5.setTop (mkF m 54 #[.val (.long p0), .second, .val (.int p1), .val (.long (-7046029254386353131 : Int64)), .second, .val (.int (0 : Int32)), .val (.ref b2), .val (.long (own_mix (p0 + (-7046029254386353131 : Int64)))), .second, .unset, .unset, .unset, .unset, .unset, .unset, .unset, .unset, .unset] [(.int (0 : Int32))])) _
      refine XS.iconst X5.here hx rfl (hb hby at_54) ?_
      show Steps p.tables e below (T5.setTop (mkF m 55 #[.val (.long p0), .second, .val (.int p1), .val (.long (-7046029254386353131 : Int64)), .second, .val (.int (0 : Int32)), .val (.ref b2), .val (.long (own_mix (p0 + (-7046029254386353131 : Int64)))), .second, .unset, .unset, .unset, .unset, .unset, .unset, .unset, .unset, .unset] [(.int (3 : Int32)), (.int (0 : Int32))])) _
      refine XS.icmpYes X5.here hx rfl (pc0 := 55) (pc' := 65) rfl (hb hby at_55) rfl (tlt (by decide : (0 : Int32) < (3 : Int32))).1 (by decide) (by decide) ?_
      show Steps p.tables e below (T5.setTop (mkF m 65 #[.val (.long p0), .second, .val (.int p1), .val (.long (-7046029254386353131 : Int64)), .second, .val (.int (0 : Int32)), .val (.ref b2), .val (.long (own_mix (p0 + (-7046029254386353131 : Int64)))), .second, .unset, .unset, .unset, .unset, .unset, .unset, .unset, .unset, .unset] [])) _
      exact k
    refine own_go k7 ?_
    clear k7
    obtain ⟨T8, h8, X8, e8, E8, A8, D8, -, st8⟩ := newO X5 hx hZ hown (hw _ (List.mem_of_getElem? (i := 1) rfl)) (hw _ (List.mem_of_getElem? (i := 2) rfl)) (hw _ (List.mem_of_getElem? (i := 3) rfl)) rfl (g := (mkF m 65 #[.val (.long p0), .second, .val (.int p1), .val (.long (-7046029254386353131 : Int64)), .second, .val (.int (0 : Int32)), .val (.ref b2), .val (.long (own_mix (p0 + (-7046029254386353131 : Int64)))), .second, .unset, .unset, .unset, .unset, .unset, .unset, .unset, .unset, .unset] [])) rfl (hb hby at_65) (by decide) (by decide)
    obtain ⟨b8, g8⟩ : ∃ z, z = T5.heap.size := ⟨_, rfl⟩
    rw [← g8] at A8 D8 st8
    refine own_go st8 ?_
    have ne_b2_b8 : b2 ≠ b8 := Nat.ne_of_lt (Nat.lt_of_lt_of_le p5_0.lt (Nat.le_of_eq g8.symm))
    have f8_0 : Exa Z h8 b2 "com/example/composure/composure/generate/SplitMix64" := p5_0.ext E8
    have f8_1 : Fld Z h8 b2 "com/example/composure/composure/generate/SplitMix64" "state" "J" (.long (p0 + (-7046029254386353131 : Int64))) := p5_1.ext E8
    have g_b8 : n0 ≤ b8 := Nat.le_trans Z5 (Nat.le_of_eq g8.symm)
    have Z8 : n0 ≤ h8.size := Nat.le_trans Z5 E8.1
    have F8_state : Fld Z h8 b8 "com/example/composure/composure/generate/SplitMix64" "state" "J" (.long (0 : Int64)) := D8 (Or.inl (hw _ (List.mem_of_getElem? (i := 11) rfl))) (ty := .long) (by decide)
    have k10 : ∀ t, Steps p.tables e below (T8.setTop (mkF m 76 #[.val (.long p0), .second, .val (.int p1), .val (.long (-7046029254386353131 : Int64)), .second, .val (.int (0 : Int32)), .val (.ref b2), .val (.long (own_mix (p0 + (-7046029254386353131 : Int64)))), .second, .unset, .unset, .unset, .unset, .unset, .unset, .unset, .unset, .unset] [(.long (p0 + ((0 : Int32).toInt64 * (-7046029254386353131 : Int64)))), (.ref b8), (.ref b8)])) t → Steps p.tables e below (T8.setTop (mkF m 68 #[.val (.long p0), .second, .val (.int p1), .val (.long (-7046029254386353131 : Int64)), .second, .val (.int (0 : Int32)), .val (.ref b2), .val (.long (own_mix (p0 + (-7046029254386353131 : Int64)))), .second, .unset, .unset, .unset, .unset, .unset, .unset, .unset, .unset, .unset] [(.ref b8)])) t := fun t k => by
      refine XS.dup X8.here hx rfl (hb hby at_68) rfl rfl ?_
      show Steps p.tables e below (T8.setTop (mkF m 69 #[.val (.long p0), .second, .val (.int p1), .val (.long (-7046029254386353131 : Int64)), .second, .val (.int (0 : Int32)), .val (.ref b2), .val (.long (own_mix (p0 + (-7046029254386353131 : Int64)))), .second, .unset, .unset, .unset, .unset, .unset, .unset, .unset, .unset, .unset] [(.ref b8), (.ref b8)])) _
      refine XS.lloadN X8.here hx rfl (hb hby at_69) rfl ?_
      show Steps p.tables e below (T8.setTop (mkF m 70 #[.val (.long p0), .second, .val (.int p1), .val (.long (-7046029254386353131 : Int64)), .second, .val (.int (0 : Int32)), .val (.ref b2), .val (.long (own_mix (p0 + (-7046029254386353131 : Int64)))), .second, .unset, .unset, .unset, .unset, .unset, .unset, .unset, .unset, .unset] [(.long p0), (.ref b8), (.ref b8)])) _
      refine XS.iload X8.here hx rfl (hb hby at_70) rfl ?_
      show Steps p.tables e below (T8.setTop (mkF m 72 #[.val (.long p0), .second, .val (.int p1), .val (.long (-7046029254386353131 : Int64)), .second, .val (.int (0 : Int32)), .val (.ref b2), .val (.long (own_mix (p0 + (-7046029254386353131 : Int64)))), .second, .unset, .unset, .unset, .unset, .unset, .unset, .unset, .unset, .unset] [(.int (0 : Int32)), (.long p0), (.ref b8), (.ref b8)])) _
      refine XS.i2l X8.here hx rfl (hb hby at_72) rfl ?_
      show Steps p.tables e below (T8.setTop (mkF m 73 #[.val (.long p0), .second, .val (.int p1), .val (.long (-7046029254386353131 : Int64)), .second, .val (.int (0 : Int32)), .val (.ref b2), .val (.long (own_mix (p0 + (-7046029254386353131 : Int64)))), .second, .unset, .unset, .unset, .unset, .unset, .unset, .unset, .unset, .unset] [(.long (0 : Int32).toInt64), (.long p0), (.ref b8), (.ref b8)])) _
      refine XS.lloadN X8.here hx rfl (hb hby at_73) rfl ?_
      show Steps p.tables e below (T8.setTop (mkF m 74 #[.val (.long p0), .second, .val (.int p1), .val (.long (-7046029254386353131 : Int64)), .second, .val (.int (0 : Int32)), .val (.ref b2), .val (.long (own_mix (p0 + (-7046029254386353131 : Int64)))), .second, .unset, .unset, .unset, .unset, .unset, .unset, .unset, .unset, .unset] [(.long (-7046029254386353131 : Int64)), (.long (0 : Int32).toInt64), (.long p0), (.ref b8), (.ref b8)])) _
      refine XS.lmul X8.here hx rfl (hb hby at_74) rfl ?_
      show Steps p.tables e below (T8.setTop (mkF m 75 #[.val (.long p0), .second, .val (.int p1), .val (.long (-7046029254386353131 : Int64)), .second, .val (.int (0 : Int32)), .val (.ref b2), .val (.long (own_mix (p0 + (-7046029254386353131 : Int64)))), .second, .unset, .unset, .unset, .unset, .unset, .unset, .unset, .unset, .unset] [(.long ((0 : Int32).toInt64 * (-7046029254386353131 : Int64))), (.long p0), (.ref b8), (.ref b8)])) _
      refine XS.ladd X8.here hx rfl (hb hby at_75) rfl ?_
      show Steps p.tables e below (T8.setTop (mkF m 76 #[.val (.long p0), .second, .val (.int p1), .val (.long (-7046029254386353131 : Int64)), .second, .val (.int (0 : Int32)), .val (.ref b2), .val (.long (own_mix (p0 + (-7046029254386353131 : Int64)))), .second, .unset, .unset, .unset, .unset, .unset, .unset, .unset, .unset, .unset] [(.long (p0 + ((0 : Int32).toInt64 * (-7046029254386353131 : Int64)))), (.ref b8), (.ref b8)])) _
      exact k
    refine own_go k10 ?_
    clear k10
    obtain ⟨_, _, ⟨T9, L9, k9, n9⟩, -, X9, ⟨Lc9, hQ9, l9, y9, z9⟩, st9⟩ := X8.specialBack hx (y := (⟨"com/example/composure/composure/generate/SplitMix64", "<init>", "(J)V"⟩ : MethodName)) rfl hown (mvT hZ (hw _ (List.mem_of_getElem? (i := 4) rfl))) (mvT hZ (hw _ (List.mem_of_getElem? (i := 5) rfl))) (mvT hZ (hw _ (List.mem_of_getElem? (i := 6) rfl))) (by decide) (backOf (W := 1) (own_rm_init l Z a0 hw [] b8 (p0 + ((0 : Int32).toInt64 * (-7046029254386353131 : Int64))) (0 : Int64) h8 n0 Z8 F8_state A8 g_b8) hZ (hw _ (List.mem_of_getElem? (i := 6) rfl)) (hw _ (List.mem_of_getElem? (i := 3) rfl)) (by decide) (by decide)) (g := (mkF m 76 #[.val (.long p0), .second, .val (.int p1), .val (.long (-7046029254386353131 : Int64)), .second, .val (.int (0 : Int32)), .val (.ref b2), .val (.long (own_mix (p0 + (-7046029254386353131 : Int64)))), .second, .unset, .unset, .unset, .unset, .unset, .unset, .unset, .unset, .unset] [(.long (p0 + ((0 : Int32).toInt64 * (-7046029254386353131 : Int64)))), (.ref b8), (.ref b8)])) rfl (by rw [hml]; rfl) (Steps.refl _) (a := b8) (argsL := [(.long (p0 + ((0 : Int32).toInt64 * (-7046029254386353131 : Int64))))]) (rest := [(.ref b8)]) (lenOf own_pd_28J29V rfl) rfl (by show 2 * 0 + _ ≤ _; exact Nat.le_of_eq rfl) (hb hby at_76) (fun _ _ => ⟨rfl, e8, (by decide : 2 + 0 ≤ _), (by decide : 2 + 0 ≤ _)⟩)
    dsimp only [Pt.U, Pt.locs, Pt.cells, Pt.slots] at X9 l9 y9 z9 st9 hQ9
    subst l9 y9 z9
    obtain ⟨rfl, N9q, K9q, p9_0, p9_1⟩ := hQ9
    have N9 := Fr.app N5 N9q
    have f9_0 : Exa Z T9.heap b2 "com/example/composure/composure/generate/SplitMix64" := f8_0.keep K9q
    have f9_1 : Fld Z T9.heap b2 "com/example/composure/composure/generate/SplitMix64" "state" "J" (.long (p0 + (-7046029254386353131 : Int64))) := f8_1.keep K9q (ninS ne_b2_b8 nin0)
    have Z9 : n0 ≤ T9.heap.size := Nat.le_trans Z8 K9q.1
    refine own_go (fun _ k => st9.trans k) ?_
    have k12 : ∀ t, Steps p.tables e below (T9.setTop (mkF m 83 #[.val (.long p0), .second, .val (.int p1), .val (.long (-7046029254386353131 : Int64)), .second, .val (.int (0 : Int32)), .val (.ref b2), .val (.long (own_mix (p0 + (-7046029254386353131 : Int64)))), .second, .val (.ref b8), .unset, .unset, .unset, .unset, .unset, .unset, .unset, .unset] [(.ref b8)])) t → Steps p.tables e below (T9.setTop (mkF m 79 #[.val (.long p0), .second, .val (.int p1), .val (.long (-7046029254386353131 : Int64)), .second, .val (.int (0 : Int32)), .val (.ref b2), .val (.long (own_mix (p0 + (-7046029254386353131 : Int64)))), .second, .unset, .unset, .unset, .unset, .unset, .unset, .unset, .unset, .unset] [(.ref b8)])) t := fun t k => by
      refine XS.astore X9.here hx rfl (hb hby at_79) rfl rfl (l' := #[.val (.long p0), .second, .val (.int p1), .val (.long (-7046029254386353131 : Int64)), .second, .val (.int (0 : Int32)), .val (.ref b2), .val (.long (own_mix (p0 + (-7046029254386353131 : Int64)))), .second, .val (.ref b8), .unset, .unset, .unset, .unset, .unset, .unset, .unset, .unset]) rfl ?_
      show Steps p.tables e below (T9.setTop (mkF m 81 #[.val (.long p0), .second, .val (.int p1), .val (.long (-7046029254386353131 : Int64)), .second, .val (.int (0 : Int32)), .val (.ref b2), .val (.long (own_mix (p0 + (-7046029254386353131 : Int64)))), .second, .val (.ref b8), .unset, .unset, .unset, .unset, .unset, .unset, .unset, .unset] [])) _
      refine XS.aload X9.here hx rfl (hb hby at_81) rfl rfl ?_
      show Steps p.tables e below (T9.setTop (mkF m 83 #[.val (.long p0), .second, .val (.int p1), .val (.long (-7046029254386353131 : Int64)), .second, .val (.int (0 : Int32)), .val (.ref b2), .val (.long (own_mix (p0 + (-7046029254386353131 : Int64)))), .second, .val (.ref b8), .unset, .unset, .unset, .unset, .unset, .unset, .unset, .unset] [(.ref b8)])) _
      exact k
    refine own_go k12 ?_
    clear k12
    obtain ⟨cq11, kq11, q11a, q11b, q11c⟩ := isOf hZ rfl p9_0
    obtain ⟨_, _, ⟨T11, L11, k11, n11⟩, -, X11, ⟨Lc11, hQ11, l11, y11, z11⟩, st11⟩ := X9.virtualBack hx (y := (⟨"com/example/composure/composure/generate/SplitMix64", "next", "()J"⟩ : MethodName)) (z := (⟨"com/example/composure/composure/generate/SplitMix64", "next", "()J"⟩ : MethodName)) hown (mvT hZ (hw _ (List.mem_of_getElem? (i := 12) rfl))) (mvT hZ (hw _ (List.mem_of_getElem? (i := 13) rfl))) (notFace_of_selects (args := #[]) (mvT hZ (hw _ (List.mem_of_getElem? (i := 15) rfl)))) (mvT hZ (hw _ (List.mem_of_getElem? (i := 15) rfl))) (mvT hZ (hw _ (List.mem_of_getElem? (i := 14) rfl))) (by decide) (backOf (W := 0) (own_rm_next l Z a0 hw [] b8 (p0 + ((0 : Int32).toInt64 * (-7046029254386353131 : Int64))) T9.heap n0 Z9 p9_1 p9_0 g_b8) hZ (hw _ (List.mem_of_getElem? (i := 16) rfl)) (hw _ (List.mem_of_getElem? (i := 3) rfl)) (by decide) (by decide)) q11a q11c (g := (mkF m 83 #[.val (.long p0), .second, .val (.int p1), .val (.long (-7046029254386353131 : Int64)), .second, .val (.int (0 : Int32)), .val (.ref b2), .val (.long (own_mix (p0 + (-7046029254386353131 : Int64)))), .second, .val (.ref b8), .unset, .unset, .unset, .unset, .unset, .unset, .unset, .unset] [(.ref b8)])) rfl (by rw [hml]; rfl) (Steps.refl _) (argsL := []) (rest := []) (lenOf own_pd_2829J rfl) rfl (by show 2 * 0 + _ ≤ _; exact Nat.le_of_eq rfl) (hb hby at_83) (fun _ _ => ⟨rfl, rfl, (by decide : 2 + 0 ≤ _), (by decide : 2 + 0 ≤ _)⟩)
    dsimp only [Pt.U, Pt.locs, Pt.cells, Pt.slots] at X11 l11 y11 z11 st11 hQ11
    subst l11 y11 z11
    obtain ⟨rfl, N11q, K11q, p11_0, p11_1⟩ := hQ11
    have N11 := Fr.app N9 N11q
    have f11_0 : Exa Z T11.heap b2 "com/example/composure/composure/generate/SplitMix64" := f9_0.keep K11q
    have f11_1 : Fld Z T11.heap b2 "com/example/composure/composure/generate/SplitMix64" "state" "J" (.long (p0 + (-7046029254386353131 : Int64))) := f9_1.keep K11q (ninS ne_b2_b8 nin0)
    have Z11 : n0 ≤ T11.heap.size := Nat.le_trans Z9 K11q.1
    refine own_go (fun _ k => st11.trans k) ?_
    have k14 : ∀ t, Steps p.tables e below (T11.setTop (mkF m 101 #[.val (.long p0), .second, .val (.int p1), .val (.long (-7046029254386353131 : Int64)), .second, .val (.int (0 : Int32)), .val (.ref b2), .val (.long (own_mix (p0 + (-7046029254386353131 : Int64)))), .second, .val (.ref b8), .val (.int (1 : Int32)), .unset, .unset, .unset, .unset, .unset, .unset, .unset] [(.int (0 : Int32))])) t → Steps p.tables e below (T11.setTop (mkF m 86 #[.val (.long p0), .second, .val (.int p1), .val (.long (-7046029254386353131 : Int64)), .second, .val (.int (0 : Int32)), .val (.ref b2), .val (.long (own_mix (p0 + (-7046029254386353131 : Int64)))), .second, .val (.ref b8), .unset, .unset, .unset, .unset, .unset, .unset, .unset, .unset] [(.long (own_mix ((p0 + ((0 : Int32).toInt64 * (-7046029254386353131 : Int64))) + (-7046029254386353131 : Int64))))])) t := fun t k => by
      refine XS.lload X11.here hx rfl (hb hby at_86) rfl ?_
      show Steps p.tables e below (T11.setTop (mkF m 88 #[.val (.long p0), .second, .val (.int p1), .val (.long (-7046029254386353131 : Int64)), .second, .val (.int (0 : Int32)), .val (.ref b2), .val (.long (own_mix (p0 + (-7046029254386353131 : Int64)))), .second, .val (.ref b8), .unset, .unset, .unset, .unset, .unset, .unset, .unset, .unset] [(.long (own_mix (p0 + (-7046029254386353131 : Int64)))), (.long (own_mix ((p0 + ((0 : Int32).toInt64 * (-7046029254386353131 : Int64))) + (-7046029254386353131 : Int64))))])) _
      refine XS.lcmp X11.here hx rfl (hb hby at_88) rfl ?_
      show Steps p.tables e below (T11.setTop (mkF m 89 #[.val (.long p0), .second, .val (.int p1), .val (.long (-7046029254386353131 : Int64)), .second, .val (.int (0 : Int32)), .val (.ref b2), .val (.long (own_mix (p0 + (-7046029254386353131 : Int64)))), .second, .val (.ref b8), .unset, .unset, .unset, .unset, .unset, .unset, .unset, .unset] [(.int (lcmpW (own_mix ((p0 + ((0 : Int32).toInt64 * (-7046029254386353131 : Int64))) + (-7046029254386353131 : Int64))) (own_mix (p0 + (-7046029254386353131 : Int64)))))])) _
      refine XS.ifNo X11.here hx rfl (hb hby at_89) rfl ((if0 _ _).trans (teq ((lw_eq _ _).mpr (congrArg own_mix (by simp only [Int64.add_assoc]; congr 1)))).2) ?_
      show Steps p.tables e below (T11.setTop (mkF m 92 #[.val (.long p0), .second, .val (.int p1), .val (.long (-7046029254386353131 : Int64)), .second, .val (.int (0 : Int32)), .val (.ref b2), .val (.long (own_mix (p0 + (-7046029254386353131 : Int64)))), .second, .val (.ref b8), .unset, .unset, .unset, .unset, .unset, .unset, .unset, .unset] [])) _
      refine XS.iconst X11.here hx rfl (hb hby at_92) ?_
      show Steps p.tables e below (T11.setTop (mkF m 93 #[.val (.long p0), .second, .val (.int p1), .val (.long (-7046029254386353131 : Int64)), .second, .val (.int (0 : Int32)), .val (.ref b2), .val (.long (own_mix (p0 + (-7046029254386353131 : Int64)))), .second, .val (.ref b8), .unset, .unset, .unset, .unset, .unset, .unset, .unset, .unset] [(.int (1 : Int32))])) _
      refine XS.goto X11.here hx rfl (pc0 := 93) (pc' := 97) rfl (hb hby at_93) (by decide) (by decide) ?_
      show Steps p.tables e below (T11.setTop (mkF m 97 #[.val (.long p0), .second, .val (.int p1), .val (.long (-7046029254386353131 : Int64)), .second, .val (.int (0 : Int32)), .val (.ref b2), .val (.long (own_mix (p0 + (-7046029254386353131 : Int64)))), .second, .val (.ref b8), .unset, .unset, .unset, .unset, .unset, .unset, .unset, .unset] [(.int (1 : Int32))])) _
      refine XS.istore X11.here hx rfl (hb hby at_97) rfl (l' := #[.val (.long p0), .second, .val (.int p1), .val (.long (-7046029254386353131 : Int64)), .second, .val (.int (0 : Int32)), .val (.ref b2), .val (.long (own_mix (p0 + (-7046029254386353131 : Int64)))), .second, .val (.ref b8), .val (.int (1 : Int32)), .unset, .unset, .unset, .unset, .unset, .unset, .unset]) rfl ?_
      show Steps p.tables e below (T11.setTop (mkF m 99 #[.val (.long p0), .second, .val (.int p1), .val (.long (-7046029254386353131 : Int64)), .second, .val (.int (0 : Int32)), .val (.ref b2), .val (.long (own_mix (p0 + (-7046029254386353131 : Int64)))), .second, .val (.ref b8), .val (.int (1 : Int32)), .unset, .unset, .unset, .unset, .unset, .unset, .unset] [])) _
      refine XS.iload X11.here hx rfl (hb hby at_99) rfl ?_
      show Steps p.tables e below (T11.setTop (mkF m 101 #[.val (.long p0), .second, .val (.int p1), .val (.long (-7046029254386353131 : Int64)), .second, .val (.int (0 : Int32)), .val (.ref b2), .val (.long (own_mix (p0 + (-7046029254386353131 : Int64)))), .second, .val (.ref b8), .val (.int (1 : Int32)), .unset, .unset, .unset, .unset, .unset, .unset, .unset] [(.int (0 : Int32))])) _
      exact k
    refine own_go k14 ?_
    clear k14
    obtain ⟨_, _, ⟨T13, L13, k13, n13⟩, -, X13, ⟨Lc13, hQ13, l13, y13, z13⟩, st13⟩ := Jvm.LawKit.callS X11 hx (y := (⟨"com/example/composure/composure/generate/SplitMix64NextPinLaw", "ref", "(I)J"⟩ : MethodName)) hown (mvT hZ (hw _ (List.mem_of_getElem? (i := 20) rfl))) (mvT hZ (hw _ (List.mem_of_getElem? (i := 21) rfl))) (mvT hZ (hw _ (List.mem_of_getElem? (i := 22) rfl))) (mvT hZ (hw _ (List.mem_of_getElem? (i := 23) rfl))) (by decide) (backOf (W := 0) (own_rm_ref l Z a0 hw [] (0 : Int32) T11.heap n0 Z11 ) hZ (hw _ (List.mem_of_getElem? (i := 23) rfl)) (hw _ (List.mem_of_getElem? (i := 22) rfl)) (by decide) (by decide)) (g := (mkF m 101 #[.val (.long p0), .second, .val (.int p1), .val (.long (-7046029254386353131 : Int64)), .second, .val (.int (0 : Int32)), .val (.ref b2), .val (.long (own_mix (p0 + (-7046029254386353131 : Int64)))), .second, .val (.ref b8), .val (.int (1 : Int32)), .unset, .unset, .unset, .unset, .unset, .unset, .unset] [(.int (0 : Int32))])) rfl (by rw [hml]; rfl) (argsL := [(.int (0 : Int32))]) (rest := []) (lenOf own_pd_28I29J rfl) rfl (by show 2 * 0 + _ ≤ _; exact Nat.le_of_eq rfl) (hb hby at_101) (fun _ _ => ⟨rfl, rfl, (by decide : 2 + 0 ≤ _), (by decide : 2 + 0 ≤ _)⟩)
    dsimp only [Pt.U, Pt.locs, Pt.cells, Pt.slots] at X13 l13 y13 z13 st13 hQ13
    subst l13 y13 z13
    obtain ⟨rfl, N13q, eh13⟩ := hQ13
    have N13 := Fr.app N11 N13q
    refine own_go st13 ?_
    have k16 : ∀ t, Steps p.tables e below (T13.setTop (mkF m 110 #[.val (.long p0), .second, .val (.int p1), .val (.long (-7046029254386353131 : Int64)), .second, .val (.int (0 : Int32)), .val (.ref b2), .val (.long (own_mix (p0 + (-7046029254386353131 : Int64)))), .second, .val (.ref b8), .val (.int (1 : Int32)), .val (.long (own_ref (0 : Int32))), .second, .unset, .unset, .unset, .unset, .unset] [(.int ((0 : Int32) + (1 : Int32)))])) t → Steps p.tables e below (T13.setTop (mkF m 104 #[.val (.long p0), .second, .val (.int p1), .val (.long (-7046029254386353131 : Int64)), .second, .val (.int (0 : Int32)), .val (.ref b2), .val (.long (own_mix (p0 + (-7046029254386353131 : Int64)))), .second, .val (.ref b8), .val (.int (1 : Int32)), .unset, .unset, .unset, .unset, .unset, .unset, .unset] [(.long (own_ref (0 : Int32)))])) t := fun t k => by
      refine XS.lstore X13.here hx rfl (hb hby at_104) rfl (l' := #[.val (.long p0), .second, .val (.int p1), .val (.long (-7046029254386353131 : Int64)), .second, .val (.int (0 : Int32)), .val (.ref b2), .val (.long (own_mix (p0 + (-7046029254386353131 : Int64)))), .second, .val (.ref b8), .val (.int (1 : Int32)), .val (.long (own_ref (0 : Int32))), .second, .unset, .unset, .unset, .unset, .unset]) rfl ?_
      show Steps p.tables e below (T13.setTop (mkF m 106 #[.val (.long p0), .second, .val (.int p1), .val (.long (-7046029254386353131 : Int64)), .second, .val (.int (0 : Int32)), .val (.ref b2), .val (.long (own_mix (p0 + (-7046029254386353131 : Int64)))), .second, .val (.ref b8), .val (.int (1 : Int32)), .val (.long (own_ref (0 : Int32))), .second, .unset, .unset, .unset, .unset, .unset] [])) _
      refine XS.iload X13.here hx rfl (hb hby at_106) rfl ?_
      show Steps p.tables e below (T13.setTop (mkF m 108 #[.val (.long p0), .second, .val (.int p1), .val (.long (-7046029254386353131 : Int64)), .second, .val (.int (0 : Int32)), .val (.ref b2), .val (.long (own_mix (p0 + (-7046029254386353131 : Int64)))), .second, .val (.ref b8), .val (.int (1 : Int32)), .val (.long (own_ref (0 : Int32))), .second, .unset, .unset, .unset, .unset, .unset] [(.int (0 : Int32))])) _
      refine XS.iconst X13.here hx rfl (hb hby at_108) ?_
      show Steps p.tables e below (T13.setTop (mkF m 109 #[.val (.long p0), .second, .val (.int p1), .val (.long (-7046029254386353131 : Int64)), .second, .val (.int (0 : Int32)), .val (.ref b2), .val (.long (own_mix (p0 + (-7046029254386353131 : Int64)))), .second, .val (.ref b8), .val (.int (1 : Int32)), .val (.long (own_ref (0 : Int32))), .second, .unset, .unset, .unset, .unset, .unset] [(.int (1 : Int32)), (.int (0 : Int32))])) _
      refine XS.iadd X13.here hx rfl (hb hby at_109) rfl ?_
      show Steps p.tables e below (T13.setTop (mkF m 110 #[.val (.long p0), .second, .val (.int p1), .val (.long (-7046029254386353131 : Int64)), .second, .val (.int (0 : Int32)), .val (.ref b2), .val (.long (own_mix (p0 + (-7046029254386353131 : Int64)))), .second, .val (.ref b8), .val (.int (1 : Int32)), .val (.long (own_ref (0 : Int32))), .second, .unset, .unset, .unset, .unset, .unset] [(.int ((0 : Int32) + (1 : Int32)))])) _
      exact k
    refine own_go k16 ?_
    clear k16
    obtain ⟨_, _, ⟨T15, L15, k15, n15⟩, -, X15, ⟨Lc15, hQ15, l15, y15, z15⟩, st15⟩ := Jvm.LawKit.callS X13 hx (y := (⟨"com/example/composure/composure/generate/SplitMix64NextPinLaw", "ref", "(I)J"⟩ : MethodName)) hown (mvT hZ (hw _ (List.mem_of_getElem? (i := 20) rfl))) (mvT hZ (hw _ (List.mem_of_getElem? (i := 21) rfl))) (mvT hZ (hw _ (List.mem_of_getElem? (i := 22) rfl))) (mvT hZ (hw _ (List.mem_of_getElem? (i := 23) rfl))) (by decide) (backOf (W := 0) (own_rm_ref l Z a0 hw [] ((0 : Int32) + (1 : Int32)) T11.heap n0 Z11 ) hZ (hw _ (List.mem_of_getElem? (i := 23) rfl)) (hw _ (List.mem_of_getElem? (i := 22) rfl)) (by decide) (by decide)) (g := (mkF m 110 #[.val (.long p0), .second, .val (.int p1), .val (.long (-7046029254386353131 : Int64)), .second, .val (.int (0 : Int32)), .val (.ref b2), .val (.long (own_mix (p0 + (-7046029254386353131 : Int64)))), .second, .val (.ref b8), .val (.int (1 : Int32)), .val (.long (own_ref (0 : Int32))), .second, .unset, .unset, .unset, .unset, .unset] [(.int ((0 : Int32) + (1 : Int32)))])) rfl (by rw [hml]; rfl) (argsL := [(.int ((0 : Int32) + (1 : Int32)))]) (rest := []) (lenOf own_pd_28I29J rfl) rfl (by show 2 * 0 + _ ≤ _; exact Nat.le_of_eq rfl) (hb hby at_110) (fun _ _ => ⟨rfl, eh13, (by decide : 2 + 0 ≤ _), (by decide : 2 + 0 ≤ _)⟩)
    dsimp only [Pt.U, Pt.locs, Pt.cells, Pt.slots] at X15 l15 y15 z15 st15 hQ15
    subst l15 y15 z15
    obtain ⟨rfl, N15q, eh15⟩ := hQ15
    have N15 := Fr.app N13 N15q
    refine own_go st15 ?_
    have k17 : ∀ t, Steps p.tables e below (T15.setTop (mkF m 115 #[.val (.long p0), .second, .val (.int p1), .val (.long (-7046029254386353131 : Int64)), .second, .val (.int (0 : Int32)), .val (.ref b2), .val (.long (own_mix (p0 + (-7046029254386353131 : Int64)))), .second, .val (.ref b8), .val (.int (1 : Int32)), .val (.long (own_ref (0 : Int32))), .second, .val (.long (own_ref ((0 : Int32) + (1 : Int32)))), .second, .unset, .unset, .unset] [])) t → Steps p.tables e below (T15.setTop (mkF m 113 #[.val (.long p0), .second, .val (.int p1), .val (.long (-7046029254386353131 : Int64)), .second, .val (.int (0 : Int32)), .val (.ref b2), .val (.long (own_mix (p0 + (-7046029254386353131 : Int64)))), .second, .val (.ref b8), .val (.int (1 : Int32)), .val (.long (own_ref (0 : Int32))), .second, .unset, .unset, .unset, .unset, .unset] [(.long (own_ref ((0 : Int32) + (1 : Int32))))])) t := fun t k => by
      refine XS.lstore X15.here hx rfl (hb hby at_113) rfl (l' := #[.val (.long p0), .second, .val (.int p1), .val (.long (-7046029254386353131 : Int64)), .second, .val (.int (0 : Int32)), .val (.ref b2), .val (.long (own_mix (p0 + (-7046029254386353131 : Int64)))), .second, .val (.ref b8), .val (.int (1 : Int32)), .val (.long (own_ref (0 : Int32))), .second, .val (.long (own_ref ((0 : Int32) + (1 : Int32)))), .second, .unset, .unset, .unset]) rfl ?_
      show Steps p.tables e below (T15.setTop (mkF m 115 #[.val (.long p0), .second, .val (.int p1), .val (.long (-7046029254386353131 : Int64)), .second, .val (.int (0 : Int32)), .val (.ref b2), .val (.long (own_mix (p0 + (-7046029254386353131 : Int64)))), .second, .val (.ref b8), .val (.int (1 : Int32)), .val (.long (own_ref (0 : Int32))), .second, .val (.long (own_ref ((0 : Int32) + (1 : Int32)))), .second, .unset, .unset, .unset] [])) _
      exact k
    refine own_go k17 ?_
    clear k17
    obtain ⟨T18, h18, X18, e18, E18, A18, D18, -, st18⟩ := newO X15 hx hZ hown (hw _ (List.mem_of_getElem? (i := 1) rfl)) (hw _ (List.mem_of_getElem? (i := 2) rfl)) (hw _ (List.mem_of_getElem? (i := 3) rfl)) eh15 (g := (mkF m 115 #[.val (.long p0), .second, .val (.int p1), .val (.long (-7046029254386353131 : Int64)), .second, .val (.int (0 : Int32)), .val (.ref b2), .val (.long (own_mix (p0 + (-7046029254386353131 : Int64)))), .second, .val (.ref b8), .val (.int (1 : Int32)), .val (.long (own_ref (0 : Int32))), .second, .val (.long (own_ref ((0 : Int32) + (1 : Int32)))), .second, .unset, .unset, .unset] [])) rfl (hb hby at_115) (by decide) (by decide)
    obtain ⟨b18, g18⟩ : ∃ z, z = T11.heap.size := ⟨_, rfl⟩
    rw [← g18] at A18 D18 st18
    refine own_go st18 ?_
    have ne_b2_b18 : b2 ≠ b18 := Nat.ne_of_lt (Nat.lt_of_lt_of_le f11_0.lt (Nat.le_of_eq g18.symm))
    have ne_b8_b18 : b8 ≠ b18 := Nat.ne_of_lt (Nat.lt_of_lt_of_le p11_0.lt (Nat.le_of_eq g18.symm))
    have f18_0 : Exa Z h18 b2 "com/example/composure/composure/generate/SplitMix64" := f11_0.ext E18
    have f18_1 : Fld Z h18 b2 "com/example/composure/composure/generate/SplitMix64" "state" "J" (.long (p0 + (-7046029254386353131 : Int64))) := f11_1.ext E18
    have f18_2 : Exa Z h18 b8 "com/example/composure/composure/generate/SplitMix64" := p11_0.ext E18
    have f18_3 : Fld Z h18 b8 "com/example/composure/composure/generate/SplitMix64" "state" "J" (.long ((p0 + ((0 : Int32).toInt64 * (-7046029254386353131 : Int64))) + (-7046029254386353131 : Int64))) := p11_1.ext E18
    have g_b18 : n0 ≤ b18 := Nat.le_trans Z11 (Nat.le_of_eq g18.symm)
    have Z18 : n0 ≤ h18.size := Nat.le_trans Z11 E18.1
    have F18_state : Fld Z h18 b18 "com/example/composure/composure/generate/SplitMix64" "state" "J" (.long (0 : Int64)) := D18 (Or.inl (hw _ (List.mem_of_getElem? (i := 11) rfl))) (ty := .long) (by decide)
    have k20 : ∀ t, Steps p.tables e below (T18.setTop (mkF m 128 #[.val (.long p0), .second, .val (.int p1), .val (.long (-7046029254386353131 : Int64)), .second, .val (.int (0 : Int32)), .val (.ref b2), .val (.long (own_mix (p0 + (-7046029254386353131 : Int64)))), .second, .val (.ref b8), .val (.int (1 : Int32)), .val (.long (own_ref (0 : Int32))), .second, .val (.long (own_ref ((0 : Int32) + (1 : Int32)))), .second, .unset, .unset, .unset] [(.long ((1234567 : Int64) + ((0 : Int32).toInt64 * (-7046029254386353131 : Int64)))), (.ref b18), (.ref b18)])) t → Steps p.tables e below (T18.setTop (mkF m 118 #[.val (.long p0), .second, .val (.int p1), .val (.long (-7046029254386353131 : Int64)), .second, .val (.int (0 : Int32)), .val (.ref b2), .val (.long (own_mix (p0 + (-7046029254386353131 : Int64)))), .second, .val (.ref b8), .val (.int (1 : Int32)), .val (.long (own_ref (0 : Int32))), .second, .val (.long (own_ref ((0 : Int32) + (1 : Int32)))), .second, .unset, .unset, .unset] [(.ref b18)])) t := fun t k => by
      refine XS.dup X18.here hx rfl (hb hby at_118) rfl rfl ?_
      show Steps p.tables e below (T18.setTop (mkF m 119 #[.val (.long p0), .second, .val (.int p1), .val (.long (-7046029254386353131 : Int64)), .second, .val (.int (0 : Int32)), .val (.ref b2), .val (.long (own_mix (p0 + (-7046029254386353131 : Int64)))), .second, .val (.ref b8), .val (.int (1 : Int32)), .val (.long (own_ref (0 : Int32))), .second, .val (.long (own_ref ((0 : Int32) + (1 : Int32)))), .second, .unset, .unset, .unset] [(.ref b18), (.ref b18)])) _
      refine X18.ldc2Long hx hown (mvT hZ (hw _ (List.mem_of_getElem? (i := 26) rfl))) (g := (mkF m 119 #[.val (.long p0), .second, .val (.int p1), .val (.long (-7046029254386353131 : Int64)), .second, .val (.int (0 : Int32)), .val (.ref b2), .val (.long (own_mix (p0 + (-7046029254386353131 : Int64)))), .second, .val (.ref b8), .val (.int (1 : Int32)), .val (.long (own_ref (0 : Int32))), .second, .val (.long (own_ref ((0 : Int32) + (1 : Int32)))), .second, .unset, .unset, .unset] [(.ref b18), (.ref b18)])) rfl (hb hby at_119) _ ?_
      show Steps p.tables e below (T18.setTop (mkF m 122 #[.val (.long p0), .second, .val (.int p1), .val (.long (-7046029254386353131 : Int64)), .second, .val (.int (0 : Int32)), .val (.ref b2), .val (.long (own_mix (p0 + (-7046029254386353131 : Int64)))), .second, .val (.ref b8), .val (.int (1 : Int32)), .val (.long (own_ref (0 : Int32))), .second, .val (.long (own_ref ((0 : Int32) + (1 : Int32)))), .second, .unset, .unset, .unset] [(.long (1234567 : Int64)), (.ref b18), (.ref b18)])) _
      refine XS.iload X18.here hx rfl (hb hby at_122) rfl ?_
      show Steps p.tables e below (T18.setTop (mkF m 124 #[.val (.long p0), .second, .val (.int p1), .val (.long (-7046029254386353131 : Int64)), .second, .val (.int (0 : Int32)), .val (.ref b2), .val (.long (own_mix (p0 + (-7046029254386353131 : Int64)))), .second, .val (.ref b8), .val (.int (1 : Int32)), .val (.long (own_ref (0 : Int32))), .second, .val (.long (own_ref ((0 : Int32) + (1 : Int32)))), .second, .unset, .unset, .unset] [(.int (0 : Int32)), (.long (1234567 : Int64)), (.ref b18), (.ref b18)])) _
      refine XS.i2l X18.here hx rfl (hb hby at_124) rfl ?_
      show Steps p.tables e below (T18.setTop (mkF m 125 #[.val (.long p0), .second, .val (.int p1), .val (.long (-7046029254386353131 : Int64)), .second, .val (.int (0 : Int32)), .val (.ref b2), .val (.long (own_mix (p0 + (-7046029254386353131 : Int64)))), .second, .val (.ref b8), .val (.int (1 : Int32)), .val (.long (own_ref (0 : Int32))), .second, .val (.long (own_ref ((0 : Int32) + (1 : Int32)))), .second, .unset, .unset, .unset] [(.long (0 : Int32).toInt64), (.long (1234567 : Int64)), (.ref b18), (.ref b18)])) _
      refine XS.lloadN X18.here hx rfl (hb hby at_125) rfl ?_
      show Steps p.tables e below (T18.setTop (mkF m 126 #[.val (.long p0), .second, .val (.int p1), .val (.long (-7046029254386353131 : Int64)), .second, .val (.int (0 : Int32)), .val (.ref b2), .val (.long (own_mix (p0 + (-7046029254386353131 : Int64)))), .second, .val (.ref b8), .val (.int (1 : Int32)), .val (.long (own_ref (0 : Int32))), .second, .val (.long (own_ref ((0 : Int32) + (1 : Int32)))), .second, .unset, .unset, .unset] [(.long (-7046029254386353131 : Int64)), (.long (0 : Int32).toInt64), (.long (1234567 : Int64)), (.ref b18), (.ref b18)])) _
      refine XS.lmul X18.here hx rfl (hb hby at_126) rfl ?_
      show Steps p.tables e below (T18.setTop (mkF m 127 #[.val (.long p0), .second, .val (.int p1), .val (.long (-7046029254386353131 : Int64)), .second, .val (.int (0 : Int32)), .val (.ref b2), .val (.long (own_mix (p0 + (-7046029254386353131 : Int64)))), .second, .val (.ref b8), .val (.int (1 : Int32)), .val (.long (own_ref (0 : Int32))), .second, .val (.long (own_ref ((0 : Int32) + (1 : Int32)))), .second, .unset, .unset, .unset] [(.long ((0 : Int32).toInt64 * (-7046029254386353131 : Int64))), (.long (1234567 : Int64)), (.ref b18), (.ref b18)])) _
      refine XS.ladd X18.here hx rfl (hb hby at_127) rfl ?_
      show Steps p.tables e below (T18.setTop (mkF m 128 #[.val (.long p0), .second, .val (.int p1), .val (.long (-7046029254386353131 : Int64)), .second, .val (.int (0 : Int32)), .val (.ref b2), .val (.long (own_mix (p0 + (-7046029254386353131 : Int64)))), .second, .val (.ref b8), .val (.int (1 : Int32)), .val (.long (own_ref (0 : Int32))), .second, .val (.long (own_ref ((0 : Int32) + (1 : Int32)))), .second, .unset, .unset, .unset] [(.long ((1234567 : Int64) + ((0 : Int32).toInt64 * (-7046029254386353131 : Int64)))), (.ref b18), (.ref b18)])) _
      exact k
    refine own_go k20 ?_
    clear k20
    obtain ⟨_, _, ⟨T19, L19, k19, n19⟩, -, X19, ⟨Lc19, hQ19, l19, y19, z19⟩, st19⟩ := X18.specialBack hx (y := (⟨"com/example/composure/composure/generate/SplitMix64", "<init>", "(J)V"⟩ : MethodName)) rfl hown (mvT hZ (hw _ (List.mem_of_getElem? (i := 4) rfl))) (mvT hZ (hw _ (List.mem_of_getElem? (i := 5) rfl))) (mvT hZ (hw _ (List.mem_of_getElem? (i := 6) rfl))) (by decide) (backOf (W := 1) (own_rm_init l Z a0 hw [] b18 ((1234567 : Int64) + ((0 : Int32).toInt64 * (-7046029254386353131 : Int64))) (0 : Int64) h18 n0 Z18 F18_state A18 g_b18) hZ (hw _ (List.mem_of_getElem? (i := 6) rfl)) (hw _ (List.mem_of_getElem? (i := 3) rfl)) (by decide) (by decide)) (g := (mkF m 128 #[.val (.long p0), .second, .val (.int p1), .val (.long (-7046029254386353131 : Int64)), .second, .val (.int (0 : Int32)), .val (.ref b2), .val (.long (own_mix (p0 + (-7046029254386353131 : Int64)))), .second, .val (.ref b8), .val (.int (1 : Int32)), .val (.long (own_ref (0 : Int32))), .second, .val (.long (own_ref ((0 : Int32) + (1 : Int32)))), .second, .unset, .unset, .unset] [(.long ((1234567 : Int64) + ((0 : Int32).toInt64 * (-7046029254386353131 : Int64)))), (.ref b18), (.ref b18)])) rfl (by rw [hml]; rfl) (Steps.refl _) (a := b18) (argsL := [(.long ((1234567 : Int64) + ((0 : Int32).toInt64 * (-7046029254386353131 : Int64))))]) (rest := [(.ref b18)]) (lenOf own_pd_28J29V rfl) rfl (by show 2 * 0 + _ ≤ _; exact Nat.le_of_eq rfl) (hb hby at_128) (fun _ _ => ⟨rfl, e18, (by decide : 3 + 0 ≤ _), (by decide : 3 + 0 ≤ _)⟩)
    dsimp only [Pt.U, Pt.locs, Pt.cells, Pt.slots] at X19 l19 y19 z19 st19 hQ19
    subst l19 y19 z19
    obtain ⟨rfl, N19q, K19q, p19_0, p19_1⟩ := hQ19
    have N19 := Fr.app N15 N19q
    have f19_0 : Exa Z T19.heap b2 "com/example/composure/composure/generate/SplitMix64" := f18_0.keep K19q
    have f19_1 : Fld Z T19.heap b2 "com/example/composure/composure/generate/SplitMix64" "state" "J" (.long (p0 + (-7046029254386353131 : Int64))) := f18_1.keep K19q (ninS ne_b2_b18 nin0)
    have f19_2 : Exa Z T19.heap b8 "com/example/composure/composure/generate/SplitMix64" := f18_2.keep K19q
    have f19_3 : Fld Z T19.heap b8 "com/example/composure/composure/generate/SplitMix64" "state" "J" (.long ((p0 + ((0 : Int32).toInt64 * (-7046029254386353131 : Int64))) + (-7046029254386353131 : Int64))) := f18_3.keep K19q (ninS ne_b8_b18 nin0)
    have Z19 : n0 ≤ T19.heap.size := Nat.le_trans Z18 K19q.1
    refine own_go (fun _ k => st19.trans k) ?_
    have k22 : ∀ t, Steps p.tables e below (T19.setTop (mkF m 135 #[.val (.long p0), .second, .val (.int p1), .val (.long (-7046029254386353131 : Int64)), .second, .val (.int (0 : Int32)), .val (.ref b2), .val (.long (own_mix (p0 + (-7046029254386353131 : Int64)))), .second, .val (.ref b8), .val (.int (1 : Int32)), .val (.long (own_ref (0 : Int32))), .second, .val (.long (own_ref ((0 : Int32) + (1 : Int32)))), .second, .val (.ref b18), .unset, .unset] [(.ref b18)])) t → Steps p.tables e below (T19.setTop (mkF m 131 #[.val (.long p0), .second, .val (.int p1), .val (.long (-7046029254386353131 : Int64)), .second, .val (.int (0 : Int32)), .val (.ref b2), .val (.long (own_mix (p0 + (-7046029254386353131 : Int64)))), .second, .val (.ref b8), .val (.int (1 : Int32)), .val (.long (own_ref (0 : Int32))), .second, .val (.long (own_ref ((0 : Int32) + (1 : Int32)))), .second, .unset, .unset, .unset] [(.ref b18)])) t := fun t k => by
      refine XS.astore X19.here hx rfl (hb hby at_131) rfl rfl (l' := #[.val (.long p0), .second, .val (.int p1), .val (.long (-7046029254386353131 : Int64)), .second, .val (.int (0 : Int32)), .val (.ref b2), .val (.long (own_mix (p0 + (-7046029254386353131 : Int64)))), .second, .val (.ref b8), .val (.int (1 : Int32)), .val (.long (own_ref (0 : Int32))), .second, .val (.long (own_ref ((0 : Int32) + (1 : Int32)))), .second, .val (.ref b18), .unset, .unset]) rfl ?_
      show Steps p.tables e below (T19.setTop (mkF m 133 #[.val (.long p0), .second, .val (.int p1), .val (.long (-7046029254386353131 : Int64)), .second, .val (.int (0 : Int32)), .val (.ref b2), .val (.long (own_mix (p0 + (-7046029254386353131 : Int64)))), .second, .val (.ref b8), .val (.int (1 : Int32)), .val (.long (own_ref (0 : Int32))), .second, .val (.long (own_ref ((0 : Int32) + (1 : Int32)))), .second, .val (.ref b18), .unset, .unset] [])) _
      refine XS.aload X19.here hx rfl (hb hby at_133) rfl rfl ?_
      show Steps p.tables e below (T19.setTop (mkF m 135 #[.val (.long p0), .second, .val (.int p1), .val (.long (-7046029254386353131 : Int64)), .second, .val (.int (0 : Int32)), .val (.ref b2), .val (.long (own_mix (p0 + (-7046029254386353131 : Int64)))), .second, .val (.ref b8), .val (.int (1 : Int32)), .val (.long (own_ref (0 : Int32))), .second, .val (.long (own_ref ((0 : Int32) + (1 : Int32)))), .second, .val (.ref b18), .unset, .unset] [(.ref b18)])) _
      exact k
    refine own_go k22 ?_
    clear k22
    obtain ⟨cq21, kq21, q21a, q21b, q21c⟩ := isOf hZ rfl p19_0
    obtain ⟨_, _, ⟨T21, L21, k21, n21⟩, -, X21, ⟨Lc21, hQ21, l21, y21, z21⟩, st21⟩ := X19.virtualBack hx (y := (⟨"com/example/composure/composure/generate/SplitMix64", "next", "()J"⟩ : MethodName)) (z := (⟨"com/example/composure/composure/generate/SplitMix64", "next", "()J"⟩ : MethodName)) hown (mvT hZ (hw _ (List.mem_of_getElem? (i := 12) rfl))) (mvT hZ (hw _ (List.mem_of_getElem? (i := 13) rfl))) (notFace_of_selects (args := #[]) (mvT hZ (hw _ (List.mem_of_getElem? (i := 15) rfl)))) (mvT hZ (hw _ (List.mem_of_getElem? (i := 15) rfl))) (mvT hZ (hw _ (List.mem_of_getElem? (i := 14) rfl))) (by decide) (backOf (W := 0) (own_rm_next l Z a0 hw [] b18 ((1234567 : Int64) + ((0 : Int32).toInt64 * (-7046029254386353131 : Int64))) T19.heap n0 Z19 p19_1 p19_0 g_b18) hZ (hw _ (List.mem_of_getElem? (i := 16) rfl)) (hw _ (List.mem_of_getElem? (i := 3) rfl)) (by decide) (by decide)) q21a q21c (g := (mkF m 135 #[.val (.long p0), .second, .val (.int p1), .val (.long (-7046029254386353131 : Int64)), .second, .val (.int (0 : Int32)), .val (.ref b2), .val (.long (own_mix (p0 + (-7046029254386353131 : Int64)))), .second, .val (.ref b8), .val (.int (1 : Int32)), .val (.long (own_ref (0 : Int32))), .second, .val (.long (own_ref ((0 : Int32) + (1 : Int32)))), .second, .val (.ref b18), .unset, .unset] [(.ref b18)])) rfl (by rw [hml]; rfl) (Steps.refl _) (argsL := []) (rest := []) (lenOf own_pd_2829J rfl) rfl (by show 2 * 0 + _ ≤ _; exact Nat.le_of_eq rfl) (hb hby at_135) (fun _ _ => ⟨rfl, rfl, (by decide : 3 + 0 ≤ _), (by decide : 3 + 0 ≤ _)⟩)
    dsimp only [Pt.U, Pt.locs, Pt.cells, Pt.slots] at X21 l21 y21 z21 st21 hQ21
    subst l21 y21 z21
    obtain ⟨rfl, N21q, K21q, p21_0, p21_1⟩ := hQ21
    have N21 := Fr.app N19 N21q
    have f21_0 : Exa Z T21.heap b2 "com/example/composure/composure/generate/SplitMix64" := f19_0.keep K21q
    have f21_1 : Fld Z T21.heap b2 "com/example/composure/composure/generate/SplitMix64" "state" "J" (.long (p0 + (-7046029254386353131 : Int64))) := f19_1.keep K21q (ninS ne_b2_b18 nin0)
    have f21_2 : Exa Z T21.heap b8 "com/example/composure/composure/generate/SplitMix64" := f19_2.keep K21q
    have f21_3 : Fld Z T21.heap b8 "com/example/composure/composure/generate/SplitMix64" "state" "J" (.long ((p0 + ((0 : Int32).toInt64 * (-7046029254386353131 : Int64))) + (-7046029254386353131 : Int64))) := f19_3.keep K21q (ninS ne_b8_b18 nin0)
    have Z21 : n0 ≤ T21.heap.size := Nat.le_trans Z19 K21q.1
    refine own_go (fun _ k => st21.trans k) ?_
    have k24 : ∀ t, Steps p.tables e below (T21.setTop (mkF m 153 #[.val (.long p0), .second, .val (.int p1), .val (.long (-7046029254386353131 : Int64)), .second, .val (.int (0 : Int32)), .val (.ref b2), .val (.long (own_mix (p0 + (-7046029254386353131 : Int64)))), .second, .val (.ref b8), .val (.int (1 : Int32)), .val (.long (own_ref (0 : Int32))), .second, .val (.long (own_ref ((0 : Int32) + (1 : Int32)))), .second, .val (.ref b18), .val (.int (1 : Int32)), .unset] [(.ref b18)])) t → Steps p.tables e below (T21.setTop (mkF m 138 #[.val (.long p0), .second, .val (.int p1), .val (.long (-7046029254386353131 : Int64)), .second, .val (.int (0 : Int32)), .val (.ref b2), .val (.long (own_mix (p0 + (-7046029254386353131 : Int64)))), .second, .val (.ref b8), .val (.int (1 : Int32)), .val (.long (own_ref (0 : Int32))), .second, .val (.long (own_ref ((0 : Int32) + (1 : Int32)))), .second, .val (.ref b18), .unset, .unset] [(.long (own_mix (((1234567 : Int64) + ((0 : Int32).toInt64 * (-7046029254386353131 : Int64))) + (-7046029254386353131 : Int64))))])) t := fun t k => by
      refine XS.lload X21.here hx rfl (hb hby at_138) rfl ?_
      show Steps p.tables e below (T21.setTop (mkF m 140 #[.val (.long p0), .second, .val (.int p1), .val (.long (-7046029254386353131 : Int64)), .second, .val (.int (0 : Int32)), .val (.ref b2), .val (.long (own_mix (p0 + (-7046029254386353131 : Int64)))), .second, .val (.ref b8), .val (.int (1 : Int32)), .val (.long (own_ref (0 : Int32))), .second, .val (.long (own_ref ((0 : Int32) + (1 : Int32)))), .second, .val (.ref b18), .unset, .unset] [(.long (own_ref (0 : Int32))), (.long (own_mix (((1234567 : Int64) + ((0 : Int32).toInt64 * (-7046029254386353131 : Int64))) + (-7046029254386353131 : Int64))))])) _
      refine XS.lcmp X21.here hx rfl (hb hby at_140) rfl ?_
      show Steps p.tables e below (T21.setTop (mkF m 141 #[.val (.long p0), .second, .val (.int p1), .val (.long (-7046029254386353131 : Int64)), .second, .val (.int (0 : Int32)), .val (.ref b2), .val (.long (own_mix (p0 + (-7046029254386353131 : Int64)))), .second, .val (.ref b8), .val (.int (1 : Int32)), .val (.long (own_ref (0 : Int32))), .second, .val (.long (own_ref ((0 : Int32) + (1 : Int32)))), .second, .val (.ref b18), .unset, .unset] [(.int (lcmpW (own_mix (((1234567 : Int64) + ((0 : Int32).toInt64 * (-7046029254386353131 : Int64))) + (-7046029254386353131 : Int64))) (own_ref (0 : Int32))))])) _
      refine XS.ifNo X21.here hx rfl (hb hby at_141) rfl ((if0 _ _).trans (teq ((lw_eq _ _).mpr (by decide +kernel))).2) ?_
      show Steps p.tables e below (T21.setTop (mkF m 144 #[.val (.long p0), .second, .val (.int p1), .val (.long (-7046029254386353131 : Int64)), .second, .val (.int (0 : Int32)), .val (.ref b2), .val (.long (own_mix (p0 + (-7046029254386353131 : Int64)))), .second, .val (.ref b8), .val (.int (1 : Int32)), .val (.long (own_ref (0 : Int32))), .second, .val (.long (own_ref ((0 : Int32) + (1 : Int32)))), .second, .val (.ref b18), .unset, .unset] [])) _
      refine XS.iconst X21.here hx rfl (hb hby at_144) ?_
      show Steps p.tables e below (T21.setTop (mkF m 145 #[.val (.long p0), .second, .val (.int p1), .val (.long (-7046029254386353131 : Int64)), .second, .val (.int (0 : Int32)), .val (.ref b2), .val (.long (own_mix (p0 + (-7046029254386353131 : Int64)))), .second, .val (.ref b8), .val (.int (1 : Int32)), .val (.long (own_ref (0 : Int32))), .second, .val (.long (own_ref ((0 : Int32) + (1 : Int32)))), .second, .val (.ref b18), .unset, .unset] [(.int (1 : Int32))])) _
      refine XS.goto X21.here hx rfl (pc0 := 145) (pc' := 149) rfl (hb hby at_145) (by decide) (by decide) ?_
      show Steps p.tables e below (T21.setTop (mkF m 149 #[.val (.long p0), .second, .val (.int p1), .val (.long (-7046029254386353131 : Int64)), .second, .val (.int (0 : Int32)), .val (.ref b2), .val (.long (own_mix (p0 + (-7046029254386353131 : Int64)))), .second, .val (.ref b8), .val (.int (1 : Int32)), .val (.long (own_ref (0 : Int32))), .second, .val (.long (own_ref ((0 : Int32) + (1 : Int32)))), .second, .val (.ref b18), .unset, .unset] [(.int (1 : Int32))])) _
      refine XS.istore X21.here hx rfl (hb hby at_149) rfl (l' := #[.val (.long p0), .second, .val (.int p1), .val (.long (-7046029254386353131 : Int64)), .second, .val (.int (0 : Int32)), .val (.ref b2), .val (.long (own_mix (p0 + (-7046029254386353131 : Int64)))), .second, .val (.ref b8), .val (.int (1 : Int32)), .val (.long (own_ref (0 : Int32))), .second, .val (.long (own_ref ((0 : Int32) + (1 : Int32)))), .second, .val (.ref b18), .val (.int (1 : Int32)), .unset]) rfl ?_
      show Steps p.tables e below (T21.setTop (mkF m 151 #[.val (.long p0), .second, .val (.int p1), .val (.long (-7046029254386353131 : Int64)), .second, .val (.int (0 : Int32)), .val (.ref b2), .val (.long (own_mix (p0 + (-7046029254386353131 : Int64)))), .second, .val (.ref b8), .val (.int (1 : Int32)), .val (.long (own_ref (0 : Int32))), .second, .val (.long (own_ref ((0 : Int32) + (1 : Int32)))), .second, .val (.ref b18), .val (.int (1 : Int32)), .unset] [])) _
      refine XS.aload X21.here hx rfl (hb hby at_151) rfl rfl ?_
      show Steps p.tables e below (T21.setTop (mkF m 153 #[.val (.long p0), .second, .val (.int p1), .val (.long (-7046029254386353131 : Int64)), .second, .val (.int (0 : Int32)), .val (.ref b2), .val (.long (own_mix (p0 + (-7046029254386353131 : Int64)))), .second, .val (.ref b8), .val (.int (1 : Int32)), .val (.long (own_ref (0 : Int32))), .second, .val (.long (own_ref ((0 : Int32) + (1 : Int32)))), .second, .val (.ref b18), .val (.int (1 : Int32)), .unset] [(.ref b18)])) _
      exact k
    refine own_go k24 ?_
    clear k24
    obtain ⟨cq23, kq23, q23a, q23b, q23c⟩ := isOf hZ rfl p21_0
    obtain ⟨_, _, ⟨T23, L23, k23, n23⟩, -, X23, ⟨Lc23, hQ23, l23, y23, z23⟩, st23⟩ := X21.virtualBack hx (y := (⟨"com/example/composure/composure/generate/SplitMix64", "next", "()J"⟩ : MethodName)) (z := (⟨"com/example/composure/composure/generate/SplitMix64", "next", "()J"⟩ : MethodName)) hown (mvT hZ (hw _ (List.mem_of_getElem? (i := 12) rfl))) (mvT hZ (hw _ (List.mem_of_getElem? (i := 13) rfl))) (notFace_of_selects (args := #[]) (mvT hZ (hw _ (List.mem_of_getElem? (i := 15) rfl)))) (mvT hZ (hw _ (List.mem_of_getElem? (i := 15) rfl))) (mvT hZ (hw _ (List.mem_of_getElem? (i := 14) rfl))) (by decide) (backOf (W := 0) (own_rm_next l Z a0 hw [] b18 (((1234567 : Int64) + ((0 : Int32).toInt64 * (-7046029254386353131 : Int64))) + (-7046029254386353131 : Int64)) T21.heap n0 Z21 p21_1 p21_0 g_b18) hZ (hw _ (List.mem_of_getElem? (i := 16) rfl)) (hw _ (List.mem_of_getElem? (i := 3) rfl)) (by decide) (by decide)) q23a q23c (g := (mkF m 153 #[.val (.long p0), .second, .val (.int p1), .val (.long (-7046029254386353131 : Int64)), .second, .val (.int (0 : Int32)), .val (.ref b2), .val (.long (own_mix (p0 + (-7046029254386353131 : Int64)))), .second, .val (.ref b8), .val (.int (1 : Int32)), .val (.long (own_ref (0 : Int32))), .second, .val (.long (own_ref ((0 : Int32) + (1 : Int32)))), .second, .val (.ref b18), .val (.int (1 : Int32)), .unset] [(.ref b18)])) rfl (by rw [hml]; rfl) (Steps.refl _) (argsL := []) (rest := []) (lenOf own_pd_2829J rfl) rfl (by show 2 * 0 + _ ≤ _; exact Nat.le_of_eq rfl) (hb hby at_153) (fun _ _ => ⟨rfl, rfl, (by decide : 3 + 0 ≤ _), (by decide : 3 + 0 ≤ _)⟩)
    dsimp only [Pt.U, Pt.locs, Pt.cells, Pt.slots] at X23 l23 y23 z23 st23 hQ23
    subst l23 y23 z23
    obtain ⟨rfl, N23q, K23q, p23_0, p23_1⟩ := hQ23
    have N23 := Fr.app N21 N23q
    have f23_0 : Exa Z T23.heap b2 "com/example/composure/composure/generate/SplitMix64" := f21_0.keep K23q
    have f23_1 : Fld Z T23.heap b2 "com/example/composure/composure/generate/SplitMix64" "state" "J" (.long (p0 + (-7046029254386353131 : Int64))) := f21_1.keep K23q (ninS ne_b2_b18 nin0)
    have f23_2 : Exa Z T23.heap b8 "com/example/composure/composure/generate/SplitMix64" := f21_2.keep K23q
    have f23_3 : Fld Z T23.heap b8 "com/example/composure/composure/generate/SplitMix64" "state" "J" (.long ((p0 + ((0 : Int32).toInt64 * (-7046029254386353131 : Int64))) + (-7046029254386353131 : Int64))) := f21_3.keep K23q (ninS ne_b8_b18 nin0)
    have Z23 : n0 ≤ T23.heap.size := Nat.le_trans Z21 K23q.1
    refine own_go (fun _ k => st23.trans k) ?_
    have k25 : ∀ t, Steps p.tables e below (T23.setTop (mkF m 189 #[.val (.long p0), .second, .val (.int p1), .val (.long (-7046029254386353131 : Int64)), .second, .val (.int (0 : Int32)), .val (.ref b2), .val (.long (own_mix (p0 + (-7046029254386353131 : Int64)))), .second, .val (.ref b8), .val (.int (1 : Int32)), .val (.long (own_ref (0 : Int32))), .second, .val (.long (own_ref ((0 : Int32) + (1 : Int32)))), .second, .val (.ref b18), .val (.int (1 : Int32)), .val (.int (1 : Int32))] [(.int (1 : Int32))])) t → Steps p.tables e below (T23.setTop (mkF m 156 #[.val (.long p0), .second, .val (.int p1), .val (.long (-7046029254386353131 : Int64)), .second, .val (.int (0 : Int32)), .val (.ref b2), .val (.long (own_mix (p0 + (-7046029254386353131 : Int64)))), .second, .val (.ref b8), .val (.int (1 : Int32)), .val (.long (own_ref (0 : Int32))), .second, .val (.long (own_ref ((0 : Int32) + (1 : Int32)))), .second, .val (.ref b18), .val (.int (1 : Int32)), .unset] [(.long (own_mix ((((1234567 : Int64) + ((0 : Int32).toInt64 * (-7046029254386353131 : Int64))) + (-7046029254386353131 : Int64)) + (-7046029254386353131 : Int64))))])) t := fun t k => by
      refine XS.lload X23.here hx rfl (hb hby at_156) rfl ?_
      show Steps p.tables e below (T23.setTop (mkF m 158 #[.val (.long p0), .second, .val (.int p1), .val (.long (-7046029254386353131 : Int64)), .second, .val (.int (0 : Int32)), .val (.ref b2), .val (.long (own_mix (p0 + (-7046029254386353131 : Int64)))), .second, .val (.ref b8), .val (.int (1 : Int32)), .val (.long (own_ref (0 : Int32))), .second, .val (.long (own_ref ((0 : Int32) + (1 : Int32)))), .second, .val (.ref b18), .val (.int (1 : Int32)), .unset] [(.long (own_ref ((0 : Int32) + (1 : Int32)))), (.long (own_mix ((((1234567 : Int64) + ((0 : Int32).toInt64 * (-7046029254386353131 : Int64))) + (-7046029254386353131 : Int64)) + (-7046029254386353131 : Int64))))])) _
      refine XS.lcmp X23.here hx rfl (hb hby at_158) rfl ?_
      show Steps p.tables e below (T23.setTop (mkF m 159 #[.val (.long p0), .second, .val (.int p1), .val (.long (-7046029254386353131 : Int64)), .second, .val (.int (0 : Int32)), .val (.ref b2), .val (.long (own_mix (p0 + (-7046029254386353131 : Int64)))), .second, .val (.ref b8), .val (.int (1 : Int32)), .val (.long (own_ref (0 : Int32))), .second, .val (.long (own_ref ((0 : Int32) + (1 : Int32)))), .second, .val (.ref b18), .val (.int (1 : Int32)), .unset] [(.int (lcmpW (own_mix ((((1234567 : Int64) + ((0 : Int32).toInt64 * (-7046029254386353131 : Int64))) + (-7046029254386353131 : Int64)) + (-7046029254386353131 : Int64))) (own_ref ((0 : Int32) + (1 : Int32)))))])) _
      refine XS.ifNo X23.here hx rfl (hb hby at_159) rfl ((if0 _ _).trans (teq ((lw_eq _ _).mpr (by decide +kernel))).2) ?_
      show Steps p.tables e below (T23.setTop (mkF m 162 #[.val (.long p0), .second, .val (.int p1), .val (.long (-7046029254386353131 : Int64)), .second, .val (.int (0 : Int32)), .val (.ref b2), .val (.long (own_mix (p0 + (-7046029254386353131 : Int64)))), .second, .val (.ref b8), .val (.int (1 : Int32)), .val (.long (own_ref (0 : Int32))), .second, .val (.long (own_ref ((0 : Int32) + (1 : Int32)))), .second, .val (.ref b18), .val (.int (1 : Int32)), .unset] [])) _
      refine XS.iconst X23.here hx rfl (hb hby at_162) ?_
      show Steps p.tables e below (T23.setTop (mkF m 163 #[.val (.long p0), .second, .val (.int p1), .val (.long (-7046029254386353131 : Int64)), .second, .val (.int (0 : Int32)), .val (.ref b2), .val (.long (own_mix (p0 + (-7046029254386353131 : Int64)))), .second, .val (.ref b8), .val (.int (1 : Int32)), .val (.long (own_ref (0 : Int32))), .second, .val (.long (own_ref ((0 : Int32) + (1 : Int32)))), .second, .val (.ref b18), .val (.int (1 : Int32)), .unset] [(.int (1 : Int32))])) _
      refine XS.goto X23.here hx rfl (pc0 := 163) (pc' := 167) rfl (hb hby at_163) (by decide) (by decide) ?_
      show Steps p.tables e below (T23.setTop (mkF m 167 #[.val (.long p0), .second, .val (.int p1), .val (.long (-7046029254386353131 : Int64)), .second, .val (.int (0 : Int32)), .val (.ref b2), .val (.long (own_mix (p0 + (-7046029254386353131 : Int64)))), .second, .val (.ref b8), .val (.int (1 : Int32)), .val (.long (own_ref (0 : Int32))), .second, .val (.long (own_ref ((0 : Int32) + (1 : Int32)))), .second, .val (.ref b18), .val (.int (1 : Int32)), .unset] [(.int (1 : Int32))])) _
      refine XS.istore X23.here hx rfl (hb hby at_167) rfl (l' := #[.val (.long p0), .second, .val (.int p1), .val (.long (-7046029254386353131 : Int64)), .second, .val (.int (0 : Int32)), .val (.ref b2), .val (.long (own_mix (p0 + (-7046029254386353131 : Int64)))), .second, .val (.ref b8), .val (.int (1 : Int32)), .val (.long (own_ref (0 : Int32))), .second, .val (.long (own_ref ((0 : Int32) + (1 : Int32)))), .second, .val (.ref b18), .val (.int (1 : Int32)), .val (.int (1 : Int32))]) rfl ?_
      show Steps p.tables e below (T23.setTop (mkF m 169 #[.val (.long p0), .second, .val (.int p1), .val (.long (-7046029254386353131 : Int64)), .second, .val (.int (0 : Int32)), .val (.ref b2), .val (.long (own_mix (p0 + (-7046029254386353131 : Int64)))), .second, .val (.ref b8), .val (.int (1 : Int32)), .val (.long (own_ref (0 : Int32))), .second, .val (.long (own_ref ((0 : Int32) + (1 : Int32)))), .second, .val (.ref b18), .val (.int (1 : Int32)), .val (.int (1 : Int32))] [])) _
      refine XS.iload X23.here hx rfl (hb hby at_169) rfl ?_
      show Steps p.tables e below (T23.setTop (mkF m 171 #[.val (.long p0), .second, .val (.int p1), .val (.long (-7046029254386353131 : Int64)), .second, .val (.int (0 : Int32)), .val (.ref b2), .val (.long (own_mix (p0 + (-7046029254386353131 : Int64)))), .second, .val (.ref b8), .val (.int (1 : Int32)), .val (.long (own_ref (0 : Int32))), .second, .val (.long (own_ref ((0 : Int32) + (1 : Int32)))), .second, .val (.ref b18), .val (.int (1 : Int32)), .val (.int (1 : Int32))] [(.int (1 : Int32))])) _
      refine XS.ifNo X23.here hx rfl (hb hby at_171) rfl ((if0 _ _).trans (feq (by decide : ¬ ((1 : Int32) = (0 : Int32)))).1) ?_
      show Steps p.tables e below (T23.setTop (mkF m 174 #[.val (.long p0), .second, .val (.int p1), .val (.long (-7046029254386353131 : Int64)), .second, .val (.int (0 : Int32)), .val (.ref b2), .val (.long (own_mix (p0 + (-7046029254386353131 : Int64)))), .second, .val (.ref b8), .val (.int (1 : Int32)), .val (.long (own_ref (0 : Int32))), .second, .val (.long (own_ref ((0 : Int32) + (1 : Int32)))), .second, .val (.ref b18), .val (.int (1 : Int32)), .val (.int (1 : Int32))] [])) _
      refine XS.iload X23.here hx rfl (hb hby at_174) rfl ?_
      show Steps p.tables e below (T23.setTop (mkF m 176 #[.val (.long p0), .second, .val (.int p1), .val (.long (-7046029254386353131 : Int64)), .second, .val (.int (0 : Int32)), .val (.ref b2), .val (.long (own_mix (p0 + (-7046029254386353131 : Int64)))), .second, .val (.ref b8), .val (.int (1 : Int32)), .val (.long (own_ref (0 : Int32))), .second, .val (.long (own_ref ((0 : Int32) + (1 : Int32)))), .second, .val (.ref b18), .val (.int (1 : Int32)), .val (.int (1 : Int32))] [(.int (1 : Int32))])) _
      refine XS.ifNo X23.here hx rfl (hb hby at_176) rfl ((if0 _ _).trans (feq (by decide : ¬ ((1 : Int32) = (0 : Int32)))).1) ?_
      show Steps p.tables e below (T23.setTop (mkF m 179 #[.val (.long p0), .second, .val (.int p1), .val (.long (-7046029254386353131 : Int64)), .second, .val (.int (0 : Int32)), .val (.ref b2), .val (.long (own_mix (p0 + (-7046029254386353131 : Int64)))), .second, .val (.ref b8), .val (.int (1 : Int32)), .val (.long (own_ref (0 : Int32))), .second, .val (.long (own_ref ((0 : Int32) + (1 : Int32)))), .second, .val (.ref b18), .val (.int (1 : Int32)), .val (.int (1 : Int32))] [])) _
      refine XS.iload X23.here hx rfl (hb hby at_179) rfl ?_
      show Steps p.tables e below (T23.setTop (mkF m 181 #[.val (.long p0), .second, .val (.int p1), .val (.long (-7046029254386353131 : Int64)), .second, .val (.int (0 : Int32)), .val (.ref b2), .val (.long (own_mix (p0 + (-7046029254386353131 : Int64)))), .second, .val (.ref b8), .val (.int (1 : Int32)), .val (.long (own_ref (0 : Int32))), .second, .val (.long (own_ref ((0 : Int32) + (1 : Int32)))), .second, .val (.ref b18), .val (.int (1 : Int32)), .val (.int (1 : Int32))] [(.int (1 : Int32))])) _
      refine XS.ifNo X23.here hx rfl (hb hby at_181) rfl ((if0 _ _).trans (feq (by decide : ¬ ((1 : Int32) = (0 : Int32)))).1) ?_
      show Steps p.tables e below (T23.setTop (mkF m 184 #[.val (.long p0), .second, .val (.int p1), .val (.long (-7046029254386353131 : Int64)), .second, .val (.int (0 : Int32)), .val (.ref b2), .val (.long (own_mix (p0 + (-7046029254386353131 : Int64)))), .second, .val (.ref b8), .val (.int (1 : Int32)), .val (.long (own_ref (0 : Int32))), .second, .val (.long (own_ref ((0 : Int32) + (1 : Int32)))), .second, .val (.ref b18), .val (.int (1 : Int32)), .val (.int (1 : Int32))] [])) _
      refine XS.iconst X23.here hx rfl (hb hby at_184) ?_
      show Steps p.tables e below (T23.setTop (mkF m 185 #[.val (.long p0), .second, .val (.int p1), .val (.long (-7046029254386353131 : Int64)), .second, .val (.int (0 : Int32)), .val (.ref b2), .val (.long (own_mix (p0 + (-7046029254386353131 : Int64)))), .second, .val (.ref b8), .val (.int (1 : Int32)), .val (.long (own_ref (0 : Int32))), .second, .val (.long (own_ref ((0 : Int32) + (1 : Int32)))), .second, .val (.ref b18), .val (.int (1 : Int32)), .val (.int (1 : Int32))] [(.int (1 : Int32))])) _
      refine XS.goto X23.here hx rfl (pc0 := 185) (pc' := 189) rfl (hb hby at_185) (by decide) (by decide) ?_
      show Steps p.tables e below (T23.setTop (mkF m 189 #[.val (.long p0), .second, .val (.int p1), .val (.long (-7046029254386353131 : Int64)), .second, .val (.int (0 : Int32)), .val (.ref b2), .val (.long (own_mix (p0 + (-7046029254386353131 : Int64)))), .second, .val (.ref b8), .val (.int (1 : Int32)), .val (.long (own_ref (0 : Int32))), .second, .val (.long (own_ref ((0 : Int32) + (1 : Int32)))), .second, .val (.ref b18), .val (.int (1 : Int32)), .val (.int (1 : Int32))] [(.int (1 : Int32))])) _
      exact k
    refine own_go k25 ?_
    clear k25
    obtain ⟨fs, hr, hrun, hended, hW, hsame⟩ := X23.leave (v := some (.int (nar .boolean (1 : Int32)))) (fun h => by rw [Bd.returns] at h; cases h)
    refine ⟨_, _, retN X23 hx (t := .boolean) Bd.returns (by simp) (hb hby at_189) hr, hPf _ _ ⟨hrun, hended, _, _, rfl, ?_, ⟨_, rfl⟩, hW, hsame.mono (by decide) (by decide)⟩⟩
    show own_Q_law Z p0 p1 h0 n0 _ T23.heap _
    exact ⟨rfl, N23⟩
  · subst hj
    obtain ⟨T26, h26, X26, e26, E26, A26, D26, -, st26⟩ := newO X0 hx hZ hown (hw _ (List.mem_of_getElem? (i := 1) rfl)) (hw _ (List.mem_of_getElem? (i := 2) rfl)) (hw _ (List.mem_of_getElem? (i := 3) rfl)) e0 (g := (mkF m 9 #[.val (.long p0), .second, .val (.int p1), .val (.long (-7046029254386353131 : Int64)), .second, .val (.int (1 : Int32)), .unset, .unset, .unset, .unset, .unset, .unset, .unset, .unset, .unset, .unset, .unset, .unset] [])) rfl (hb hby at_9) (by decide) (by decide)
    obtain ⟨b26, g26⟩ : ∃ z, z = h0.size := ⟨_, rfl⟩
    rw [← g26] at A26 D26 st26
    refine own_go st26 ?_
    have g_b26 : n0 ≤ b26 := Nat.le_trans Z0 (Nat.le_of_eq g26.symm)
    have Z26 : n0 ≤ h26.size := Nat.le_trans Z0 E26.1
    have F26_state : Fld Z h26 b26 "com/example/composure/composure/generate/SplitMix64" "state" "J" (.long (0 : Int64)) := D26 (Or.inl (hw _ (List.mem_of_getElem? (i := 11) rfl))) (ty := .long) (by decide)
    have k28 : ∀ t, Steps p.tables e below (T26.setTop (mkF m 14 #[.val (.long p0), .second, .val (.int p1), .val (.long (-7046029254386353131 : Int64)), .second, .val (.int (1 : Int32)), .unset, .unset, .unset, .unset, .unset, .unset, .unset, .unset, .unset, .unset, .unset, .unset] [(.long p0), (.ref b26), (.ref b26)])) t → Steps p.tables e below (T26.setTop (mkF m 12 #[.val (.long p0), .second, .val (.int p1), .val (.long (-7046029254386353131 : Int64)), .second, .val (.int (1 : Int32)), .unset, .unset, .unset, .unset, .unset, .unset, .unset, .unset, .unset, .unset, .unset, .unset] [(.ref b26)])) t := fun t k => by
      refine XS.dup X26.here hx rfl (hb hby at_12) rfl rfl ?_
      show Steps p.tables e below (T26.setTop (mkF m 13 #[.val (.long p0), .second, .val (.int p1), .val (.long (-7046029254386353131 : Int64)), .second, .val (.int (1 : Int32)), .unset, .unset, .unset, .unset, .unset, .unset, .unset, .unset, .unset, .unset, .unset, .unset] [(.ref b26), (.ref b26)])) _
      refine XS.lloadN X26.here hx rfl (hb hby at_13) rfl ?_
      show Steps p.tables e below (T26.setTop (mkF m 14 #[.val (.long p0), .second, .val (.int p1), .val (.long (-7046029254386353131 : Int64)), .second, .val (.int (1 : Int32)), .unset, .unset, .unset, .unset, .unset, .unset, .unset, .unset, .unset, .unset, .unset, .unset] [(.long p0), (.ref b26), (.ref b26)])) _
      exact k
    refine own_go k28 ?_
    clear k28
    obtain ⟨_, _, ⟨T27, L27, k27, n27⟩, -, X27, ⟨Lc27, hQ27, l27, y27, z27⟩, st27⟩ := X26.specialBack hx (y := (⟨"com/example/composure/composure/generate/SplitMix64", "<init>", "(J)V"⟩ : MethodName)) rfl hown (mvT hZ (hw _ (List.mem_of_getElem? (i := 4) rfl))) (mvT hZ (hw _ (List.mem_of_getElem? (i := 5) rfl))) (mvT hZ (hw _ (List.mem_of_getElem? (i := 6) rfl))) (by decide) (backOf (W := 1) (own_rm_init l Z a0 hw [] b26 p0 (0 : Int64) h26 n0 Z26 F26_state A26 g_b26) hZ (hw _ (List.mem_of_getElem? (i := 6) rfl)) (hw _ (List.mem_of_getElem? (i := 3) rfl)) (by decide) (by decide)) (g := (mkF m 14 #[.val (.long p0), .second, .val (.int p1), .val (.long (-7046029254386353131 : Int64)), .second, .val (.int (1 : Int32)), .unset, .unset, .unset, .unset, .unset, .unset, .unset, .unset, .unset, .unset, .unset, .unset] [(.long p0), (.ref b26), (.ref b26)])) rfl (by rw [hml]; rfl) (Steps.refl _) (a := b26) (argsL := [(.long p0)]) (rest := [(.ref b26)]) (lenOf own_pd_28J29V rfl) rfl (by show 2 * 0 + _ ≤ _; exact Nat.le_of_eq rfl) (hb hby at_14) (fun _ _ => ⟨rfl, e26, (by decide : 1 + 0 ≤ _), (by decide : 1 + 0 ≤ _)⟩)
    dsimp only [Pt.U, Pt.locs, Pt.cells, Pt.slots] at X27 l27 y27 z27 st27 hQ27
    subst l27 y27 z27
    obtain ⟨rfl, N27q, K27q, p27_0, p27_1⟩ := hQ27
    have N27 := Fr.app N0 N27q
    have Z27 : n0 ≤ T27.heap.size := Nat.le_trans Z26 K27q.1
    refine own_go (fun _ k => st27.trans k) ?_
    have k30 : ∀ t, Steps p.tables e below (T27.setTop (mkF m 21 #[.val (.long p0), .second, .val (.int p1), .val (.long (-7046029254386353131 : Int64)), .second, .val (.int (1 : Int32)), .val (.ref b26), .unset, .unset, .unset, .unset, .unset, .unset, .unset, .unset, .unset, .unset, .unset] [(.ref b26)])) t → Steps p.tables e below (T27.setTop (mkF m 17 #[.val (.long p0), .second, .val (.int p1), .val (.long (-7046029254386353131 : Int64)), .second, .val (.int (1 : Int32)), .unset, .unset, .unset, .unset, .unset, .unset, .unset, .unset, .unset, .unset, .unset, .unset] [(.ref b26)])) t := fun t k => by
      refine XS.astore X27.here hx rfl (hb hby at_17) rfl rfl (l' := #[.val (.long p0), .second, .val (.int p1), .val (.long (-7046029254386353131 : Int64)), .second, .val (.int (1 : Int32)), .val (.ref b26), .unset, .unset, .unset, .unset, .unset, .unset, .unset, .unset, .unset, .unset, .unset]) rfl ?_
      show Steps p.tables e below (T27.setTop (mkF m 19 #[.val (.long p0), .second, .val (.int p1), .val (.long (-7046029254386353131 : Int64)), .second, .val (.int (1 : Int32)), .val (.ref b26), .unset, .unset, .unset, .unset, .unset, .unset, .unset, .unset, .unset, .unset, .unset] [])) _
      refine XS.aload X27.here hx rfl (hb hby at_19) rfl rfl ?_
      show Steps p.tables e below (T27.setTop (mkF m 21 #[.val (.long p0), .second, .val (.int p1), .val (.long (-7046029254386353131 : Int64)), .second, .val (.int (1 : Int32)), .val (.ref b26), .unset, .unset, .unset, .unset, .unset, .unset, .unset, .unset, .unset, .unset, .unset] [(.ref b26)])) _
      exact k
    refine own_go k30 ?_
    clear k30
    obtain ⟨cq29, kq29, q29a, q29b, q29c⟩ := isOf hZ rfl p27_0
    obtain ⟨_, _, ⟨T29, L29, k29, n29⟩, -, X29, ⟨Lc29, hQ29, l29, y29, z29⟩, st29⟩ := X27.virtualBack hx (y := (⟨"com/example/composure/composure/generate/SplitMix64", "next", "()J"⟩ : MethodName)) (z := (⟨"com/example/composure/composure/generate/SplitMix64", "next", "()J"⟩ : MethodName)) hown (mvT hZ (hw _ (List.mem_of_getElem? (i := 12) rfl))) (mvT hZ (hw _ (List.mem_of_getElem? (i := 13) rfl))) (notFace_of_selects (args := #[]) (mvT hZ (hw _ (List.mem_of_getElem? (i := 15) rfl)))) (mvT hZ (hw _ (List.mem_of_getElem? (i := 15) rfl))) (mvT hZ (hw _ (List.mem_of_getElem? (i := 14) rfl))) (by decide) (backOf (W := 0) (own_rm_next l Z a0 hw [] b26 p0 T27.heap n0 Z27 p27_1 p27_0 g_b26) hZ (hw _ (List.mem_of_getElem? (i := 16) rfl)) (hw _ (List.mem_of_getElem? (i := 3) rfl)) (by decide) (by decide)) q29a q29c (g := (mkF m 21 #[.val (.long p0), .second, .val (.int p1), .val (.long (-7046029254386353131 : Int64)), .second, .val (.int (1 : Int32)), .val (.ref b26), .unset, .unset, .unset, .unset, .unset, .unset, .unset, .unset, .unset, .unset, .unset] [(.ref b26)])) rfl (by rw [hml]; rfl) (Steps.refl _) (argsL := []) (rest := []) (lenOf own_pd_2829J rfl) rfl (by show 2 * 0 + _ ≤ _; exact Nat.le_of_eq rfl) (hb hby at_21) (fun _ _ => ⟨rfl, rfl, (by decide : 1 + 0 ≤ _), (by decide : 1 + 0 ≤ _)⟩)
    dsimp only [Pt.U, Pt.locs, Pt.cells, Pt.slots] at X29 l29 y29 z29 st29 hQ29
    subst l29 y29 z29
    obtain ⟨rfl, N29q, K29q, p29_0, p29_1⟩ := hQ29
    have N29 := Fr.app N27 N29q
    have Z29 : n0 ≤ T29.heap.size := Nat.le_trans Z27 K29q.1
    refine own_go (fun _ k => st29.trans k) ?_
    have k32 : ∀ t, Steps p.tables e below (T29.setTop (mkF m 34 #[.val (.long p0), .second, .val (.int p1), .val (.long (-7046029254386353131 : Int64)), .second, .val (.int (1 : Int32)), .val (.ref b26), .val (.long (own_mix (p0 + (-7046029254386353131 : Int64)))), .second, .unset, .unset, .unset, .unset, .unset, .unset, .unset, .unset, .unset] [(.ref b26)])) t → Steps p.tables e below (T29.setTop (mkF m 24 #[.val (.long p0), .second, .val (.int p1), .val (.long (-7046029254386353131 : Int64)), .second, .val (.int (1 : Int32)), .val (.ref b26), .unset, .unset, .unset, .unset, .unset, .unset, .unset, .unset, .unset, .unset, .unset] [(.long (own_mix (p0 + (-7046029254386353131 : Int64))))])) t := fun t k => by
      refine XS.lstore X29.here hx rfl (hb hby at_24) rfl (l' := #[.val (.long p0), .second, .val (.int p1), .val (.long (-7046029254386353131 : Int64)), .second, .val (.int (1 : Int32)), .val (.ref b26), .val (.long (own_mix (p0 + (-7046029254386353131 : Int64)))), .second, .unset, .unset, .unset, .unset, .unset, .unset, .unset, .unset, .unset]) rfl ?_
      show Steps p.tables e below (T29.setTop (mkF m 26 #[.val (.long p0), .second, .val (.int p1), .val (.long (-7046029254386353131 : Int64)), .second, .val (.int (1 : Int32)), .val (.ref b26), .val (.long (own_mix (p0 + (-7046029254386353131 : Int64)))), .second, .unset, .unset, .unset, .unset, .unset, .unset, .unset, .unset, .unset] [])) _
      refine XS.iload X29.here hx rfl (hb hby at_26) rfl ?_
      show Steps p.tables e below (T29.setTop (mkF m 28 #[.val (.long p0), .second, .val (.int p1), .val (.long (-7046029254386353131 : Int64)), .second, .val (.int (1 : Int32)), .val (.ref b26), .val (.long (own_mix (p0 + (-7046029254386353131 : Int64)))), .second, .unset, .unset, .unset, .unset, .unset, .unset, .unset, .unset, .unset] [(.int (1 : Int32))])) _
      refine XS.iconst X29.here hx rfl (hb hby at_28) ?_
      show Steps p.tables e below (T29.setTop (mkF m 29 #[.val (.long p0), .second, .val (.int p1), .val (.long (-7046029254386353131 : Int64)), .second, .val (.int (1 : Int32)), .val (.ref b26), .val (.long (own_mix (p0 + (-7046029254386353131 : Int64)))), .second, .unset, .unset, .unset, .unset, .unset, .unset, .unset, .unset, .unset] [(.int (1 : Int32)), (.int (1 : Int32))])) _
      refine XS.icmpNo X29.here hx rfl (hb hby at_29) rfl (flt (by decide : ¬ ((1 : Int32) < (1 : Int32)))).1 ?_
      show Steps p.tables e below (T29.setTop (mkF m 32 #[.val (.long p0), .second, .val (.int p1), .val (.long (-7046029254386353131 : Int64)), .second, .val (.int (1 : Int32)), .val (.ref b26), .val (.long (own_mix (p0 + (-7046029254386353131 : Int64)))), .second, .unset, .unset, .unset, .unset, .unset, .unset, .unset, .unset, .unset] [])) _
      refine XS.aload X29.here hx rfl (hb hby at_32) rfl rfl ?_
      show Steps p.tables e below (T29.setTop (mkF m 34 #[.val (.long p0), .second, .val (.int p1), .val (.long (-7046029254386353131 : Int64)), .second, .val (.int (1 : Int32)), .val (.ref b26), .val (.long (own_mix (p0 + (-7046029254386353131 : Int64)))), .second, .unset, .unset, .unset, .unset, .unset, .unset, .unset, .unset, .unset] [(.ref b26)])) _
      exact k
    refine own_go k32 ?_
    clear k32
    obtain ⟨cq31, kq31, q31a, q31b, q31c⟩ := isOf hZ rfl p29_0
    obtain ⟨_, _, ⟨T31, L31, k31, n31⟩, -, X31, ⟨Lc31, hQ31, l31, y31, z31⟩, st31⟩ := X29.virtualBack hx (y := (⟨"com/example/composure/composure/generate/SplitMix64", "next", "()J"⟩ : MethodName)) (z := (⟨"com/example/composure/composure/generate/SplitMix64", "next", "()J"⟩ : MethodName)) hown (mvT hZ (hw _ (List.mem_of_getElem? (i := 12) rfl))) (mvT hZ (hw _ (List.mem_of_getElem? (i := 13) rfl))) (notFace_of_selects (args := #[]) (mvT hZ (hw _ (List.mem_of_getElem? (i := 15) rfl)))) (mvT hZ (hw _ (List.mem_of_getElem? (i := 15) rfl))) (mvT hZ (hw _ (List.mem_of_getElem? (i := 14) rfl))) (by decide) (backOf (W := 0) (own_rm_next l Z a0 hw [] b26 (p0 + (-7046029254386353131 : Int64)) T29.heap n0 Z29 p29_1 p29_0 g_b26) hZ (hw _ (List.mem_of_getElem? (i := 16) rfl)) (hw _ (List.mem_of_getElem? (i := 3) rfl)) (by decide) (by decide)) q31a q31c (g := (mkF m 34 #[.val (.long p0), .second, .val (.int p1), .val (.long (-7046029254386353131 : Int64)), .second, .val (.int (1 : Int32)), .val (.ref b26), .val (.long (own_mix (p0 + (-7046029254386353131 : Int64)))), .second, .unset, .unset, .unset, .unset, .unset, .unset, .unset, .unset, .unset] [(.ref b26)])) rfl (by rw [hml]; rfl) (Steps.refl _) (argsL := []) (rest := []) (lenOf own_pd_2829J rfl) rfl (by show 2 * 0 + _ ≤ _; exact Nat.le_of_eq rfl) (hb hby at_34) (fun _ _ => ⟨rfl, rfl, (by decide : 1 + 0 ≤ _), (by decide : 1 + 0 ≤ _)⟩)
    dsimp only [Pt.U, Pt.locs, Pt.cells, Pt.slots] at X31 l31 y31 z31 st31 hQ31
    subst l31 y31 z31
    obtain ⟨rfl, N31q, K31q, p31_0, p31_1⟩ := hQ31
    have N31 := Fr.app N29 N31q
    have Z31 : n0 ≤ T31.heap.size := Nat.le_trans Z29 K31q.1
    refine own_go (fun _ k => st31.trans k) ?_
    have k33 : ∀ t, Steps p.tables e below (T31.setTop (mkF m 65 #[.val (.long p0), .second, .val (.int p1), .val (.long (-7046029254386353131 : Int64)), .second, .val (.int (1 : Int32)), .val (.ref b26), .val (.long (own_mix ((p0 + (-7046029254386353131 : Int64)) + (-7046029254386353131 : Int64)))), .second, .unset, .unset, .unset, .unset, .unset, .unset, .unset, .unset, .unset] [])) t → Steps p.tables e below (T31.setTop (mkF m 37 #[.val (.long p0), .second, .val (.int p1), .val (.long (-7046029254386353131 : Int64)), .second, .val (.int (1 : Int32)), .val (.ref b26), .val (.long (own_mix (p0 + (-7046029254386353131 : Int64)))), .second, .unset, .unset, .unset, .unset, .unset, .unset, .unset, .unset, .unset] [(.long (own_mix ((p0 + (-7046029254386353131 : Int64)) + (-7046029254386353131 : Int64))))])) t := fun t k => by
      refine XS.lstore X31.here hx rfl (hb hby at_37) rfl (l' := #[.val (.long p0), .second, .val (.int p1), .val (.long (-7046029254386353131 : Int64)), .second, .val (.int (1 : Int32)), .val (.ref b26), .val (.long (own_mix ((p0 + (-7046029254386353131 : Int64)) + (-7046029254386353131 : Int64)))), .second, .unset, .unset, .unset, .unset, .unset, .unset, .unset, .unset, .unset]) rfl ?_
      show Steps p.tables e below (T31.setTop (mkF m 39 #[.val (.long p0), .second, .val (.int p1), .val (.long (-7046029254386353131 : Int64)), .second, .val (.int (1 : Int32)), .val (.ref b26), .val (.long (own_mix ((p0 + (-7046029254386353131 : Int64)) + (-7046029254386353131 : Int64)))), .second, .unset, .unset, .unset, .unset, .unset, .unset, .unset, .unset, .unset] [])) _
      refine XS.iload X31.here hx rfl (hb hby at_39) rfl ?_
      show Steps p.tables e below (T31.setTop (mkF m 41 #[.val (.long p0), .second, .val (.int p1), .val (.long (-7046029254386353131 : Int64)), .second, .val (.int (1 : Int32)), .val (.ref b26), .val (.long (own_mix ((p0 + (-7046029254386353131 : Int64)) + (-7046029254386353131 : Int64)))), .second, .unset, .unset, .unset, .unset, .unset, .unset, .unset, .unset, .unset] [(.int (1 : Int32))])) _
      refine XS.iconst X31.here hx rfl (hb hby at_41) ?_
      show Steps p.tables e below (T31.setTop (mkF m 42 #[.val (.long p0), .second, .val (.int p1), .val (.long (-7046029254386353131 : Int64)), .second, .val (.int (1 : Int32)), .val (.ref b26), .val (.long (own_mix ((p0 + (-7046029254386353131 : Int64)) + (-7046029254386353131 : Int64)))), .second, .unset, .unset, .unset, .unset, .unset, .unset, .unset, .unset, .unset] [(.int (2 : Int32)), (.int (1 : Int32))])) _
      refine XS.icmpYes X31.here hx rfl (pc0 := 42) (pc' := 52) rfl (hb hby at_42) rfl (tlt (by decide : (1 : Int32) < (2 : Int32))).1 (by decide) (by decide) ?_
      show Steps p.tables e below (T31.setTop (mkF m 52 #[.val (.long p0), .second, .val (.int p1), .val (.long (-7046029254386353131 : Int64)), .second, .val (.int (1 : Int32)), .val (.ref b26), .val (.long (own_mix ((p0 + (-7046029254386353131 : Int64)) + (-7046029254386353131 : Int64)))), .second, .unset, .unset, .unset, .unset, .unset, .unset, .unset, .unset, .unset] [])) _
      refine XS.iload X31.here hx rfl (hb hby at_52) rfl ?_
      show Steps p.tables e below (T31.setTop (mkF m 54 #[.val (.long p0), .second, .val (.int p1), .val (.long (-7046029254386353131 : Int64)), .second, .val (.int (1 : Int32)), .val (.ref b26), .val (.long (own_mix ((p0 + (-7046029254386353131 : Int64)) + (-7046029254386353131 : Int64)))), .second, .unset, .unset, .unset, .unset, .unset, .unset, .unset, .unset, .unset] [(.int (1 : Int32))])) _
      refine XS.iconst X31.here hx rfl (hb hby at_54) ?_
      show Steps p.tables e below (T31.setTop (mkF m 55 #[.val (.long p0), .second, .val (.int p1), .val (.long (-7046029254386353131 : Int64)), .second, .val (.int (1 : Int32)), .val (.ref b26), .val (.long (own_mix ((p0 + (-7046029254386353131 : Int64)) + (-7046029254386353131 : Int64)))), .second, .unset, .unset, .unset, .unset, .unset, .unset, .unset, .unset, .unset] [(.int (3 : Int32)), (.int (1 : Int32))])) _
      refine XS.icmpYes X31.here hx rfl (pc0 := 55) (pc' := 65) rfl (hb hby at_55) rfl (tlt (by decide : (1 : Int32) < (3 : Int32))).1 (by decide) (by decide) ?_
      show Steps p.tables e below (T31.setTop (mkF m 65 #[.val (.long p0), .second, .val (.int p1), .val (.long (-7046029254386353131 : Int64)), .second, .val (.int (1 : Int32)), .val (.ref b26), .val (.long (own_mix ((p0 + (-7046029254386353131 : Int64)) + (-7046029254386353131 : Int64)))), .second, .unset, .unset, .unset, .unset, .unset, .unset, .unset, .unset, .unset] [])) _
      exact k
    refine own_go k33 ?_
    clear k33
    obtain ⟨T34, h34, X34, e34, E34, A34, D34, -, st34⟩ := newO X31 hx hZ hown (hw _ (List.mem_of_getElem? (i := 1) rfl)) (hw _ (List.mem_of_getElem? (i := 2) rfl)) (hw _ (List.mem_of_getElem? (i := 3) rfl)) rfl (g := (mkF m 65 #[.val (.long p0), .second, .val (.int p1), .val (.long (-7046029254386353131 : Int64)), .second, .val (.int (1 : Int32)), .val (.ref b26), .val (.long (own_mix ((p0 + (-7046029254386353131 : Int64)) + (-7046029254386353131 : Int64)))), .second, .unset, .unset, .unset, .unset, .unset, .unset, .unset, .unset, .unset] [])) rfl (hb hby at_65) (by decide) (by decide)
    obtain ⟨b34, g34⟩ : ∃ z, z = T31.heap.size := ⟨_, rfl⟩
    rw [← g34] at A34 D34 st34
    refine own_go st34 ?_
    have ne_b26_b34 : b26 ≠ b34 := Nat.ne_of_lt (Nat.lt_of_lt_of_le p31_0.lt (Nat.le_of_eq g34.symm))
    have f34_0 : Exa Z h34 b26 "com/example/composure/composure/generate/SplitMix64" := p31_0.ext E34
    have f34_1 : Fld Z h34 b26 "com/example/composure/composure/generate/SplitMix64" "state" "J" (.long ((p0 + (-7046029254386353131 : Int64)) + (-7046029254386353131 : Int64))) := p31_1.ext E34
    have g_b34 : n0 ≤ b34 := Nat.le_trans Z31 (Nat.le_of_eq g34.symm)
    have Z34 : n0 ≤ h34.size := Nat.le_trans Z31 E34.1
    have F34_state : Fld Z h34 b34 "com/example/composure/composure/generate/SplitMix64" "state" "J" (.long (0 : Int64)) := D34 (Or.inl (hw _ (List.mem_of_getElem? (i := 11) rfl))) (ty := .long) (by decide)
    have k36 : ∀ t, Steps p.tables e below (T34.setTop (mkF m 76 #[.val (.long p0), .second, .val (.int p1), .val (.long (-7046029254386353131 : Int64)), .second, .val (.int (1 : Int32)), .val (.ref b26), .val (.long (own_mix ((p0 + (-7046029254386353131 : Int64)) + (-7046029254386353131 : Int64)))), .second, .unset, .unset, .unset, .unset, .unset, .unset, .unset, .unset, .unset] [(.long (p0 + ((1 : Int32).toInt64 * (-7046029254386353131 : Int64)))), (.ref b34), (.ref b34)])) t → Steps p.tables e below (T34.setTop (mkF m 68 #[.val (.long p0), .second, .val (.int p1), .val (.long (-7046029254386353131 : Int64)), .second, .val (.int (1 : Int32)), .val (.ref b26), .val (.long (own_mix ((p0 + (-7046029254386353131 : Int64)) + (-7046029254386353131 : Int64)))), .second, .unset, .unset, .unset, .unset, .unset, .unset, .unset, .unset, .unset] [(.ref b34)])) t := fun t k => by
      refine XS.dup X34.here hx rfl (hb hby at_68) rfl rfl ?_
      show Steps p.tables e below (T34.setTop (mkF m 69 #[.val (.long p0), .second, .val (.int p1), .val (.long (-7046029254386353131 : Int64)), .second, .val (.int (1 : Int32)), .val (.ref b26), .val (.long (own_mix ((p0 + (-7046029254386353131 : Int64)) + (-7046029254386353131 : Int64)))), .second, .unset, .unset, .unset, .unset, .unset, .unset, .unset, .unset, .unset] [(.ref b34), (.ref b34)])) _
      refine XS.lloadN X34.here hx rfl (hb hby at_69) rfl ?_
      show Steps p.tables e below (T34.setTop (mkF m 70 #[.val (.long p0), .second, .val (.int p1), .val (.long (-7046029254386353131 : Int64)), .second, .val (.int (1 : Int32)), .val (.ref b26), .val (.long (own_mix ((p0 + (-7046029254386353131 : Int64)) + (-7046029254386353131 : Int64)))), .second, .unset, .unset, .unset, .unset, .unset, .unset, .unset, .unset, .unset] [(.long p0), (.ref b34), (.ref b34)])) _
      refine XS.iload X34.here hx rfl (hb hby at_70) rfl ?_
      show Steps p.tables e below (T34.setTop (mkF m 72 #[.val (.long p0), .second, .val (.int p1), .val (.long (-7046029254386353131 : Int64)), .second, .val (.int (1 : Int32)), .val (.ref b26), .val (.long (own_mix ((p0 + (-7046029254386353131 : Int64)) + (-7046029254386353131 : Int64)))), .second, .unset, .unset, .unset, .unset, .unset, .unset, .unset, .unset, .unset] [(.int (1 : Int32)), (.long p0), (.ref b34), (.ref b34)])) _
      refine XS.i2l X34.here hx rfl (hb hby at_72) rfl ?_
      show Steps p.tables e below (T34.setTop (mkF m 73 #[.val (.long p0), .second, .val (.int p1), .val (.long (-7046029254386353131 : Int64)), .second, .val (.int (1 : Int32)), .val (.ref b26), .val (.long (own_mix ((p0 + (-7046029254386353131 : Int64)) + (-7046029254386353131 : Int64)))), .second, .unset, .unset, .unset, .unset, .unset, .unset, .unset, .unset, .unset] [(.long (1 : Int32).toInt64), (.long p0), (.ref b34), (.ref b34)])) _
      refine XS.lloadN X34.here hx rfl (hb hby at_73) rfl ?_
      show Steps p.tables e below (T34.setTop (mkF m 74 #[.val (.long p0), .second, .val (.int p1), .val (.long (-7046029254386353131 : Int64)), .second, .val (.int (1 : Int32)), .val (.ref b26), .val (.long (own_mix ((p0 + (-7046029254386353131 : Int64)) + (-7046029254386353131 : Int64)))), .second, .unset, .unset, .unset, .unset, .unset, .unset, .unset, .unset, .unset] [(.long (-7046029254386353131 : Int64)), (.long (1 : Int32).toInt64), (.long p0), (.ref b34), (.ref b34)])) _
      refine XS.lmul X34.here hx rfl (hb hby at_74) rfl ?_
      show Steps p.tables e below (T34.setTop (mkF m 75 #[.val (.long p0), .second, .val (.int p1), .val (.long (-7046029254386353131 : Int64)), .second, .val (.int (1 : Int32)), .val (.ref b26), .val (.long (own_mix ((p0 + (-7046029254386353131 : Int64)) + (-7046029254386353131 : Int64)))), .second, .unset, .unset, .unset, .unset, .unset, .unset, .unset, .unset, .unset] [(.long ((1 : Int32).toInt64 * (-7046029254386353131 : Int64))), (.long p0), (.ref b34), (.ref b34)])) _
      refine XS.ladd X34.here hx rfl (hb hby at_75) rfl ?_
      show Steps p.tables e below (T34.setTop (mkF m 76 #[.val (.long p0), .second, .val (.int p1), .val (.long (-7046029254386353131 : Int64)), .second, .val (.int (1 : Int32)), .val (.ref b26), .val (.long (own_mix ((p0 + (-7046029254386353131 : Int64)) + (-7046029254386353131 : Int64)))), .second, .unset, .unset, .unset, .unset, .unset, .unset, .unset, .unset, .unset] [(.long (p0 + ((1 : Int32).toInt64 * (-7046029254386353131 : Int64)))), (.ref b34), (.ref b34)])) _
      exact k
    refine own_go k36 ?_
    clear k36
    obtain ⟨_, _, ⟨T35, L35, k35, n35⟩, -, X35, ⟨Lc35, hQ35, l35, y35, z35⟩, st35⟩ := X34.specialBack hx (y := (⟨"com/example/composure/composure/generate/SplitMix64", "<init>", "(J)V"⟩ : MethodName)) rfl hown (mvT hZ (hw _ (List.mem_of_getElem? (i := 4) rfl))) (mvT hZ (hw _ (List.mem_of_getElem? (i := 5) rfl))) (mvT hZ (hw _ (List.mem_of_getElem? (i := 6) rfl))) (by decide) (backOf (W := 1) (own_rm_init l Z a0 hw [] b34 (p0 + ((1 : Int32).toInt64 * (-7046029254386353131 : Int64))) (0 : Int64) h34 n0 Z34 F34_state A34 g_b34) hZ (hw _ (List.mem_of_getElem? (i := 6) rfl)) (hw _ (List.mem_of_getElem? (i := 3) rfl)) (by decide) (by decide)) (g := (mkF m 76 #[.val (.long p0), .second, .val (.int p1), .val (.long (-7046029254386353131 : Int64)), .second, .val (.int (1 : Int32)), .val (.ref b26), .val (.long (own_mix ((p0 + (-7046029254386353131 : Int64)) + (-7046029254386353131 : Int64)))), .second, .unset, .unset, .unset, .unset, .unset, .unset, .unset, .unset, .unset] [(.long (p0 + ((1 : Int32).toInt64 * (-7046029254386353131 : Int64)))), (.ref b34), (.ref b34)])) rfl (by rw [hml]; rfl) (Steps.refl _) (a := b34) (argsL := [(.long (p0 + ((1 : Int32).toInt64 * (-7046029254386353131 : Int64))))]) (rest := [(.ref b34)]) (lenOf own_pd_28J29V rfl) rfl (by show 2 * 0 + _ ≤ _; exact Nat.le_of_eq rfl) (hb hby at_76) (fun _ _ => ⟨rfl, e34, (by decide : 2 + 0 ≤ _), (by decide : 2 + 0 ≤ _)⟩)
    dsimp only [Pt.U, Pt.locs, Pt.cells, Pt.slots] at X35 l35 y35 z35 st35 hQ35
    subst l35 y35 z35
    obtain ⟨rfl, N35q, K35q, p35_0, p35_1⟩ := hQ35
    have N35 := Fr.app N31 N35q
    have f35_0 : Exa Z T35.heap b26 "com/example/composure/composure/generate/SplitMix64" := f34_0.keep K35q
    have f35_1 : Fld Z T35.heap b26 "com/example/composure/composure/generate/SplitMix64" "state" "J" (.long ((p0 + (-7046029254386353131 : Int64)) + (-7046029254386353131 : Int64))) := f34_1.keep K35q (ninS ne_b26_b34 nin0)
    have Z35 : n0 ≤ T35.heap.size := Nat.le_trans Z34 K35q.1
    refine own_go (fun _ k => st35.trans k) ?_
    have k38 : ∀ t, Steps p.tables e below (T35.setTop (mkF m 83 #[.val (.long p0), .second, .val (.int p1), .val (.long (-7046029254386353131 : Int64)), .second, .val (.int (1 : Int32)), .val (.ref b26), .val (.long (own_mix ((p0 + (-7046029254386353131 : Int64)) + (-7046029254386353131 : Int64)))), .second, .val (.ref b34), .unset, .unset, .unset, .unset, .unset, .unset, .unset, .unset] [(.ref b34)])) t → Steps p.tables e below (T35.setTop (mkF m 79 #[.val (.long p0), .second, .val (.int p1), .val (.long (-7046029254386353131 : Int64)), .second, .val (.int (1 : Int32)), .val (.ref b26), .val (.long (own_mix ((p0 + (-7046029254386353131 : Int64)) + (-7046029254386353131 : Int64)))), .second, .unset, .unset, .unset, .unset, .unset, .unset, .unset, .unset, .unset] [(.ref b34)])) t := fun t k => by
      refine XS.astore X35.here hx rfl (hb hby at_79) rfl rfl (l' := #[.val (.long p0), .second, .val (.int p1), .val (.long (-7046029254386353131 : Int64)), .second, .val (.int (1 : Int32)), .val (.ref b26), .val (.long (own_mix ((p0 + (-7046029254386353131 : Int64)) + (-7046029254386353131 : Int64)))), .second, .val (.ref b34), .unset, .unset, .unset, .unset, .unset, .unset, .unset, .unset]) rfl ?_
      show Steps p.tables e below (T35.setTop (mkF m 81 #[.val (.long p0), .second, .val (.int p1), .val (.long (-7046029254386353131 : Int64)), .second, .val (.int (1 : Int32)), .val (.ref b26), .val (.long (own_mix ((p0 + (-7046029254386353131 : Int64)) + (-7046029254386353131 : Int64)))), .second, .val (.ref b34), .unset, .unset, .unset, .unset, .unset, .unset, .unset, .unset] [])) _
      refine XS.aload X35.here hx rfl (hb hby at_81) rfl rfl ?_
      show Steps p.tables e below (T35.setTop (mkF m 83 #[.val (.long p0), .second, .val (.int p1), .val (.long (-7046029254386353131 : Int64)), .second, .val (.int (1 : Int32)), .val (.ref b26), .val (.long (own_mix ((p0 + (-7046029254386353131 : Int64)) + (-7046029254386353131 : Int64)))), .second, .val (.ref b34), .unset, .unset, .unset, .unset, .unset, .unset, .unset, .unset] [(.ref b34)])) _
      exact k
    refine own_go k38 ?_
    clear k38
    obtain ⟨cq37, kq37, q37a, q37b, q37c⟩ := isOf hZ rfl p35_0
    obtain ⟨_, _, ⟨T37, L37, k37, n37⟩, -, X37, ⟨Lc37, hQ37, l37, y37, z37⟩, st37⟩ := X35.virtualBack hx (y := (⟨"com/example/composure/composure/generate/SplitMix64", "next", "()J"⟩ : MethodName)) (z := (⟨"com/example/composure/composure/generate/SplitMix64", "next", "()J"⟩ : MethodName)) hown (mvT hZ (hw _ (List.mem_of_getElem? (i := 12) rfl))) (mvT hZ (hw _ (List.mem_of_getElem? (i := 13) rfl))) (notFace_of_selects (args := #[]) (mvT hZ (hw _ (List.mem_of_getElem? (i := 15) rfl)))) (mvT hZ (hw _ (List.mem_of_getElem? (i := 15) rfl))) (mvT hZ (hw _ (List.mem_of_getElem? (i := 14) rfl))) (by decide) (backOf (W := 0) (own_rm_next l Z a0 hw [] b34 (p0 + ((1 : Int32).toInt64 * (-7046029254386353131 : Int64))) T35.heap n0 Z35 p35_1 p35_0 g_b34) hZ (hw _ (List.mem_of_getElem? (i := 16) rfl)) (hw _ (List.mem_of_getElem? (i := 3) rfl)) (by decide) (by decide)) q37a q37c (g := (mkF m 83 #[.val (.long p0), .second, .val (.int p1), .val (.long (-7046029254386353131 : Int64)), .second, .val (.int (1 : Int32)), .val (.ref b26), .val (.long (own_mix ((p0 + (-7046029254386353131 : Int64)) + (-7046029254386353131 : Int64)))), .second, .val (.ref b34), .unset, .unset, .unset, .unset, .unset, .unset, .unset, .unset] [(.ref b34)])) rfl (by rw [hml]; rfl) (Steps.refl _) (argsL := []) (rest := []) (lenOf own_pd_2829J rfl) rfl (by show 2 * 0 + _ ≤ _; exact Nat.le_of_eq rfl) (hb hby at_83) (fun _ _ => ⟨rfl, rfl, (by decide : 2 + 0 ≤ _), (by decide : 2 + 0 ≤ _)⟩)
    dsimp only [Pt.U, Pt.locs, Pt.cells, Pt.slots] at X37 l37 y37 z37 st37 hQ37
    subst l37 y37 z37
    obtain ⟨rfl, N37q, K37q, p37_0, p37_1⟩ := hQ37
    have N37 := Fr.app N35 N37q
    have f37_0 : Exa Z T37.heap b26 "com/example/composure/composure/generate/SplitMix64" := f35_0.keep K37q
    have f37_1 : Fld Z T37.heap b26 "com/example/composure/composure/generate/SplitMix64" "state" "J" (.long ((p0 + (-7046029254386353131 : Int64)) + (-7046029254386353131 : Int64))) := f35_1.keep K37q (ninS ne_b26_b34 nin0)
    have Z37 : n0 ≤ T37.heap.size := Nat.le_trans Z35 K37q.1
    refine own_go (fun _ k => st37.trans k) ?_
    have k40 : ∀ t, Steps p.tables e below (T37.setTop (mkF m 101 #[.val (.long p0), .second, .val (.int p1), .val (.long (-7046029254386353131 : Int64)), .second, .val (.int (1 : Int32)), .val (.ref b26), .val (.long (own_mix ((p0 + (-7046029254386353131 : Int64)) + (-7046029254386353131 : Int64)))), .second, .val (.ref b34), .val (.int (1 : Int32)), .unset, .unset, .unset, .unset, .unset, .unset, .unset] [(.int (1 : Int32))])) t → Steps p.tables e below (T37.setTop (mkF m 86 #[.val (.long p0), .second, .val (.int p1), .val (.long (-7046029254386353131 : Int64)), .second, .val (.int (1 : Int32)), .val (.ref b26), .val (.long (own_mix ((p0 + (-7046029254386353131 : Int64)) + (-7046029254386353131 : Int64)))), .second, .val (.ref b34), .unset, .unset, .unset, .unset, .unset, .unset, .unset, .unset] [(.long (own_mix ((p0 + ((1 : Int32).toInt64 * (-7046029254386353131 : Int64))) + (-7046029254386353131 : Int64))))])) t := fun t k => by
      refine XS.lload X37.here hx rfl (hb hby at_86) rfl ?_
      show Steps p.tables e below (T37.setTop (mkF m 88 #[.val (.long p0), .second, .val (.int p1), .val (.long (-7046029254386353131 : Int64)), .second, .val (.int (1 : Int32)), .val (.ref b26), .val (.long (own_mix ((p0 + (-7046029254386353131 : Int64)) + (-7046029254386353131 : Int64)))), .second, .val (.ref b34), .unset, .unset, .unset, .unset, .unset, .unset, .unset, .unset] [(.long (own_mix ((p0 + (-7046029254386353131 : Int64)) + (-7046029254386353131 : Int64)))), (.long (own_mix ((p0 + ((1 : Int32).toInt64 * (-7046029254386353131 : Int64))) + (-7046029254386353131 : Int64))))])) _
      refine XS.lcmp X37.here hx rfl (hb hby at_88) rfl ?_
      show Steps p.tables e below (T37.setTop (mkF m 89 #[.val (.long p0), .second, .val (.int p1), .val (.long (-7046029254386353131 : Int64)), .second, .val (.int (1 : Int32)), .val (.ref b26), .val (.long (own_mix ((p0 + (-7046029254386353131 : Int64)) + (-7046029254386353131 : Int64)))), .second, .val (.ref b34), .unset, .unset, .unset, .unset, .unset, .unset, .unset, .unset] [(.int (lcmpW (own_mix ((p0 + ((1 : Int32).toInt64 * (-7046029254386353131 : Int64))) + (-7046029254386353131 : Int64))) (own_mix ((p0 + (-7046029254386353131 : Int64)) + (-7046029254386353131 : Int64)))))])) _
      refine XS.ifNo X37.here hx rfl (hb hby at_89) rfl ((if0 _ _).trans (teq ((lw_eq _ _).mpr (congrArg own_mix (by simp only [Int64.add_assoc]; congr 1)))).2) ?_
      show Steps p.tables e below (T37.setTop (mkF m 92 #[.val (.long p0), .second, .val (.int p1), .val (.long (-7046029254386353131 : Int64)), .second, .val (.int (1 : Int32)), .val (.ref b26), .val (.long (own_mix ((p0 + (-7046029254386353131 : Int64)) + (-7046029254386353131 : Int64)))), .second, .val (.ref b34), .unset, .unset, .unset, .unset, .unset, .unset, .unset, .unset] [])) _
      refine XS.iconst X37.here hx rfl (hb hby at_92) ?_
      show Steps p.tables e below (T37.setTop (mkF m 93 #[.val (.long p0), .second, .val (.int p1), .val (.long (-7046029254386353131 : Int64)), .second, .val (.int (1 : Int32)), .val (.ref b26), .val (.long (own_mix ((p0 + (-7046029254386353131 : Int64)) + (-7046029254386353131 : Int64)))), .second, .val (.ref b34), .unset, .unset, .unset, .unset, .unset, .unset, .unset, .unset] [(.int (1 : Int32))])) _
      refine XS.goto X37.here hx rfl (pc0 := 93) (pc' := 97) rfl (hb hby at_93) (by decide) (by decide) ?_
      show Steps p.tables e below (T37.setTop (mkF m 97 #[.val (.long p0), .second, .val (.int p1), .val (.long (-7046029254386353131 : Int64)), .second, .val (.int (1 : Int32)), .val (.ref b26), .val (.long (own_mix ((p0 + (-7046029254386353131 : Int64)) + (-7046029254386353131 : Int64)))), .second, .val (.ref b34), .unset, .unset, .unset, .unset, .unset, .unset, .unset, .unset] [(.int (1 : Int32))])) _
      refine XS.istore X37.here hx rfl (hb hby at_97) rfl (l' := #[.val (.long p0), .second, .val (.int p1), .val (.long (-7046029254386353131 : Int64)), .second, .val (.int (1 : Int32)), .val (.ref b26), .val (.long (own_mix ((p0 + (-7046029254386353131 : Int64)) + (-7046029254386353131 : Int64)))), .second, .val (.ref b34), .val (.int (1 : Int32)), .unset, .unset, .unset, .unset, .unset, .unset, .unset]) rfl ?_
      show Steps p.tables e below (T37.setTop (mkF m 99 #[.val (.long p0), .second, .val (.int p1), .val (.long (-7046029254386353131 : Int64)), .second, .val (.int (1 : Int32)), .val (.ref b26), .val (.long (own_mix ((p0 + (-7046029254386353131 : Int64)) + (-7046029254386353131 : Int64)))), .second, .val (.ref b34), .val (.int (1 : Int32)), .unset, .unset, .unset, .unset, .unset, .unset, .unset] [])) _
      refine XS.iload X37.here hx rfl (hb hby at_99) rfl ?_
      show Steps p.tables e below (T37.setTop (mkF m 101 #[.val (.long p0), .second, .val (.int p1), .val (.long (-7046029254386353131 : Int64)), .second, .val (.int (1 : Int32)), .val (.ref b26), .val (.long (own_mix ((p0 + (-7046029254386353131 : Int64)) + (-7046029254386353131 : Int64)))), .second, .val (.ref b34), .val (.int (1 : Int32)), .unset, .unset, .unset, .unset, .unset, .unset, .unset] [(.int (1 : Int32))])) _
      exact k
    refine own_go k40 ?_
    clear k40
    obtain ⟨_, _, ⟨T39, L39, k39, n39⟩, -, X39, ⟨Lc39, hQ39, l39, y39, z39⟩, st39⟩ := Jvm.LawKit.callS X37 hx (y := (⟨"com/example/composure/composure/generate/SplitMix64NextPinLaw", "ref", "(I)J"⟩ : MethodName)) hown (mvT hZ (hw _ (List.mem_of_getElem? (i := 20) rfl))) (mvT hZ (hw _ (List.mem_of_getElem? (i := 21) rfl))) (mvT hZ (hw _ (List.mem_of_getElem? (i := 22) rfl))) (mvT hZ (hw _ (List.mem_of_getElem? (i := 23) rfl))) (by decide) (backOf (W := 0) (own_rm_ref l Z a0 hw [] (1 : Int32) T37.heap n0 Z37 ) hZ (hw _ (List.mem_of_getElem? (i := 23) rfl)) (hw _ (List.mem_of_getElem? (i := 22) rfl)) (by decide) (by decide)) (g := (mkF m 101 #[.val (.long p0), .second, .val (.int p1), .val (.long (-7046029254386353131 : Int64)), .second, .val (.int (1 : Int32)), .val (.ref b26), .val (.long (own_mix ((p0 + (-7046029254386353131 : Int64)) + (-7046029254386353131 : Int64)))), .second, .val (.ref b34), .val (.int (1 : Int32)), .unset, .unset, .unset, .unset, .unset, .unset, .unset] [(.int (1 : Int32))])) rfl (by rw [hml]; rfl) (argsL := [(.int (1 : Int32))]) (rest := []) (lenOf own_pd_28I29J rfl) rfl (by show 2 * 0 + _ ≤ _; exact Nat.le_of_eq rfl) (hb hby at_101) (fun _ _ => ⟨rfl, rfl, (by decide : 2 + 0 ≤ _), (by decide : 2 + 0 ≤ _)⟩)
    dsimp only [Pt.U, Pt.locs, Pt.cells, Pt.slots] at X39 l39 y39 z39 st39 hQ39
    subst l39 y39 z39
    obtain ⟨rfl, N39q, eh39⟩ := hQ39
    have N39 := Fr.app N37 N39q
    refine own_go st39 ?_
    have k42 : ∀ t, Steps p.tables e below (T39.setTop (mkF m 110 #[.val (.long p0), .second, .val (.int p1), .val (.long (-7046029254386353131 : Int64)), .second, .val (.int (1 : Int32)), .val (.ref b26), .val (.long (own_mix ((p0 + (-7046029254386353131 : Int64)) + (-7046029254386353131 : Int64)))), .second, .val (.ref b34), .val (.int (1 : Int32)), .val (.long (own_ref (1 : Int32))), .second, .unset, .unset, .unset, .unset, .unset] [(.int ((1 : Int32) + (1 : Int32)))])) t → Steps p.tables e below (T39.setTop (mkF m 104 #[.val (.long p0), .second, .val (.int p1), .val (.long (-7046029254386353131 : Int64)), .second, .val (.int (1 : Int32)), .val (.ref b26), .val (.long (own_mix ((p0 + (-7046029254386353131 : Int64)) + (-7046029254386353131 : Int64)))), .second, .val (.ref b34), .val (.int (1 : Int32)), .unset, .unset, .unset, .unset, .unset, .unset, .unset] [(.long (own_ref (1 : Int32)))])) t := fun t k => by
      refine XS.lstore X39.here hx rfl (hb hby at_104) rfl (l' := #[.val (.long p0), .second, .val (.int p1), .val (.long (-7046029254386353131 : Int64)), .second, .val (.int (1 : Int32)), .val (.ref b26), .val (.long (own_mix ((p0 + (-7046029254386353131 : Int64)) + (-7046029254386353131 : Int64)))), .second, .val (.ref b34), .val (.int (1 : Int32)), .val (.long (own_ref (1 : Int32))), .second, .unset, .unset, .unset, .unset, .unset]) rfl ?_
      show Steps p.tables e below (T39.setTop (mkF m 106 #[.val (.long p0), .second, .val (.int p1), .val (.long (-7046029254386353131 : Int64)), .second, .val (.int (1 : Int32)), .val (.ref b26), .val (.long (own_mix ((p0 + (-7046029254386353131 : Int64)) + (-7046029254386353131 : Int64)))), .second, .val (.ref b34), .val (.int (1 : Int32)), .val (.long (own_ref (1 : Int32))), .second, .unset, .unset, .unset, .unset, .unset] [])) _
      refine XS.iload X39.here hx rfl (hb hby at_106) rfl ?_
      show Steps p.tables e below (T39.setTop (mkF m 108 #[.val (.long p0), .second, .val (.int p1), .val (.long (-7046029254386353131 : Int64)), .second, .val (.int (1 : Int32)), .val (.ref b26), .val (.long (own_mix ((p0 + (-7046029254386353131 : Int64)) + (-7046029254386353131 : Int64)))), .second, .val (.ref b34), .val (.int (1 : Int32)), .val (.long (own_ref (1 : Int32))), .second, .unset, .unset, .unset, .unset, .unset] [(.int (1 : Int32))])) _
      refine XS.iconst X39.here hx rfl (hb hby at_108) ?_
      show Steps p.tables e below (T39.setTop (mkF m 109 #[.val (.long p0), .second, .val (.int p1), .val (.long (-7046029254386353131 : Int64)), .second, .val (.int (1 : Int32)), .val (.ref b26), .val (.long (own_mix ((p0 + (-7046029254386353131 : Int64)) + (-7046029254386353131 : Int64)))), .second, .val (.ref b34), .val (.int (1 : Int32)), .val (.long (own_ref (1 : Int32))), .second, .unset, .unset, .unset, .unset, .unset] [(.int (1 : Int32)), (.int (1 : Int32))])) _
      refine XS.iadd X39.here hx rfl (hb hby at_109) rfl ?_
      show Steps p.tables e below (T39.setTop (mkF m 110 #[.val (.long p0), .second, .val (.int p1), .val (.long (-7046029254386353131 : Int64)), .second, .val (.int (1 : Int32)), .val (.ref b26), .val (.long (own_mix ((p0 + (-7046029254386353131 : Int64)) + (-7046029254386353131 : Int64)))), .second, .val (.ref b34), .val (.int (1 : Int32)), .val (.long (own_ref (1 : Int32))), .second, .unset, .unset, .unset, .unset, .unset] [(.int ((1 : Int32) + (1 : Int32)))])) _
      exact k
    refine own_go k42 ?_
    clear k42
    obtain ⟨_, _, ⟨T41, L41, k41, n41⟩, -, X41, ⟨Lc41, hQ41, l41, y41, z41⟩, st41⟩ := Jvm.LawKit.callS X39 hx (y := (⟨"com/example/composure/composure/generate/SplitMix64NextPinLaw", "ref", "(I)J"⟩ : MethodName)) hown (mvT hZ (hw _ (List.mem_of_getElem? (i := 20) rfl))) (mvT hZ (hw _ (List.mem_of_getElem? (i := 21) rfl))) (mvT hZ (hw _ (List.mem_of_getElem? (i := 22) rfl))) (mvT hZ (hw _ (List.mem_of_getElem? (i := 23) rfl))) (by decide) (backOf (W := 0) (own_rm_ref l Z a0 hw [] ((1 : Int32) + (1 : Int32)) T37.heap n0 Z37 ) hZ (hw _ (List.mem_of_getElem? (i := 23) rfl)) (hw _ (List.mem_of_getElem? (i := 22) rfl)) (by decide) (by decide)) (g := (mkF m 110 #[.val (.long p0), .second, .val (.int p1), .val (.long (-7046029254386353131 : Int64)), .second, .val (.int (1 : Int32)), .val (.ref b26), .val (.long (own_mix ((p0 + (-7046029254386353131 : Int64)) + (-7046029254386353131 : Int64)))), .second, .val (.ref b34), .val (.int (1 : Int32)), .val (.long (own_ref (1 : Int32))), .second, .unset, .unset, .unset, .unset, .unset] [(.int ((1 : Int32) + (1 : Int32)))])) rfl (by rw [hml]; rfl) (argsL := [(.int ((1 : Int32) + (1 : Int32)))]) (rest := []) (lenOf own_pd_28I29J rfl) rfl (by show 2 * 0 + _ ≤ _; exact Nat.le_of_eq rfl) (hb hby at_110) (fun _ _ => ⟨rfl, eh39, (by decide : 2 + 0 ≤ _), (by decide : 2 + 0 ≤ _)⟩)
    dsimp only [Pt.U, Pt.locs, Pt.cells, Pt.slots] at X41 l41 y41 z41 st41 hQ41
    subst l41 y41 z41
    obtain ⟨rfl, N41q, eh41⟩ := hQ41
    have N41 := Fr.app N39 N41q
    refine own_go st41 ?_
    have k43 : ∀ t, Steps p.tables e below (T41.setTop (mkF m 115 #[.val (.long p0), .second, .val (.int p1), .val (.long (-7046029254386353131 : Int64)), .second, .val (.int (1 : Int32)), .val (.ref b26), .val (.long (own_mix ((p0 + (-7046029254386353131 : Int64)) + (-7046029254386353131 : Int64)))), .second, .val (.ref b34), .val (.int (1 : Int32)), .val (.long (own_ref (1 : Int32))), .second, .val (.long (own_ref ((1 : Int32) + (1 : Int32)))), .second, .unset, .unset, .unset] [])) t → Steps p.tables e below (T41.setTop (mkF m 113 #[.val (.long p0), .second, .val (.int p1), .val (.long (-7046029254386353131 : Int64)), .second, .val (.int (1 : Int32)), .val (.ref b26), .val (.long (own_mix ((p0 + (-7046029254386353131 : Int64)) + (-7046029254386353131 : Int64)))), .second, .val (.ref b34), .val (.int (1 : Int32)), .val (.long (own_ref (1 : Int32))), .second, .unset, .unset, .unset, .unset, .unset] [(.long (own_ref ((1 : Int32) + (1 : Int32))))])) t := fun t k => by
      refine XS.lstore X41.here hx rfl (hb hby at_113) rfl (l' := #[.val (.long p0), .second, .val (.int p1), .val (.long (-7046029254386353131 : Int64)), .second, .val (.int (1 : Int32)), .val (.ref b26), .val (.long (own_mix ((p0 + (-7046029254386353131 : Int64)) + (-7046029254386353131 : Int64)))), .second, .val (.ref b34), .val (.int (1 : Int32)), .val (.long (own_ref (1 : Int32))), .second, .val (.long (own_ref ((1 : Int32) + (1 : Int32)))), .second, .unset, .unset, .unset]) rfl ?_
      show Steps p.tables e below (T41.setTop (mkF m 115 #[.val (.long p0), .second, .val (.int p1), .val (.long (-7046029254386353131 : Int64)), .second, .val (.int (1 : Int32)), .val (.ref b26), .val (.long (own_mix ((p0 + (-7046029254386353131 : Int64)) + (-7046029254386353131 : Int64)))), .second, .val (.ref b34), .val (.int (1 : Int32)), .val (.long (own_ref (1 : Int32))), .second, .val (.long (own_ref ((1 : Int32) + (1 : Int32)))), .second, .unset, .unset, .unset] [])) _
      exact k
    refine own_go k43 ?_
    clear k43
    obtain ⟨T44, h44, X44, e44, E44, A44, D44, -, st44⟩ := newO X41 hx hZ hown (hw _ (List.mem_of_getElem? (i := 1) rfl)) (hw _ (List.mem_of_getElem? (i := 2) rfl)) (hw _ (List.mem_of_getElem? (i := 3) rfl)) eh41 (g := (mkF m 115 #[.val (.long p0), .second, .val (.int p1), .val (.long (-7046029254386353131 : Int64)), .second, .val (.int (1 : Int32)), .val (.ref b26), .val (.long (own_mix ((p0 + (-7046029254386353131 : Int64)) + (-7046029254386353131 : Int64)))), .second, .val (.ref b34), .val (.int (1 : Int32)), .val (.long (own_ref (1 : Int32))), .second, .val (.long (own_ref ((1 : Int32) + (1 : Int32)))), .second, .unset, .unset, .unset] [])) rfl (hb hby at_115) (by decide) (by decide)
    obtain ⟨b44, g44⟩ : ∃ z, z = T37.heap.size := ⟨_, rfl⟩
    rw [← g44] at A44 D44 st44
    refine own_go st44 ?_
    have ne_b26_b44 : b26 ≠ b44 := Nat.ne_of_lt (Nat.lt_of_lt_of_le f37_0.lt (Nat.le_of_eq g44.symm))
    have ne_b34_b44 : b34 ≠ b44 := Nat.ne_of_lt (Nat.lt_of_lt_of_le p37_0.lt (Nat.le_of_eq g44.symm))
    have f44_0 : Exa Z h44 b26 "com/example/composure/composure/generate/SplitMix64" := f37_0.ext E44
    have f44_1 : Fld Z h44 b26 "com/example/composure/composure/generate/SplitMix64" "state" "J" (.long ((p0 + (-7046029254386353131 : Int64)) + (-7046029254386353131 : Int64))) := f37_1.ext E44
    have f44_2 : Exa Z h44 b34 "com/example/composure/composure/generate/SplitMix64" := p37_0.ext E44
    have f44_3 : Fld Z h44 b34 "com/example/composure/composure/generate/SplitMix64" "state" "J" (.long ((p0 + ((1 : Int32).toInt64 * (-7046029254386353131 : Int64))) + (-7046029254386353131 : Int64))) := p37_1.ext E44
    have g_b44 : n0 ≤ b44 := Nat.le_trans Z37 (Nat.le_of_eq g44.symm)
    have Z44 : n0 ≤ h44.size := Nat.le_trans Z37 E44.1
    have F44_state : Fld Z h44 b44 "com/example/composure/composure/generate/SplitMix64" "state" "J" (.long (0 : Int64)) := D44 (Or.inl (hw _ (List.mem_of_getElem? (i := 11) rfl))) (ty := .long) (by decide)
    have k46 : ∀ t, Steps p.tables e below (T44.setTop (mkF m 128 #[.val (.long p0), .second, .val (.int p1), .val (.long (-7046029254386353131 : Int64)), .second, .val (.int (1 : Int32)), .val (.ref b26), .val (.long (own_mix ((p0 + (-7046029254386353131 : Int64)) + (-7046029254386353131 : Int64)))), .second, .val (.ref b34), .val (.int (1 : Int32)), .val (.long (own_ref (1 : Int32))), .second, .val (.long (own_ref ((1 : Int32) + (1 : Int32)))), .second, .unset, .unset, .unset] [(.long ((1234567 : Int64) + ((1 : Int32).toInt64 * (-7046029254386353131 : Int64)))), (.ref b44), (.ref b44)])) t → Steps p.tables e below (T44.setTop (mkF m 118 #[.val (.long p0), .second, .val (.int p1), .val (.long (-7046029254386353131 : Int64)), .second, .val (.int (1 : Int32)), .val (.ref b26), .val (.long (own_mix ((p0 + (-7046029254386353131 : Int64)) + (-7046029254386353131 : Int64)))), .second, .val (.ref b34), .val (.int (1 : Int32)), .val (.long (own_ref (1 : Int32))), .second, .val (.long (own_ref ((1 : Int32) + (1 : Int32)))), .second, .unset, .unset, .unset] [(.ref b44)])) t := fun t k => by
      refine XS.dup X44.here hx rfl (hb hby at_118) rfl rfl ?_
      show Steps p.tables e below (T44.setTop (mkF m 119 #[.val (.long p0), .second, .val (.int p1), .val (.long (-7046029254386353131 : Int64)), .second, .val (.int (1 : Int32)), .val (.ref b26), .val (.long (own_mix ((p0 + (-7046029254386353131 : Int64)) + (-7046029254386353131 : Int64)))), .second, .val (.ref b34), .val (.int (1 : Int32)), .val (.long (own_ref (1 : Int32))), .second, .val (.long (own_ref ((1 : Int32) + (1 : Int32)))), .second, .unset, .unset, .unset] [(.ref b44), (.ref b44)])) _
      refine X44.ldc2Long hx hown (mvT hZ (hw _ (List.mem_of_getElem? (i := 26) rfl))) (g := (mkF m 119 #[.val (.long p0), .second, .val (.int p1), .val (.long (-7046029254386353131 : Int64)), .second, .val (.int (1 : Int32)), .val (.ref b26), .val (.long (own_mix ((p0 + (-7046029254386353131 : Int64)) + (-7046029254386353131 : Int64)))), .second, .val (.ref b34), .val (.int (1 : Int32)), .val (.long (own_ref (1 : Int32))), .second, .val (.long (own_ref ((1 : Int32) + (1 : Int32)))), .second, .unset, .unset, .unset] [(.ref b44), (.ref b44)])) rfl (hb hby at_119) _ ?_
      show Steps p.tables e below (T44.setTop (mkF m 122 #[.val (.long p0), .second, .val (.int p1), .val (.long (-7046029254386353131 : Int64)), .second, .val (.int (1 : Int32)), .val (.ref b26), .val (.long (own_mix ((p0 + (-7046029254386353131 : Int64)) + (-7046029254386353131 : Int64)))), .second, .val (.ref b34), .val (.int (1 : Int32)), .val (.long (own_ref (1 : Int32))), .second, .val (.long (own_ref ((1 : Int32) + (1 : Int32)))), .second, .unset, .unset, .unset] [(.long (1234567 : Int64)), (.ref b44), (.ref b44)])) _
      refine XS.iload X44.here hx rfl (hb hby at_122) rfl ?_
      show Steps p.tables e below (T44.setTop (mkF m 124 #[.val (.long p0), .second, .val (.int p1), .val (.long (-7046029254386353131 : Int64)), .second, .val (.int (1 : Int32)), .val (.ref b26), .val (.long (own_mix ((p0 + (-7046029254386353131 : Int64)) + (-7046029254386353131 : Int64)))), .second, .val (.ref b34), .val (.int (1 : Int32)), .val (.long (own_ref (1 : Int32))), .second, .val (.long (own_ref ((1 : Int32) + (1 : Int32)))), .second, .unset, .unset, .unset] [(.int (1 : Int32)), (.long (1234567 : Int64)), (.ref b44), (.ref b44)])) _
      refine XS.i2l X44.here hx rfl (hb hby at_124) rfl ?_
      show Steps p.tables e below (T44.setTop (mkF m 125 #[.val (.long p0), .second, .val (.int p1), .val (.long (-7046029254386353131 : Int64)), .second, .val (.int (1 : Int32)), .val (.ref b26), .val (.long (own_mix ((p0 + (-7046029254386353131 : Int64)) + (-7046029254386353131 : Int64)))), .second, .val (.ref b34), .val (.int (1 : Int32)), .val (.long (own_ref (1 : Int32))), .second, .val (.long (own_ref ((1 : Int32) + (1 : Int32)))), .second, .unset, .unset, .unset] [(.long (1 : Int32).toInt64), (.long (1234567 : Int64)), (.ref b44), (.ref b44)])) _
      refine XS.lloadN X44.here hx rfl (hb hby at_125) rfl ?_
      show Steps p.tables e below (T44.setTop (mkF m 126 #[.val (.long p0), .second, .val (.int p1), .val (.long (-7046029254386353131 : Int64)), .second, .val (.int (1 : Int32)), .val (.ref b26), .val (.long (own_mix ((p0 + (-7046029254386353131 : Int64)) + (-7046029254386353131 : Int64)))), .second, .val (.ref b34), .val (.int (1 : Int32)), .val (.long (own_ref (1 : Int32))), .second, .val (.long (own_ref ((1 : Int32) + (1 : Int32)))), .second, .unset, .unset, .unset] [(.long (-7046029254386353131 : Int64)), (.long (1 : Int32).toInt64), (.long (1234567 : Int64)), (.ref b44), (.ref b44)])) _
      refine XS.lmul X44.here hx rfl (hb hby at_126) rfl ?_
      show Steps p.tables e below (T44.setTop (mkF m 127 #[.val (.long p0), .second, .val (.int p1), .val (.long (-7046029254386353131 : Int64)), .second, .val (.int (1 : Int32)), .val (.ref b26), .val (.long (own_mix ((p0 + (-7046029254386353131 : Int64)) + (-7046029254386353131 : Int64)))), .second, .val (.ref b34), .val (.int (1 : Int32)), .val (.long (own_ref (1 : Int32))), .second, .val (.long (own_ref ((1 : Int32) + (1 : Int32)))), .second, .unset, .unset, .unset] [(.long ((1 : Int32).toInt64 * (-7046029254386353131 : Int64))), (.long (1234567 : Int64)), (.ref b44), (.ref b44)])) _
      refine XS.ladd X44.here hx rfl (hb hby at_127) rfl ?_
      show Steps p.tables e below (T44.setTop (mkF m 128 #[.val (.long p0), .second, .val (.int p1), .val (.long (-7046029254386353131 : Int64)), .second, .val (.int (1 : Int32)), .val (.ref b26), .val (.long (own_mix ((p0 + (-7046029254386353131 : Int64)) + (-7046029254386353131 : Int64)))), .second, .val (.ref b34), .val (.int (1 : Int32)), .val (.long (own_ref (1 : Int32))), .second, .val (.long (own_ref ((1 : Int32) + (1 : Int32)))), .second, .unset, .unset, .unset] [(.long ((1234567 : Int64) + ((1 : Int32).toInt64 * (-7046029254386353131 : Int64)))), (.ref b44), (.ref b44)])) _
      exact k
    refine own_go k46 ?_
    clear k46
    obtain ⟨_, _, ⟨T45, L45, k45, n45⟩, -, X45, ⟨Lc45, hQ45, l45, y45, z45⟩, st45⟩ := X44.specialBack hx (y := (⟨"com/example/composure/composure/generate/SplitMix64", "<init>", "(J)V"⟩ : MethodName)) rfl hown (mvT hZ (hw _ (List.mem_of_getElem? (i := 4) rfl))) (mvT hZ (hw _ (List.mem_of_getElem? (i := 5) rfl))) (mvT hZ (hw _ (List.mem_of_getElem? (i := 6) rfl))) (by decide) (backOf (W := 1) (own_rm_init l Z a0 hw [] b44 ((1234567 : Int64) + ((1 : Int32).toInt64 * (-7046029254386353131 : Int64))) (0 : Int64) h44 n0 Z44 F44_state A44 g_b44) hZ (hw _ (List.mem_of_getElem? (i := 6) rfl)) (hw _ (List.mem_of_getElem? (i := 3) rfl)) (by decide) (by decide)) (g := (mkF m 128 #[.val (.long p0), .second, .val (.int p1), .val (.long (-7046029254386353131 : Int64)), .second, .val (.int (1 : Int32)), .val (.ref b26), .val (.long (own_mix ((p0 + (-7046029254386353131 : Int64)) + (-7046029254386353131 : Int64)))), .second, .val (.ref b34), .val (.int (1 : Int32)), .val (.long (own_ref (1 : Int32))), .second, .val (.long (own_ref ((1 : Int32) + (1 : Int32)))), .second, .unset, .unset, .unset] [(.long ((1234567 : Int64) + ((1 : Int32).toInt64 * (-7046029254386353131 : Int64)))), (.ref b44), (.ref b44)])) rfl (by rw [hml]; rfl) (Steps.refl _) (a := b44) (argsL := [(.long ((1234567 : Int64) + ((1 : Int32).toInt64 * (-7046029254386353131 : Int64))))]) (rest := [(.ref b44)]) (lenOf own_pd_28J29V rfl) rfl (by show 2 * 0 + _ ≤ _; exact Nat.le_of_eq rfl) (hb hby at_128) (fun _ _ => ⟨rfl, e44, (by decide : 3 + 0 ≤ _), (by decide : 3 + 0 ≤ _)⟩)
    dsimp only [Pt.U, Pt.locs, Pt.cells, Pt.slots] at X45 l45 y45 z45 st45 hQ45
    subst l45 y45 z45
    obtain ⟨rfl, N45q, K45q, p45_0, p45_1⟩ := hQ45
    have N45 := Fr.app N41 N45q
    have f45_0 : Exa Z T45.heap b26 "com/example/composure/composure/generate/SplitMix64" := f44_0.keep K45q
    have f45_1 : Fld Z T45.heap b26 "com/example/composure/composure/generate/SplitMix64" "state" "J" (.long ((p0 + (-7046029254386353131 : Int64)) + (-7046029254386353131 : Int64))) := f44_1.keep K45q (ninS ne_b26_b44 nin0)
    have f45_2 : Exa Z T45.heap b34 "com/example/composure/composure/generate/SplitMix64" := f44_2.keep K45q
    have f45_3 : Fld Z T45.heap b34 "com/example/composure/composure/generate/SplitMix64" "state" "J" (.long ((p0 + ((1 : Int32).toInt64 * (-7046029254386353131 : Int64))) + (-7046029254386353131 : Int64))) := f44_3.keep K45q (ninS ne_b34_b44 nin0)
    have Z45 : n0 ≤ T45.heap.size := Nat.le_trans Z44 K45q.1
    refine own_go (fun _ k => st45.trans k) ?_
    have k48 : ∀ t, Steps p.tables e below (T45.setTop (mkF m 135 #[.val (.long p0), .second, .val (.int p1), .val (.long (-7046029254386353131 : Int64)), .second, .val (.int (1 : Int32)), .val (.ref b26), .val (.long (own_mix ((p0 + (-7046029254386353131 : Int64)) + (-7046029254386353131 : Int64)))), .second, .val (.ref b34), .val (.int (1 : Int32)), .val (.long (own_ref (1 : Int32))), .second, .val (.long (own_ref ((1 : Int32) + (1 : Int32)))), .second, .val (.ref b44), .unset, .unset] [(.ref b44)])) t → Steps p.tables e below (T45.setTop (mkF m 131 #[.val (.long p0), .second, .val (.int p1), .val (.long (-7046029254386353131 : Int64)), .second, .val (.int (1 : Int32)), .val (.ref b26), .val (.long (own_mix ((p0 + (-7046029254386353131 : Int64)) + (-7046029254386353131 : Int64)))), .second, .val (.ref b34), .val (.int (1 : Int32)), .val (.long (own_ref (1 : Int32))), .second, .val (.long (own_ref ((1 : Int32) + (1 : Int32)))), .second, .unset, .unset, .unset] [(.ref b44)])) t := fun t k => by
      refine XS.astore X45.here hx rfl (hb hby at_131) rfl rfl (l' := #[.val (.long p0), .second, .val (.int p1), .val (.long (-7046029254386353131 : Int64)), .second, .val (.int (1 : Int32)), .val (.ref b26), .val (.long (own_mix ((p0 + (-7046029254386353131 : Int64)) + (-7046029254386353131 : Int64)))), .second, .val (.ref b34), .val (.int (1 : Int32)), .val (.long (own_ref (1 : Int32))), .second, .val (.long (own_ref ((1 : Int32) + (1 : Int32)))), .second, .val (.ref b44), .unset, .unset]) rfl ?_
      show Steps p.tables e below (T45.setTop (mkF m 133 #[.val (.long p0), .second, .val (.int p1), .val (.long (-7046029254386353131 : Int64)), .second, .val (.int (1 : Int32)), .val (.ref b26), .val (.long (own_mix ((p0 + (-7046029254386353131 : Int64)) + (-7046029254386353131 : Int64)))), .second, .val (.ref b34), .val (.int (1 : Int32)), .val (.long (own_ref (1 : Int32))), .second, .val (.long (own_ref ((1 : Int32) + (1 : Int32)))), .second, .val (.ref b44), .unset, .unset] [])) _
      refine XS.aload X45.here hx rfl (hb hby at_133) rfl rfl ?_
      show Steps p.tables e below (T45.setTop (mkF m 135 #[.val (.long p0), .second, .val (.int p1), .val (.long (-7046029254386353131 : Int64)), .second, .val (.int (1 : Int32)), .val (.ref b26), .val (.long (own_mix ((p0 + (-7046029254386353131 : Int64)) + (-7046029254386353131 : Int64)))), .second, .val (.ref b34), .val (.int (1 : Int32)), .val (.long (own_ref (1 : Int32))), .second, .val (.long (own_ref ((1 : Int32) + (1 : Int32)))), .second, .val (.ref b44), .unset, .unset] [(.ref b44)])) _
      exact k
    refine own_go k48 ?_
    clear k48
    obtain ⟨cq47, kq47, q47a, q47b, q47c⟩ := isOf hZ rfl p45_0
    obtain ⟨_, _, ⟨T47, L47, k47, n47⟩, -, X47, ⟨Lc47, hQ47, l47, y47, z47⟩, st47⟩ := X45.virtualBack hx (y := (⟨"com/example/composure/composure/generate/SplitMix64", "next", "()J"⟩ : MethodName)) (z := (⟨"com/example/composure/composure/generate/SplitMix64", "next", "()J"⟩ : MethodName)) hown (mvT hZ (hw _ (List.mem_of_getElem? (i := 12) rfl))) (mvT hZ (hw _ (List.mem_of_getElem? (i := 13) rfl))) (notFace_of_selects (args := #[]) (mvT hZ (hw _ (List.mem_of_getElem? (i := 15) rfl)))) (mvT hZ (hw _ (List.mem_of_getElem? (i := 15) rfl))) (mvT hZ (hw _ (List.mem_of_getElem? (i := 14) rfl))) (by decide) (backOf (W := 0) (own_rm_next l Z a0 hw [] b44 ((1234567 : Int64) + ((1 : Int32).toInt64 * (-7046029254386353131 : Int64))) T45.heap n0 Z45 p45_1 p45_0 g_b44) hZ (hw _ (List.mem_of_getElem? (i := 16) rfl)) (hw _ (List.mem_of_getElem? (i := 3) rfl)) (by decide) (by decide)) q47a q47c (g := (mkF m 135 #[.val (.long p0), .second, .val (.int p1), .val (.long (-7046029254386353131 : Int64)), .second, .val (.int (1 : Int32)), .val (.ref b26), .val (.long (own_mix ((p0 + (-7046029254386353131 : Int64)) + (-7046029254386353131 : Int64)))), .second, .val (.ref b34), .val (.int (1 : Int32)), .val (.long (own_ref (1 : Int32))), .second, .val (.long (own_ref ((1 : Int32) + (1 : Int32)))), .second, .val (.ref b44), .unset, .unset] [(.ref b44)])) rfl (by rw [hml]; rfl) (Steps.refl _) (argsL := []) (rest := []) (lenOf own_pd_2829J rfl) rfl (by show 2 * 0 + _ ≤ _; exact Nat.le_of_eq rfl) (hb hby at_135) (fun _ _ => ⟨rfl, rfl, (by decide : 3 + 0 ≤ _), (by decide : 3 + 0 ≤ _)⟩)
    dsimp only [Pt.U, Pt.locs, Pt.cells, Pt.slots] at X47 l47 y47 z47 st47 hQ47
    subst l47 y47 z47
    obtain ⟨rfl, N47q, K47q, p47_0, p47_1⟩ := hQ47
    have N47 := Fr.app N45 N47q
    have f47_0 : Exa Z T47.heap b26 "com/example/composure/composure/generate/SplitMix64" := f45_0.keep K47q
    have f47_1 : Fld Z T47.heap b26 "com/example/composure/composure/generate/SplitMix64" "state" "J" (.long ((p0 + (-7046029254386353131 : Int64)) + (-7046029254386353131 : Int64))) := f45_1.keep K47q (ninS ne_b26_b44 nin0)
    have f47_2 : Exa Z T47.heap b34 "com/example/composure/composure/generate/SplitMix64" := f45_2.keep K47q
    have f47_3 : Fld Z T47.heap b34 "com/example/composure/composure/generate/SplitMix64" "state" "J" (.long ((p0 + ((1 : Int32).toInt64 * (-7046029254386353131 : Int64))) + (-7046029254386353131 : Int64))) := f45_3.keep K47q (ninS ne_b34_b44 nin0)
    have Z47 : n0 ≤ T47.heap.size := Nat.le_trans Z45 K47q.1
    refine own_go (fun _ k => st47.trans k) ?_
    have k50 : ∀ t, Steps p.tables e below (T47.setTop (mkF m 153 #[.val (.long p0), .second, .val (.int p1), .val (.long (-7046029254386353131 : Int64)), .second, .val (.int (1 : Int32)), .val (.ref b26), .val (.long (own_mix ((p0 + (-7046029254386353131 : Int64)) + (-7046029254386353131 : Int64)))), .second, .val (.ref b34), .val (.int (1 : Int32)), .val (.long (own_ref (1 : Int32))), .second, .val (.long (own_ref ((1 : Int32) + (1 : Int32)))), .second, .val (.ref b44), .val (.int (1 : Int32)), .unset] [(.ref b44)])) t → Steps p.tables e below (T47.setTop (mkF m 138 #[.val (.long p0), .second, .val (.int p1), .val (.long (-7046029254386353131 : Int64)), .second, .val (.int (1 : Int32)), .val (.ref b26), .val (.long (own_mix ((p0 + (-7046029254386353131 : Int64)) + (-7046029254386353131 : Int64)))), .second, .val (.ref b34), .val (.int (1 : Int32)), .val (.long (own_ref (1 : Int32))), .second, .val (.long (own_ref ((1 : Int32) + (1 : Int32)))), .second, .val (.ref b44), .unset, .unset] [(.long (own_mix (((1234567 : Int64) + ((1 : Int32).toInt64 * (-7046029254386353131 : Int64))) + (-7046029254386353131 : Int64))))])) t := fun t k => by
      refine XS.lload X47.here hx rfl (hb hby at_138) rfl ?_
      show Steps p.tables e below (T47.setTop (mkF m 140 #[.val (.long p0), .second, .val (.int p1), .val (.long (-7046029254386353131 : Int64)), .second, .val (.int (1 : Int32)), .val (.ref b26), .val (.long (own_mix ((p0 + (-7046029254386353131 : Int64)) + (-7046029254386353131 : Int64)))), .second, .val (.ref b34), .val (.int (1 : Int32)), .val (.long (own_ref (1 : Int32))), .second, .val (.long (own_ref ((1 : Int32) + (1 : Int32)))), .second, .val (.ref b44), .unset, .unset] [(.long (own_ref (1 : Int32))), (.long (own_mix (((1234567 : Int64) + ((1 : Int32).toInt64 * (-7046029254386353131 : Int64))) + (-7046029254386353131 : Int64))))])) _
      refine XS.lcmp X47.here hx rfl (hb hby at_140) rfl ?_
      show Steps p.tables e below (T47.setTop (mkF m 141 #[.val (.long p0), .second, .val (.int p1), .val (.long (-7046029254386353131 : Int64)), .second, .val (.int (1 : Int32)), .val (.ref b26), .val (.long (own_mix ((p0 + (-7046029254386353131 : Int64)) + (-7046029254386353131 : Int64)))), .second, .val (.ref b34), .val (.int (1 : Int32)), .val (.long (own_ref (1 : Int32))), .second, .val (.long (own_ref ((1 : Int32) + (1 : Int32)))), .second, .val (.ref b44), .unset, .unset] [(.int (lcmpW (own_mix (((1234567 : Int64) + ((1 : Int32).toInt64 * (-7046029254386353131 : Int64))) + (-7046029254386353131 : Int64))) (own_ref (1 : Int32))))])) _
      refine XS.ifNo X47.here hx rfl (hb hby at_141) rfl ((if0 _ _).trans (teq ((lw_eq _ _).mpr (by decide +kernel))).2) ?_
      show Steps p.tables e below (T47.setTop (mkF m 144 #[.val (.long p0), .second, .val (.int p1), .val (.long (-7046029254386353131 : Int64)), .second, .val (.int (1 : Int32)), .val (.ref b26), .val (.long (own_mix ((p0 + (-7046029254386353131 : Int64)) + (-7046029254386353131 : Int64)))), .second, .val (.ref b34), .val (.int (1 : Int32)), .val (.long (own_ref (1 : Int32))), .second, .val (.long (own_ref ((1 : Int32) + (1 : Int32)))), .second, .val (.ref b44), .unset, .unset] [])) _
      refine XS.iconst X47.here hx rfl (hb hby at_144) ?_
      show Steps p.tables e below (T47.setTop (mkF m 145 #[.val (.long p0), .second, .val (.int p1), .val (.long (-7046029254386353131 : Int64)), .second, .val (.int (1 : Int32)), .val (.ref b26), .val (.long (own_mix ((p0 + (-7046029254386353131 : Int64)) + (-7046029254386353131 : Int64)))), .second, .val (.ref b34), .val (.int (1 : Int32)), .val (.long (own_ref (1 : Int32))), .second, .val (.long (own_ref ((1 : Int32) + (1 : Int32)))), .second, .val (.ref b44), .unset, .unset] [(.int (1 : Int32))])) _
      refine XS.goto X47.here hx rfl (pc0 := 145) (pc' := 149) rfl (hb hby at_145) (by decide) (by decide) ?_
      show Steps p.tables e below (T47.setTop (mkF m 149 #[.val (.long p0), .second, .val (.int p1), .val (.long (-7046029254386353131 : Int64)), .second, .val (.int (1 : Int32)), .val (.ref b26), .val (.long (own_mix ((p0 + (-7046029254386353131 : Int64)) + (-7046029254386353131 : Int64)))), .second, .val (.ref b34), .val (.int (1 : Int32)), .val (.long (own_ref (1 : Int32))), .second, .val (.long (own_ref ((1 : Int32) + (1 : Int32)))), .second, .val (.ref b44), .unset, .unset] [(.int (1 : Int32))])) _
      refine XS.istore X47.here hx rfl (hb hby at_149) rfl (l' := #[.val (.long p0), .second, .val (.int p1), .val (.long (-7046029254386353131 : Int64)), .second, .val (.int (1 : Int32)), .val (.ref b26), .val (.long (own_mix ((p0 + (-7046029254386353131 : Int64)) + (-7046029254386353131 : Int64)))), .second, .val (.ref b34), .val (.int (1 : Int32)), .val (.long (own_ref (1 : Int32))), .second, .val (.long (own_ref ((1 : Int32) + (1 : Int32)))), .second, .val (.ref b44), .val (.int (1 : Int32)), .unset]) rfl ?_
      show Steps p.tables e below (T47.setTop (mkF m 151 #[.val (.long p0), .second, .val (.int p1), .val (.long (-7046029254386353131 : Int64)), .second, .val (.int (1 : Int32)), .val (.ref b26), .val (.long (own_mix ((p0 + (-7046029254386353131 : Int64)) + (-7046029254386353131 : Int64)))), .second, .val (.ref b34), .val (.int (1 : Int32)), .val (.long (own_ref (1 : Int32))), .second, .val (.long (own_ref ((1 : Int32) + (1 : Int32)))), .second, .val (.ref b44), .val (.int (1 : Int32)), .unset] [])) _
      refine XS.aload X47.here hx rfl (hb hby at_151) rfl rfl ?_
      show Steps p.tables e below (T47.setTop (mkF m 153 #[.val (.long p0), .second, .val (.int p1), .val (.long (-7046029254386353131 : Int64)), .second, .val (.int (1 : Int32)), .val (.ref b26), .val (.long (own_mix ((p0 + (-7046029254386353131 : Int64)) + (-7046029254386353131 : Int64)))), .second, .val (.ref b34), .val (.int (1 : Int32)), .val (.long (own_ref (1 : Int32))), .second, .val (.long (own_ref ((1 : Int32) + (1 : Int32)))), .second, .val (.ref b44), .val (.int (1 : Int32)), .unset] [(.ref b44)])) _
      exact k
    refine own_go k50 ?_
    clear k50
    obtain ⟨cq49, kq49, q49a, q49b, q49c⟩ := isOf hZ rfl p47_0
    obtain ⟨_, _, ⟨T49, L49, k49, n49⟩, -, X49, ⟨Lc49, hQ49, l49, y49, z49⟩, st49⟩ := X47.virtualBack hx (y := (⟨"com/example/composure/composure/generate/SplitMix64", "next", "()J"⟩ : MethodName)) (z := (⟨"com/example/composure/composure/generate/SplitMix64", "next", "()J"⟩ : MethodName)) hown (mvT hZ (hw _ (List.mem_of_getElem? (i := 12) rfl))) (mvT hZ (hw _ (List.mem_of_getElem? (i := 13) rfl))) (notFace_of_selects (args := #[]) (mvT hZ (hw _ (List.mem_of_getElem? (i := 15) rfl)))) (mvT hZ (hw _ (List.mem_of_getElem? (i := 15) rfl))) (mvT hZ (hw _ (List.mem_of_getElem? (i := 14) rfl))) (by decide) (backOf (W := 0) (own_rm_next l Z a0 hw [] b44 (((1234567 : Int64) + ((1 : Int32).toInt64 * (-7046029254386353131 : Int64))) + (-7046029254386353131 : Int64)) T47.heap n0 Z47 p47_1 p47_0 g_b44) hZ (hw _ (List.mem_of_getElem? (i := 16) rfl)) (hw _ (List.mem_of_getElem? (i := 3) rfl)) (by decide) (by decide)) q49a q49c (g := (mkF m 153 #[.val (.long p0), .second, .val (.int p1), .val (.long (-7046029254386353131 : Int64)), .second, .val (.int (1 : Int32)), .val (.ref b26), .val (.long (own_mix ((p0 + (-7046029254386353131 : Int64)) + (-7046029254386353131 : Int64)))), .second, .val (.ref b34), .val (.int (1 : Int32)), .val (.long (own_ref (1 : Int32))), .second, .val (.long (own_ref ((1 : Int32) + (1 : Int32)))), .second, .val (.ref b44), .val (.int (1 : Int32)), .unset] [(.ref b44)])) rfl (by rw [hml]; rfl) (Steps.refl _) (argsL := []) (rest := []) (lenOf own_pd_2829J rfl) rfl (by show 2 * 0 + _ ≤ _; exact Nat.le_of_eq rfl) (hb hby at_153) (fun _ _ => ⟨rfl, rfl, (by decide : 3 + 0 ≤ _), (by decide : 3 + 0 ≤ _)⟩)
    dsimp only [Pt.U, Pt.locs, Pt.cells, Pt.slots] at X49 l49 y49 z49 st49 hQ49
    subst l49 y49 z49
    obtain ⟨rfl, N49q, K49q, p49_0, p49_1⟩ := hQ49
    have N49 := Fr.app N47 N49q
    have f49_0 : Exa Z T49.heap b26 "com/example/composure/composure/generate/SplitMix64" := f47_0.keep K49q
    have f49_1 : Fld Z T49.heap b26 "com/example/composure/composure/generate/SplitMix64" "state" "J" (.long ((p0 + (-7046029254386353131 : Int64)) + (-7046029254386353131 : Int64))) := f47_1.keep K49q (ninS ne_b26_b44 nin0)
    have f49_2 : Exa Z T49.heap b34 "com/example/composure/composure/generate/SplitMix64" := f47_2.keep K49q
    have f49_3 : Fld Z T49.heap b34 "com/example/composure/composure/generate/SplitMix64" "state" "J" (.long ((p0 + ((1 : Int32).toInt64 * (-7046029254386353131 : Int64))) + (-7046029254386353131 : Int64))) := f47_3.keep K49q (ninS ne_b34_b44 nin0)
    have Z49 : n0 ≤ T49.heap.size := Nat.le_trans Z47 K49q.1
    refine own_go (fun _ k => st49.trans k) ?_
    have k51 : ∀ t, Steps p.tables e below (T49.setTop (mkF m 189 #[.val (.long p0), .second, .val (.int p1), .val (.long (-7046029254386353131 : Int64)), .second, .val (.int (1 : Int32)), .val (.ref b26), .val (.long (own_mix ((p0 + (-7046029254386353131 : Int64)) + (-7046029254386353131 : Int64)))), .second, .val (.ref b34), .val (.int (1 : Int32)), .val (.long (own_ref (1 : Int32))), .second, .val (.long (own_ref ((1 : Int32) + (1 : Int32)))), .second, .val (.ref b44), .val (.int (1 : Int32)), .val (.int (1 : Int32))] [(.int (1 : Int32))])) t → Steps p.tables e below (T49.setTop (mkF m 156 #[.val (.long p0), .second, .val (.int p1), .val (.long (-7046029254386353131 : Int64)), .second, .val (.int (1 : Int32)), .val (.ref b26), .val (.long (own_mix ((p0 + (-7046029254386353131 : Int64)) + (-7046029254386353131 : Int64)))), .second, .val (.ref b34), .val (.int (1 : Int32)), .val (.long (own_ref (1 : Int32))), .second, .val (.long (own_ref ((1 : Int32) + (1 : Int32)))), .second, .val (.ref b44), .val (.int (1 : Int32)), .unset] [(.long (own_mix ((((1234567 : Int64) + ((1 : Int32).toInt64 * (-7046029254386353131 : Int64))) + (-7046029254386353131 : Int64)) + (-7046029254386353131 : Int64))))])) t := fun t k => by
      refine XS.lload X49.here hx rfl (hb hby at_156) rfl ?_
      show Steps p.tables e below (T49.setTop (mkF m 158 #[.val (.long p0), .second, .val (.int p1), .val (.long (-7046029254386353131 : Int64)), .second, .val (.int (1 : Int32)), .val (.ref b26), .val (.long (own_mix ((p0 + (-7046029254386353131 : Int64)) + (-7046029254386353131 : Int64)))), .second, .val (.ref b34), .val (.int (1 : Int32)), .val (.long (own_ref (1 : Int32))), .second, .val (.long (own_ref ((1 : Int32) + (1 : Int32)))), .second, .val (.ref b44), .val (.int (1 : Int32)), .unset] [(.long (own_ref ((1 : Int32) + (1 : Int32)))), (.long (own_mix ((((1234567 : Int64) + ((1 : Int32).toInt64 * (-7046029254386353131 : Int64))) + (-7046029254386353131 : Int64)) + (-7046029254386353131 : Int64))))])) _
      refine XS.lcmp X49.here hx rfl (hb hby at_158) rfl ?_
      show Steps p.tables e below (T49.setTop (mkF m 159 #[.val (.long p0), .second, .val (.int p1), .val (.long (-7046029254386353131 : Int64)), .second, .val (.int (1 : Int32)), .val (.ref b26), .val (.long (own_mix ((p0 + (-7046029254386353131 : Int64)) + (-7046029254386353131 : Int64)))), .second, .val (.ref b34), .val (.int (1 : Int32)), .val (.long (own_ref (1 : Int32))), .second, .val (.long (own_ref ((1 : Int32) + (1 : Int32)))), .second, .val (.ref b44), .val (.int (1 : Int32)), .unset] [(.int (lcmpW (own_mix ((((1234567 : Int64) + ((1 : Int32).toInt64 * (-7046029254386353131 : Int64))) + (-7046029254386353131 : Int64)) + (-7046029254386353131 : Int64))) (own_ref ((1 : Int32) + (1 : Int32)))))])) _
      refine XS.ifNo X49.here hx rfl (hb hby at_159) rfl ((if0 _ _).trans (teq ((lw_eq _ _).mpr (by decide +kernel))).2) ?_
      show Steps p.tables e below (T49.setTop (mkF m 162 #[.val (.long p0), .second, .val (.int p1), .val (.long (-7046029254386353131 : Int64)), .second, .val (.int (1 : Int32)), .val (.ref b26), .val (.long (own_mix ((p0 + (-7046029254386353131 : Int64)) + (-7046029254386353131 : Int64)))), .second, .val (.ref b34), .val (.int (1 : Int32)), .val (.long (own_ref (1 : Int32))), .second, .val (.long (own_ref ((1 : Int32) + (1 : Int32)))), .second, .val (.ref b44), .val (.int (1 : Int32)), .unset] [])) _
      refine XS.iconst X49.here hx rfl (hb hby at_162) ?_
      show Steps p.tables e below (T49.setTop (mkF m 163 #[.val (.long p0), .second, .val (.int p1), .val (.long (-7046029254386353131 : Int64)), .second, .val (.int (1 : Int32)), .val (.ref b26), .val (.long (own_mix ((p0 + (-7046029254386353131 : Int64)) + (-7046029254386353131 : Int64)))), .second, .val (.ref b34), .val (.int (1 : Int32)), .val (.long (own_ref (1 : Int32))), .second, .val (.long (own_ref ((1 : Int32) + (1 : Int32)))), .second, .val (.ref b44), .val (.int (1 : Int32)), .unset] [(.int (1 : Int32))])) _
      refine XS.goto X49.here hx rfl (pc0 := 163) (pc' := 167) rfl (hb hby at_163) (by decide) (by decide) ?_
      show Steps p.tables e below (T49.setTop (mkF m 167 #[.val (.long p0), .second, .val (.int p1), .val (.long (-7046029254386353131 : Int64)), .second, .val (.int (1 : Int32)), .val (.ref b26), .val (.long (own_mix ((p0 + (-7046029254386353131 : Int64)) + (-7046029254386353131 : Int64)))), .second, .val (.ref b34), .val (.int (1 : Int32)), .val (.long (own_ref (1 : Int32))), .second, .val (.long (own_ref ((1 : Int32) + (1 : Int32)))), .second, .val (.ref b44), .val (.int (1 : Int32)), .unset] [(.int (1 : Int32))])) _
      refine XS.istore X49.here hx rfl (hb hby at_167) rfl (l' := #[.val (.long p0), .second, .val (.int p1), .val (.long (-7046029254386353131 : Int64)), .second, .val (.int (1 : Int32)), .val (.ref b26), .val (.long (own_mix ((p0 + (-7046029254386353131 : Int64)) + (-7046029254386353131 : Int64)))), .second, .val (.ref b34), .val (.int (1 : Int32)), .val (.long (own_ref (1 : Int32))), .second, .val (.long (own_ref ((1 : Int32) + (1 : Int32)))), .second, .val (.ref b44), .val (.int (1 : Int32)), .val (.int (1 : Int32))]) rfl ?_
      show Steps p.tables e below (T49.setTop (mkF m 169 #[.val (.long p0), .second, .val (.int p1), .val (.long (-7046029254386353131 : Int64)), .second, .val (.int (1 : Int32)), .val (.ref b26), .val (.long (own_mix ((p0 + (-7046029254386353131 : Int64)) + (-7046029254386353131 : Int64)))), .second, .val (.ref b34), .val (.int (1 : Int32)), .val (.long (own_ref (1 : Int32))), .second, .val (.long (own_ref ((1 : Int32) + (1 : Int32)))), .second, .val (.ref b44), .val (.int (1 : Int32)), .val (.int (1 : Int32))] [])) _
      refine XS.iload X49.here hx rfl (hb hby at_169) rfl ?_
      show Steps p.tables e below (T49.setTop (mkF m 171 #[.val (.long p0), .second, .val (.int p1), .val (.long (-7046029254386353131 : Int64)), .second, .val (.int (1 : Int32)), .val (.ref b26), .val (.long (own_mix ((p0 + (-7046029254386353131 : Int64)) + (-7046029254386353131 : Int64)))), .second, .val (.ref b34), .val (.int (1 : Int32)), .val (.long (own_ref (1 : Int32))), .second, .val (.long (own_ref ((1 : Int32) + (1 : Int32)))), .second, .val (.ref b44), .val (.int (1 : Int32)), .val (.int (1 : Int32))] [(.int (1 : Int32))])) _
      refine XS.ifNo X49.here hx rfl (hb hby at_171) rfl ((if0 _ _).trans (feq (by decide : ¬ ((1 : Int32) = (0 : Int32)))).1) ?_
      show Steps p.tables e below (T49.setTop (mkF m 174 #[.val (.long p0), .second, .val (.int p1), .val (.long (-7046029254386353131 : Int64)), .second, .val (.int (1 : Int32)), .val (.ref b26), .val (.long (own_mix ((p0 + (-7046029254386353131 : Int64)) + (-7046029254386353131 : Int64)))), .second, .val (.ref b34), .val (.int (1 : Int32)), .val (.long (own_ref (1 : Int32))), .second, .val (.long (own_ref ((1 : Int32) + (1 : Int32)))), .second, .val (.ref b44), .val (.int (1 : Int32)), .val (.int (1 : Int32))] [])) _
      refine XS.iload X49.here hx rfl (hb hby at_174) rfl ?_
      show Steps p.tables e below (T49.setTop (mkF m 176 #[.val (.long p0), .second, .val (.int p1), .val (.long (-7046029254386353131 : Int64)), .second, .val (.int (1 : Int32)), .val (.ref b26), .val (.long (own_mix ((p0 + (-7046029254386353131 : Int64)) + (-7046029254386353131 : Int64)))), .second, .val (.ref b34), .val (.int (1 : Int32)), .val (.long (own_ref (1 : Int32))), .second, .val (.long (own_ref ((1 : Int32) + (1 : Int32)))), .second, .val (.ref b44), .val (.int (1 : Int32)), .val (.int (1 : Int32))] [(.int (1 : Int32))])) _
      refine XS.ifNo X49.here hx rfl (hb hby at_176) rfl ((if0 _ _).trans (feq (by decide : ¬ ((1 : Int32) = (0 : Int32)))).1) ?_
      show Steps p.tables e below (T49.setTop (mkF m 179 #[.val (.long p0), .second, .val (.int p1), .val (.long (-7046029254386353131 : Int64)), .second, .val (.int (1 : Int32)), .val (.ref b26), .val (.long (own_mix ((p0 + (-7046029254386353131 : Int64)) + (-7046029254386353131 : Int64)))), .second, .val (.ref b34), .val (.int (1 : Int32)), .val (.long (own_ref (1 : Int32))), .second, .val (.long (own_ref ((1 : Int32) + (1 : Int32)))), .second, .val (.ref b44), .val (.int (1 : Int32)), .val (.int (1 : Int32))] [])) _
      refine XS.iload X49.here hx rfl (hb hby at_179) rfl ?_
      show Steps p.tables e below (T49.setTop (mkF m 181 #[.val (.long p0), .second, .val (.int p1), .val (.long (-7046029254386353131 : Int64)), .second, .val (.int (1 : Int32)), .val (.ref b26), .val (.long (own_mix ((p0 + (-7046029254386353131 : Int64)) + (-7046029254386353131 : Int64)))), .second, .val (.ref b34), .val (.int (1 : Int32)), .val (.long (own_ref (1 : Int32))), .second, .val (.long (own_ref ((1 : Int32) + (1 : Int32)))), .second, .val (.ref b44), .val (.int (1 : Int32)), .val (.int (1 : Int32))] [(.int (1 : Int32))])) _
      refine XS.ifNo X49.here hx rfl (hb hby at_181) rfl ((if0 _ _).trans (feq (by decide : ¬ ((1 : Int32) = (0 : Int32)))).1) ?_
      show Steps p.tables e below (T49.setTop (mkF m 184 #[.val (.long p0), .second, .val (.int p1), .val (.long (-7046029254386353131 : Int64)), .second, .val (.int (1 : Int32)), .val (.ref b26), .val (.long (own_mix ((p0 + (-7046029254386353131 : Int64)) + (-7046029254386353131 : Int64)))), .second, .val (.ref b34), .val (.int (1 : Int32)), .val (.long (own_ref (1 : Int32))), .second, .val (.long (own_ref ((1 : Int32) + (1 : Int32)))), .second, .val (.ref b44), .val (.int (1 : Int32)), .val (.int (1 : Int32))] [])) _
      refine XS.iconst X49.here hx rfl (hb hby at_184) ?_
      show Steps p.tables e below (T49.setTop (mkF m 185 #[.val (.long p0), .second, .val (.int p1), .val (.long (-7046029254386353131 : Int64)), .second, .val (.int (1 : Int32)), .val (.ref b26), .val (.long (own_mix ((p0 + (-7046029254386353131 : Int64)) + (-7046029254386353131 : Int64)))), .second, .val (.ref b34), .val (.int (1 : Int32)), .val (.long (own_ref (1 : Int32))), .second, .val (.long (own_ref ((1 : Int32) + (1 : Int32)))), .second, .val (.ref b44), .val (.int (1 : Int32)), .val (.int (1 : Int32))] [(.int (1 : Int32))])) _
      refine XS.goto X49.here hx rfl (pc0 := 185) (pc' := 189) rfl (hb hby at_185) (by decide) (by decide) ?_
      show Steps p.tables e below (T49.setTop (mkF m 189 #[.val (.long p0), .second, .val (.int p1), .val (.long (-7046029254386353131 : Int64)), .second, .val (.int (1 : Int32)), .val (.ref b26), .val (.long (own_mix ((p0 + (-7046029254386353131 : Int64)) + (-7046029254386353131 : Int64)))), .second, .val (.ref b34), .val (.int (1 : Int32)), .val (.long (own_ref (1 : Int32))), .second, .val (.long (own_ref ((1 : Int32) + (1 : Int32)))), .second, .val (.ref b44), .val (.int (1 : Int32)), .val (.int (1 : Int32))] [(.int (1 : Int32))])) _
      exact k
    refine own_go k51 ?_
    clear k51
    obtain ⟨fs, hr, hrun, hended, hW, hsame⟩ := X49.leave (v := some (.int (nar .boolean (1 : Int32)))) (fun h => by rw [Bd.returns] at h; cases h)
    refine ⟨_, _, retN X49 hx (t := .boolean) Bd.returns (by simp) (hb hby at_189) hr, hPf _ _ ⟨hrun, hended, _, _, rfl, ?_, ⟨_, rfl⟩, hW, hsame.mono (by decide) (by decide)⟩⟩
    show own_Q_law Z p0 p1 h0 n0 _ T49.heap _
    exact ⟨rfl, N49⟩
  · subst hj
    obtain ⟨T52, h52, X52, e52, E52, A52, D52, -, st52⟩ := newO X0 hx hZ hown (hw _ (List.mem_of_getElem? (i := 1) rfl)) (hw _ (List.mem_of_getElem? (i := 2) rfl)) (hw _ (List.mem_of_getElem? (i := 3) rfl)) e0 (g := (mkF m 9 #[.val (.long p0), .second, .val (.int p1), .val (.long (-7046029254386353131 : Int64)), .second, .val (.int (2 : Int32)), .unset, .unset, .unset, .unset, .unset, .unset, .unset, .unset, .unset, .unset, .unset, .unset] [])) rfl (hb hby at_9) (by decide) (by decide)
    obtain ⟨b52, g52⟩ : ∃ z, z = h0.size := ⟨_, rfl⟩
    rw [← g52] at A52 D52 st52
    refine own_go st52 ?_
    have g_b52 : n0 ≤ b52 := Nat.le_trans Z0 (Nat.le_of_eq g52.symm)
    have Z52 : n0 ≤ h52.size := Nat.le_trans Z0 E52.1
    have F52_state : Fld Z h52 b52 "com/example/composure/composure/generate/SplitMix64" "state" "J" (.long (0 : Int64)) := D52 (Or.inl (hw _ (List.mem_of_getElem? (i := 11) rfl))) (ty := .long) (by decide)
    have k54 : ∀ t, Steps p.tables e below (T52.setTop (mkF m 14 #[.val (.long p0), .second, .val (.int p1), .val (.long (-7046029254386353131 : Int64)), .second, .val (.int (2 : Int32)), .unset, .unset, .unset, .unset, .unset, .unset, .unset, .unset, .unset, .unset, .unset, .unset] [(.long p0), (.ref b52), (.ref b52)])) t → Steps p.tables e below (T52.setTop (mkF m 12 #[.val (.long p0), .second, .val (.int p1), .val (.long (-7046029254386353131 : Int64)), .second, .val (.int (2 : Int32)), .unset, .unset, .unset, .unset, .unset, .unset, .unset, .unset, .unset, .unset, .unset, .unset] [(.ref b52)])) t := fun t k => by
      refine XS.dup X52.here hx rfl (hb hby at_12) rfl rfl ?_
      show Steps p.tables e below (T52.setTop (mkF m 13 #[.val (.long p0), .second, .val (.int p1), .val (.long (-7046029254386353131 : Int64)), .second, .val (.int (2 : Int32)), .unset, .unset, .unset, .unset, .unset, .unset, .unset, .unset, .unset, .unset, .unset, .unset] [(.ref b52), (.ref b52)])) _
      refine XS.lloadN X52.here hx rfl (hb hby at_13) rfl ?_
      show Steps p.tables e below (T52.setTop (mkF m 14 #[.val (.long p0), .second, .val (.int p1), .val (.long (-7046029254386353131 : Int64)), .second, .val (.int (2 : Int32)), .unset, .unset, .unset, .unset, .unset, .unset, .unset, .unset, .unset, .unset, .unset, .unset] [(.long p0), (.ref b52), (.ref b52)])) _
      exact k
    refine own_go k54 ?_
    clear k54
    obtain ⟨_, _, ⟨T53, L53, k53, n53⟩, -, X53, ⟨Lc53, hQ53, l53, y53, z53⟩, st53⟩ := X52.specialBack hx (y := (⟨"com/example/composure/composure/generate/SplitMix64", "<init>", "(J)V"⟩ : MethodName)) rfl hown (mvT hZ (hw _ (List.mem_of_getElem? (i := 4) rfl))) (mvT hZ (hw _ (List.mem_of_getElem? (i := 5) rfl))) (mvT hZ (hw _ (List.mem_of_getElem? (i := 6) rfl))) (by decide) (backOf (W := 1) (own_rm_init l Z a0 hw [] b52 p0 (0 : Int64) h52 n0 Z52 F52_state A52 g_b52) hZ (hw _ (List.mem_of_getElem? (i := 6) rfl)) (hw _ (List.mem_of_getElem? (i := 3) rfl)) (by decide) (by decide)) (g := (mkF m 14 #[.val (.long p0), .second, .val (.int p1), .val (.long (-7046029254386353131 : Int64)), .second, .val (.int (2 : Int32)), .unset, .unset, .unset, .unset, .unset, .unset, .unset, .unset, .unset, .unset, .unset, .unset] [(.long p0), (.ref b52), (.ref b52)])) rfl (by rw [hml]; rfl) (Steps.refl _) (a := b52) (argsL := [(.long p0)]) (rest := [(.ref b52)]) (lenOf own_pd_28J29V rfl) rfl (by show 2 * 0 + _ ≤ _; exact Nat.le_of_eq rfl) (hb hby at_14) (fun _ _ => ⟨rfl, e52, (by decide : 1 + 0 ≤ _), (by decide : 1 + 0 ≤ _)⟩)
    dsimp only [Pt.U, Pt.locs, Pt.cells, Pt.slots] at X53 l53 y53 z53 st53 hQ53
    subst l53 y53 z53
    obtain ⟨rfl, N53q, K53q, p53_0, p53_1⟩ := hQ53
    have N53 := Fr.app N0 N53q
    have Z53 : n0 ≤ T53.heap.size := Nat.le_trans Z52 K53q.1
    refine own_go (fun _ k => st53.trans k) ?_
    have k56 : ∀ t, Steps p.tables e below (T53.setTop (mkF m 21 #[.val (.long p0), .second, .val (.int p1), .val (.long (-7046029254386353131 : Int64)), .second, .val (.int (2 : Int32)), .val (.ref b52), .unset, .unset, .unset, .unset, .unset, .unset, .unset, .unset, .unset, .unset, .unset] [(.ref b52)])) t → Steps p.tables e below (T53.setTop (mkF m 17 #[.val (.long p0), .second, .val (.int p1), .val (.long (-7046029254386353131 : Int64)), .second, .val (.int (2 : Int32)), .unset, .unset, .unset, .unset, .unset, .unset, .unset, .unset, .unset, .unset, .unset, .unset] [(.ref b52)])) t := fun t k => by
      refine XS.astore X53.here hx rfl (hb hby at_17) rfl rfl (l' := #[.val (.long p0), .second, .val (.int p1), .val (.long (-7046029254386353131 : Int64)), .second, .val (.int (2 : Int32)), .val (.ref b52), .unset, .unset, .unset, .unset, .unset, .unset, .unset, .unset, .unset, .unset, .unset]) rfl ?_
      show Steps p.tables e below (T53.setTop (mkF m 19 #[.val (.long p0), .second, .val (.int p1), .val (.long (-7046029254386353131 : Int64)), .second, .val (.int (2 : Int32)), .val (.ref b52), .unset, .unset, .unset, .unset, .unset, .unset, .unset, .unset, .unset, .unset, .unset] [])) _
      refine XS.aload X53.here hx rfl (hb hby at_19) rfl rfl ?_
      show Steps p.tables e below (T53.setTop (mkF m 21 #[.val (.long p0), .second, .val (.int p1), .val (.long (-7046029254386353131 : Int64)), .second, .val (.int (2 : Int32)), .val (.ref b52), .unset, .unset, .unset, .unset, .unset, .unset, .unset, .unset, .unset, .unset, .unset] [(.ref b52)])) _
      exact k
    refine own_go k56 ?_
    clear k56
    obtain ⟨cq55, kq55, q55a, q55b, q55c⟩ := isOf hZ rfl p53_0
    obtain ⟨_, _, ⟨T55, L55, k55, n55⟩, -, X55, ⟨Lc55, hQ55, l55, y55, z55⟩, st55⟩ := X53.virtualBack hx (y := (⟨"com/example/composure/composure/generate/SplitMix64", "next", "()J"⟩ : MethodName)) (z := (⟨"com/example/composure/composure/generate/SplitMix64", "next", "()J"⟩ : MethodName)) hown (mvT hZ (hw _ (List.mem_of_getElem? (i := 12) rfl))) (mvT hZ (hw _ (List.mem_of_getElem? (i := 13) rfl))) (notFace_of_selects (args := #[]) (mvT hZ (hw _ (List.mem_of_getElem? (i := 15) rfl)))) (mvT hZ (hw _ (List.mem_of_getElem? (i := 15) rfl))) (mvT hZ (hw _ (List.mem_of_getElem? (i := 14) rfl))) (by decide) (backOf (W := 0) (own_rm_next l Z a0 hw [] b52 p0 T53.heap n0 Z53 p53_1 p53_0 g_b52) hZ (hw _ (List.mem_of_getElem? (i := 16) rfl)) (hw _ (List.mem_of_getElem? (i := 3) rfl)) (by decide) (by decide)) q55a q55c (g := (mkF m 21 #[.val (.long p0), .second, .val (.int p1), .val (.long (-7046029254386353131 : Int64)), .second, .val (.int (2 : Int32)), .val (.ref b52), .unset, .unset, .unset, .unset, .unset, .unset, .unset, .unset, .unset, .unset, .unset] [(.ref b52)])) rfl (by rw [hml]; rfl) (Steps.refl _) (argsL := []) (rest := []) (lenOf own_pd_2829J rfl) rfl (by show 2 * 0 + _ ≤ _; exact Nat.le_of_eq rfl) (hb hby at_21) (fun _ _ => ⟨rfl, rfl, (by decide : 1 + 0 ≤ _), (by decide : 1 + 0 ≤ _)⟩)
    dsimp only [Pt.U, Pt.locs, Pt.cells, Pt.slots] at X55 l55 y55 z55 st55 hQ55
    subst l55 y55 z55
    obtain ⟨rfl, N55q, K55q, p55_0, p55_1⟩ := hQ55
    have N55 := Fr.app N53 N55q
    have Z55 : n0 ≤ T55.heap.size := Nat.le_trans Z53 K55q.1
    refine own_go (fun _ k => st55.trans k) ?_
    have k58 : ∀ t, Steps p.tables e below (T55.setTop (mkF m 34 #[.val (.long p0), .second, .val (.int p1), .val (.long (-7046029254386353131 : Int64)), .second, .val (.int (2 : Int32)), .val (.ref b52), .val (.long (own_mix (p0 + (-7046029254386353131 : Int64)))), .second, .unset, .unset, .unset, .unset, .unset, .unset, .unset, .unset, .unset] [(.ref b52)])) t → Steps p.tables e below (T55.setTop (mkF m 24 #[.val (.long p0), .second, .val (.int p1), .val (.long (-7046029254386353131 : Int64)), .second, .val (.int (2 : Int32)), .val (.ref b52), .unset, .unset, .unset, .unset, .unset, .unset, .unset, .unset, .unset, .unset, .unset] [(.long (own_mix (p0 + (-7046029254386353131 : Int64))))])) t := fun t k => by
      refine XS.lstore X55.here hx rfl (hb hby at_24) rfl (l' := #[.val (.long p0), .second, .val (.int p1), .val (.long (-7046029254386353131 : Int64)), .second, .val (.int (2 : Int32)), .val (.ref b52), .val (.long (own_mix (p0 + (-7046029254386353131 : Int64)))), .second, .unset, .unset, .unset, .unset, .unset, .unset, .unset, .unset, .unset]) rfl ?_
      show Steps p.tables e below (T55.setTop (mkF m 26 #[.val (.long p0), .second, .val (.int p1), .val (.long (-7046029254386353131 : Int64)), .second, .val (.int (2 : Int32)), .val (.ref b52), .val (.long (own_mix (p0 + (-7046029254386353131 : Int64)))), .second, .unset, .unset, .unset, .unset, .unset, .unset, .unset, .unset, .unset] [])) _
      refine XS.iload X55.here hx rfl (hb hby at_26) rfl ?_
      show Steps p.tables e below (T55.setTop (mkF m 28 #[.val (.long p0), .second, .val (.int p1), .val (.long (-7046029254386353131 : Int64)), .second, .val (.int (2 : Int32)), .val (.ref b52), .val (.long (own_mix (p0 + (-7046029254386353131 : Int64)))), .second, .unset, .unset, .unset, .unset, .unset, .unset, .unset, .unset, .unset] [(.int (2 : Int32))])) _
      refine XS.iconst X55.here hx rfl (hb hby at_28) ?_
      show Steps p.tables e below (T55.setTop (mkF m 29 #[.val (.long p0), .second, .val (.int p1), .val (.long (-7046029254386353131 : Int64)), .second, .val (.int (2 : Int32)), .val (.ref b52), .val (.long (own_mix (p0 + (-7046029254386353131 : Int64)))), .second, .unset, .unset, .unset, .unset, .unset, .unset, .unset, .unset, .unset] [(.int (1 : Int32)), (.int (2 : Int32))])) _
      refine XS.icmpNo X55.here hx rfl (hb hby at_29) rfl (flt (by decide : ¬ ((2 : Int32) < (1 : Int32)))).1 ?_
      show Steps p.tables e below (T55.setTop (mkF m 32 #[.val (.long p0), .second, .val (.int p1), .val (.long (-7046029254386353131 : Int64)), .second, .val (.int (2 : Int32)), .val (.ref b52), .val (.long (own_mix (p0 + (-7046029254386353131 : Int64)))), .second, .unset, .unset, .unset, .unset, .unset, .unset, .unset, .unset, .unset] [])) _
      refine XS.aload X55.here hx rfl (hb hby at_32) rfl rfl ?_
      show Steps p.tables e below (T55.setTop (mkF m 34 #[.val (.long p0), .second, .val (.int p1), .val (.long (-7046029254386353131 : Int64)), .second, .val (.int (2 : Int32)), .val (.ref b52), .val (.long (own_mix (p0 + (-7046029254386353131 : Int64)))), .second, .unset, .unset, .unset, .unset, .unset, .unset, .unset, .unset, .unset] [(.ref b52)])) _
      exact k
    refine own_go k58 ?_
    clear k58
    obtain ⟨cq57, kq57, q57a, q57b, q57c⟩ := isOf hZ rfl p55_0
    obtain ⟨_, _, ⟨T57, L57, k57, n57⟩, -, X57, ⟨Lc57, hQ57, l57, y57, z57⟩, st57⟩ := X55.virtualBack hx (y := (⟨"com/example/composure/composure/generate/SplitMix64", "next", "()J"⟩ : MethodName)) (z := (⟨"com/example/composure/composure/generate/SplitMix64", "next", "()J"⟩ : MethodName)) hown (mvT hZ (hw _ (List.mem_of_getElem? (i := 12) rfl))) (mvT hZ (hw _ (List.mem_of_getElem? (i := 13) rfl))) (notFace_of_selects (args := #[]) (mvT hZ (hw _ (List.mem_of_getElem? (i := 15) rfl)))) (mvT hZ (hw _ (List.mem_of_getElem? (i := 15) rfl))) (mvT hZ (hw _ (List.mem_of_getElem? (i := 14) rfl))) (by decide) (backOf (W := 0) (own_rm_next l Z a0 hw [] b52 (p0 + (-7046029254386353131 : Int64)) T55.heap n0 Z55 p55_1 p55_0 g_b52) hZ (hw _ (List.mem_of_getElem? (i := 16) rfl)) (hw _ (List.mem_of_getElem? (i := 3) rfl)) (by decide) (by decide)) q57a q57c (g := (mkF m 34 #[.val (.long p0), .second, .val (.int p1), .val (.long (-7046029254386353131 : Int64)), .second, .val (.int (2 : Int32)), .val (.ref b52), .val (.long (own_mix (p0 + (-7046029254386353131 : Int64)))), .second, .unset, .unset, .unset, .unset, .unset, .unset, .unset, .unset, .unset] [(.ref b52)])) rfl (by rw [hml]; rfl) (Steps.refl _) (argsL := []) (rest := []) (lenOf own_pd_2829J rfl) rfl (by show 2 * 0 + _ ≤ _; exact Nat.le_of_eq rfl) (hb hby at_34) (fun _ _ => ⟨rfl, rfl, (by decide : 1 + 0 ≤ _), (by decide : 1 + 0 ≤ _)⟩)
    dsimp only [Pt.U, Pt.locs, Pt.cells, Pt.slots] at X57 l57 y57 z57 st57 hQ57
    subst l57 y57 z57
    obtain ⟨rfl, N57q, K57q, p57_0, p57_1⟩ := hQ57
    have N57 := Fr.app N55 N57q
    have Z57 : n0 ≤ T57.heap.size := Nat.le_trans Z55 K57q.1
    refine own_go (fun _ k => st57.trans k) ?_
    have k60 : ∀ t, Steps p.tables e below (T57.setTop (mkF m 47 #[.val (.long p0), .second, .val (.int p1), .val (.long (-7046029254386353131 : Int64)), .second, .val (.int (2 : Int32)), .val (.ref b52), .val (.long (own_mix ((p0 + (-7046029254386353131 : Int64)) + (-7046029254386353131 : Int64)))), .second, .unset, .unset, .unset, .unset, .unset, .unset, .unset, .unset, .unset] [(.ref b52)])) t → Steps p.tables e below (T57.setTop (mkF m 37 #[.val (.long p0), .second, .val (.int p1), .val (.long (-7046029254386353131 : Int64)), .second, .val (.int (2 : Int32)), .val (.ref b52), .val (.long (own_mix (p0 + (-7046029254386353131 : Int64)))), .second, .unset, .unset, .unset, .unset, .unset, .unset, .unset, .unset, .unset] [(.long (own_mix ((p0 + (-7046029254386353131 : Int64)) + (-7046029254386353131 : Int64))))])) t := fun t k => by
      refine XS.lstore X57.here hx rfl (hb hby at_37) rfl (l' := #[.val (.long p0), .second, .val (.int p1), .val (.long (-7046029254386353131 : Int64)), .second, .val (.int (2 : Int32)), .val (.ref b52), .val (.long (own_mix ((p0 + (-7046029254386353131 : Int64)) + (-7046029254386353131 : Int64)))), .second, .unset, .unset, .unset, .unset, .unset, .unset, .unset, .unset, .unset]) rfl ?_
      show Steps p.tables e below (T57.setTop (mkF m 39 #[.val (.long p0), .second, .val (.int p1), .val (.long (-7046029254386353131 : Int64)), .second, .val (.int (2 : Int32)), .val (.ref b52), .val (.long (own_mix ((p0 + (-7046029254386353131 : Int64)) + (-7046029254386353131 : Int64)))), .second, .unset, .unset, .unset, .unset, .unset, .unset, .unset, .unset, .unset] [])) _
      refine XS.iload X57.here hx rfl (hb hby at_39) rfl ?_
      show Steps p.tables e below (T57.setTop (mkF m 41 #[.val (.long p0), .second, .val (.int p1), .val (.long (-7046029254386353131 : Int64)), .second, .val (.int (2 : Int32)), .val (.ref b52), .val (.long (own_mix ((p0 + (-7046029254386353131 : Int64)) + (-7046029254386353131 : Int64)))), .second, .unset, .unset, .unset, .unset, .unset, .unset, .unset, .unset, .unset] [(.int (2 : Int32))])) _
      refine XS.iconst X57.here hx rfl (hb hby at_41) ?_
      show Steps p.tables e below (T57.setTop (mkF m 42 #[.val (.long p0), .second, .val (.int p1), .val (.long (-7046029254386353131 : Int64)), .second, .val (.int (2 : Int32)), .val (.ref b52), .val (.long (own_mix ((p0 + (-7046029254386353131 : Int64)) + (-7046029254386353131 : Int64)))), .second, .unset, .unset, .unset, .unset, .unset, .unset, .unset, .unset, .unset] [(.int (2 : Int32)), (.int (2 : Int32))])) _
      refine XS.icmpNo X57.here hx rfl (hb hby at_42) rfl (flt (by decide : ¬ ((2 : Int32) < (2 : Int32)))).1 ?_
      show Steps p.tables e below (T57.setTop (mkF m 45 #[.val (.long p0), .second, .val (.int p1), .val (.long (-7046029254386353131 : Int64)), .second, .val (.int (2 : Int32)), .val (.ref b52), .val (.long (own_mix ((p0 + (-7046029254386353131 : Int64)) + (-7046029254386353131 : Int64)))), .second, .unset, .unset, .unset, .unset, .unset, .unset, .unset, .unset, .unset] [])) _
      refine XS.aload X57.here hx rfl (hb hby at_45) rfl rfl ?_
      show Steps p.tables e below (T57.setTop (mkF m 47 #[.val (.long p0), .second, .val (.int p1), .val (.long (-7046029254386353131 : Int64)), .second, .val (.int (2 : Int32)), .val (.ref b52), .val (.long (own_mix ((p0 + (-7046029254386353131 : Int64)) + (-7046029254386353131 : Int64)))), .second, .unset, .unset, .unset, .unset, .unset, .unset, .unset, .unset, .unset] [(.ref b52)])) _
      exact k
    refine own_go k60 ?_
    clear k60
    obtain ⟨cq59, kq59, q59a, q59b, q59c⟩ := isOf hZ rfl p57_0
    obtain ⟨_, _, ⟨T59, L59, k59, n59⟩, -, X59, ⟨Lc59, hQ59, l59, y59, z59⟩, st59⟩ := X57.virtualBack hx (y := (⟨"com/example/composure/composure/generate/SplitMix64", "next", "()J"⟩ : MethodName)) (z := (⟨"com/example/composure/composure/generate/SplitMix64", "next", "()J"⟩ : MethodName)) hown (mvT hZ (hw _ (List.mem_of_getElem? (i := 12) rfl))) (mvT hZ (hw _ (List.mem_of_getElem? (i := 13) rfl))) (notFace_of_selects (args := #[]) (mvT hZ (hw _ (List.mem_of_getElem? (i := 15) rfl)))) (mvT hZ (hw _ (List.mem_of_getElem? (i := 15) rfl))) (mvT hZ (hw _ (List.mem_of_getElem? (i := 14) rfl))) (by decide) (backOf (W := 0) (own_rm_next l Z a0 hw [] b52 ((p0 + (-7046029254386353131 : Int64)) + (-7046029254386353131 : Int64)) T57.heap n0 Z57 p57_1 p57_0 g_b52) hZ (hw _ (List.mem_of_getElem? (i := 16) rfl)) (hw _ (List.mem_of_getElem? (i := 3) rfl)) (by decide) (by decide)) q59a q59c (g := (mkF m 47 #[.val (.long p0), .second, .val (.int p1), .val (.long (-7046029254386353131 : Int64)), .second, .val (.int (2 : Int32)), .val (.ref b52), .val (.long (own_mix ((p0 + (-7046029254386353131 : Int64)) + (-7046029254386353131 : Int64)))), .second, .unset, .unset, .unset, .unset, .unset, .unset, .unset, .unset, .unset] [(.ref b52)])) rfl (by rw [hml]; rfl) (Steps.refl _) (argsL := []) (rest := []) (lenOf own_pd_2829J rfl) rfl (by show 2 * 0 + _ ≤ _; exact Nat.le_of_eq rfl) (hb hby at_47) (fun _ _ => ⟨rfl, rfl, (by decide : 1 + 0 ≤ _), (by decide : 1 + 0 ≤ _)⟩)
    dsimp only [Pt.U, Pt.locs, Pt.cells, Pt.slots] at X59 l59 y59 z59 st59 hQ59
    subst l59 y59 z59
    obtain ⟨rfl, N59q, K59q, p59_0, p59_1⟩ := hQ59
    have N59 := Fr.app N57 N59q
    have Z59 : n0 ≤ T59.heap.size := Nat.le_trans Z57 K59q.1
    refine own_go (fun _ k => st59.trans k) ?_
    have k61 : ∀ t, Steps p.tables e below (T59.setTop (mkF m 65 #[.val (.long p0), .second, .val (.int p1), .val (.long (-7046029254386353131 : Int64)), .second, .val (.int (2 : Int32)), .val (.ref b52), .val (.long (own_mix (((p0 + (-7046029254386353131 : Int64)) + (-7046029254386353131 : Int64)) + (-7046029254386353131 : Int64)))), .second, .unset, .unset, .unset, .unset, .unset, .unset, .unset, .unset, .unset] [])) t → Steps p.tables e below (T59.setTop (mkF m 50 #[.val (.long p0), .second, .val (.int p1), .val (.long (-7046029254386353131 : Int64)), .second, .val (.int (2 : Int32)), .val (.ref b52), .val (.long (own_mix ((p0 + (-7046029254386353131 : Int64)) + (-7046029254386353131 : Int64)))), .second, .unset, .unset, .unset, .unset, .unset, .unset, .unset, .unset, .unset] [(.long (own_mix (((p0 + (-7046029254386353131 : Int64)) + (-7046029254386353131 : Int64)) + (-7046029254386353131 : Int64))))])) t := fun t k => by
      refine XS.lstore X59.here hx rfl (hb hby at_50) rfl (l' := #[.val (.long p0), .second, .val (.int p1), .val (.long (-7046029254386353131 : Int64)), .second, .val (.int (2 : Int32)), .val (.ref b52), .val (.long (own_mix (((p0 + (-7046029254386353131 : Int64)) + (-7046029254386353131 : Int64)) + (-7046029254386353131 : Int64)))), .second, .unset, .unset, .unset, .unset, .unset, .unset, .unset, .unset, .unset]) rfl ?_
      show Steps p.tables e below (T59.setTop (mkF m 52 #[.val (.long p0), .second, .val (.int p1), .val (.long (-7046029254386353131 : Int64)), .second, .val (.int (2 : Int32)), .val (.ref b52), .val (.long (own_mix (((p0 + (-7046029254386353131 : Int64)) + (-7046029254386353131 : Int64)) + (-7046029254386353131 : Int64)))), .second, .unset, .unset, .unset, .unset, .unset, .unset, .unset, .unset, .unset] [])) _
      refine XS.iload X59.here hx rfl (hb hby at_52) rfl ?_
      show Steps p.tables e below (T59.setTop (mkF m 54 #[.val (.long p0), .second, .val (.int p1), .val (.long (-7046029254386353131 : Int64)), .second, .val (.int (2 : Int32)), .val (.ref b52), .val (.long (own_mix (((p0 + (-7046029254386353131 : Int64)) + (-7046029254386353131 : Int64)) + (-7046029254386353131 : Int64)))), .second, .unset, .unset, .unset, .unset, .unset, .unset, .unset, .unset, .unset] [(.int (2 : Int32))])) _
      refine XS.iconst X59.here hx rfl (hb hby at_54) ?_
      show Steps p.tables e below (T59.setTop (mkF m 55 #[.val (.long p0), .second, .val (.int p1), .val (.long (-7046029254386353131 : Int64)), .second, .val (.int (2 : Int32)), .val (.ref b52), .val (.long (own_mix (((p0 + (-7046029254386353131 : Int64)) + (-7046029254386353131 : Int64)) + (-7046029254386353131 : Int64)))), .second, .unset, .unset, .unset, .unset, .unset, .unset, .unset, .unset, .unset] [(.int (3 : Int32)), (.int (2 : Int32))])) _
      refine XS.icmpYes X59.here hx rfl (pc0 := 55) (pc' := 65) rfl (hb hby at_55) rfl (tlt (by decide : (2 : Int32) < (3 : Int32))).1 (by decide) (by decide) ?_
      show Steps p.tables e below (T59.setTop (mkF m 65 #[.val (.long p0), .second, .val (.int p1), .val (.long (-7046029254386353131 : Int64)), .second, .val (.int (2 : Int32)), .val (.ref b52), .val (.long (own_mix (((p0 + (-7046029254386353131 : Int64)) + (-7046029254386353131 : Int64)) + (-7046029254386353131 : Int64)))), .second, .unset, .unset, .unset, .unset, .unset, .unset, .unset, .unset, .unset] [])) _
      exact k
    refine own_go k61 ?_
    clear k61
    obtain ⟨T62, h62, X62, e62, E62, A62, D62, -, st62⟩ := newO X59 hx hZ hown (hw _ (List.mem_of_getElem? (i := 1) rfl)) (hw _ (List.mem_of_getElem? (i := 2) rfl)) (hw _ (List.mem_of_getElem? (i := 3) rfl)) rfl (g := (mkF m 65 #[.val (.long p0), .second, .val (.int p1), .val (.long (-7046029254386353131 : Int64)), .second, .val (.int (2 : Int32)), .val (.ref b52), .val (.long (own_mix (((p0 + (-7046029254386353131 : Int64)) + (-7046029254386353131 : Int64)) + (-7046029254386353131 : Int64)))), .second, .unset, .unset, .unset, .unset, .unset, .unset, .unset, .unset, .unset] [])) rfl (hb hby at_65) (by decide) (by decide)
    obtain ⟨b62, g62⟩ : ∃ z, z = T59.heap.size := ⟨_, rfl⟩
    rw [← g62] at A62 D62 st62
    refine own_go st62 ?_
    have ne_b52_b62 : b52 ≠ b62 := Nat.ne_of_lt (Nat.lt_of_lt_of_le p59_0.lt (Nat.le_of_eq g62.symm))
    have f62_0 : Exa Z h62 b52 "com/example/composure/composure/generate/SplitMix64" := p59_0.ext E62
    have f62_1 : Fld Z h62 b52 "com/example/composure/composure/generate/SplitMix64" "state" "J" (.long (((p0 + (-7046029254386353131 : Int64)) + (-7046029254386353131 : Int64)) + (-7046029254386353131 : Int64))) := p59_1.ext E62
    have g_b62 : n0 ≤ b62 := Nat.le_trans Z59 (Nat.le_of_eq g62.symm)
    have Z62 : n0 ≤ h62.size := Nat.le_trans Z59 E62.1
    have F62_state : Fld Z h62 b62 "com/example/composure/composure/generate/SplitMix64" "state" "J" (.long (0 : Int64)) := D62 (Or.inl (hw _ (List.mem_of_getElem? (i := 11) rfl))) (ty := .long) (by decide)
    have k64 : ∀ t, Steps p.tables e below (T62.setTop (mkF m 76 #[.val (.long p0), .second, .val (.int p1), .val (.long (-7046029254386353131 : Int64)), .second, .val (.int (2 : Int32)), .val (.ref b52), .val (.long (own_mix (((p0 + (-7046029254386353131 : Int64)) + (-7046029254386353131 : Int64)) + (-7046029254386353131 : Int64)))), .second, .unset, .unset, .unset, .unset, .unset, .unset, .unset, .unset, .unset] [(.long (p0 + ((2 : Int32).toInt64 * (-7046029254386353131 : Int64)))), (.ref b62), (.ref b62)])) t → Steps p.tables e below (T62.setTop (mkF m 68 #[.val (.long p0), .second, .val (.int p1), .val (.long (-7046029254386353131 : Int64)), .second, .val (.int (2 : Int32)), .val (.ref b52), .val (.long (own_mix (((p0 + (-7046029254386353131 : Int64)) + (-7046029254386353131 : Int64)) + (-7046029254386353131 : Int64)))), .second, .unset, .unset, .unset, .unset, .unset, .unset, .unset, .unset, .unset] [(.ref b62)])) t := fun t k => by
      refine XS.dup X62.here hx rfl (hb hby at_68) rfl rfl ?_
      show Steps p.tables e below (T62.setTop (mkF m 69 #[.val (.long p0), .second, .val (.int p1), .val (.long (-7046029254386353131 : Int64)), .second, .val (.int (2 : Int32)), .val (.ref b52), .val (.long (own_mix (((p0 + (-7046029254386353131 : Int64)) + (-7046029254386353131 : Int64)) + (-7046029254386353131 : Int64)))), .second, .unset, .unset, .unset, .unset, .unset, .unset, .unset, .unset, .unset] [(.ref b62), (.ref b62)])) _
      refine XS.lloadN X62.here hx rfl (hb hby at_69) rfl ?_
      show Steps p.tables e below (T62.setTop (mkF m 70 #[.val (.long p0), .second, .val (.int p1), .val (.long (-7046029254386353131 : Int64)), .second, .val (.int (2 : Int32)), .val (.ref b52), .val (.long (own_mix (((p0 + (-7046029254386353131 : Int64)) + (-7046029254386353131 : Int64)) + (-7046029254386353131 : Int64)))), .second, .unset, .unset, .unset, .unset, .unset, .unset, .unset, .unset, .unset] [(.long p0), (.ref b62), (.ref b62)])) _
      refine XS.iload X62.here hx rfl (hb hby at_70) rfl ?_
      show Steps p.tables e below (T62.setTop (mkF m 72 #[.val (.long p0), .second, .val (.int p1), .val (.long (-7046029254386353131 : Int64)), .second, .val (.int (2 : Int32)), .val (.ref b52), .val (.long (own_mix (((p0 + (-7046029254386353131 : Int64)) + (-7046029254386353131 : Int64)) + (-7046029254386353131 : Int64)))), .second, .unset, .unset, .unset, .unset, .unset, .unset, .unset, .unset, .unset] [(.int (2 : Int32)), (.long p0), (.ref b62), (.ref b62)])) _
      refine XS.i2l X62.here hx rfl (hb hby at_72) rfl ?_
      show Steps p.tables e below (T62.setTop (mkF m 73 #[.val (.long p0), .second, .val (.int p1), .val (.long (-7046029254386353131 : Int64)), .second, .val (.int (2 : Int32)), .val (.ref b52), .val (.long (own_mix (((p0 + (-7046029254386353131 : Int64)) + (-7046029254386353131 : Int64)) + (-7046029254386353131 : Int64)))), .second, .unset, .unset, .unset, .unset, .unset, .unset, .unset, .unset, .unset] [(.long (2 : Int32).toInt64), (.long p0), (.ref b62), (.ref b62)])) _
      refine XS.lloadN X62.here hx rfl (hb hby at_73) rfl ?_
      show Steps p.tables e below (T62.setTop (mkF m 74 #[.val (.long p0), .second, .val (.int p1), .val (.long (-7046029254386353131 : Int64)), .second, .val (.int (2 : Int32)), .val (.ref b52), .val (.long (own_mix (((p0 + (-7046029254386353131 : Int64)) + (-7046029254386353131 : Int64)) + (-7046029254386353131 : Int64)))), .second, .unset, .unset, .unset, .unset, .unset, .unset, .unset, .unset, .unset] [(.long (-7046029254386353131 : Int64)), (.long (2 : Int32).toInt64), (.long p0), (.ref b62), (.ref b62)])) _
      refine XS.lmul X62.here hx rfl (hb hby at_74) rfl ?_
      show Steps p.tables e below (T62.setTop (mkF m 75 #[.val (.long p0), .second, .val (.int p1), .val (.long (-7046029254386353131 : Int64)), .second, .val (.int (2 : Int32)), .val (.ref b52), .val (.long (own_mix (((p0 + (-7046029254386353131 : Int64)) + (-7046029254386353131 : Int64)) + (-7046029254386353131 : Int64)))), .second, .unset, .unset, .unset, .unset, .unset, .unset, .unset, .unset, .unset] [(.long ((2 : Int32).toInt64 * (-7046029254386353131 : Int64))), (.long p0), (.ref b62), (.ref b62)])) _
      refine XS.ladd X62.here hx rfl (hb hby at_75) rfl ?_
      show Steps p.tables e below (T62.setTop (mkF m 76 #[.val (.long p0), .second, .val (.int p1), .val (.long (-7046029254386353131 : Int64)), .second, .val (.int (2 : Int32)), .val (.ref b52), .val (.long (own_mix (((p0 + (-7046029254386353131 : Int64)) + (-7046029254386353131 : Int64)) + (-7046029254386353131 : Int64)))), .second, .unset, .unset, .unset, .unset, .unset, .unset, .unset, .unset, .unset] [(.long (p0 + ((2 : Int32).toInt64 * (-7046029254386353131 : Int64)))), (.ref b62), (.ref b62)])) _
      exact k
    refine own_go k64 ?_
    clear k64
    obtain ⟨_, _, ⟨T63, L63, k63, n63⟩, -, X63, ⟨Lc63, hQ63, l63, y63, z63⟩, st63⟩ := X62.specialBack hx (y := (⟨"com/example/composure/composure/generate/SplitMix64", "<init>", "(J)V"⟩ : MethodName)) rfl hown (mvT hZ (hw _ (List.mem_of_getElem? (i := 4) rfl))) (mvT hZ (hw _ (List.mem_of_getElem? (i := 5) rfl))) (mvT hZ (hw _ (List.mem_of_getElem? (i := 6) rfl))) (by decide) (backOf (W := 1) (own_rm_init l Z a0 hw [] b62 (p0 + ((2 : Int32).toInt64 * (-7046029254386353131 : Int64))) (0 : Int64) h62 n0 Z62 F62_state A62 g_b62) hZ (hw _ (List.mem_of_getElem? (i := 6) rfl)) (hw _ (List.mem_of_getElem? (i := 3) rfl)) (by decide) (by decide)) (g := (mkF m 76 #[.val (.long p0), .second, .val (.int p1), .val (.long (-7046029254386353131 : Int64)), .second, .val (.int (2 : Int32)), .val (.ref b52), .val (.long (own_mix (((p0 + (-7046029254386353131 : Int64)) + (-7046029254386353131 : Int64)) + (-7046029254386353131 : Int64)))), .second, .unset, .unset, .unset, .unset, .unset, .unset, .unset, .unset, .unset] [(.long (p0 + ((2 : Int32).toInt64 * (-7046029254386353131 : Int64)))), (.ref b62), (.ref b62)])) rfl (by rw [hml]; rfl) (Steps.refl _) (a := b62) (argsL := [(.long (p0 + ((2 : Int32).toInt64 * (-7046029254386353131 : Int64))))]) (rest := [(.ref b62)]) (lenOf own_pd_28J29V rfl) rfl (by show 2 * 0 + _ ≤ _; exact Nat.le_of_eq rfl) (hb hby at_76) (fun _ _ => ⟨rfl, e62, (by decide : 2 + 0 ≤ _), (by decide : 2 + 0 ≤ _)⟩)
    dsimp only [Pt.U, Pt.locs, Pt.cells, Pt.slots] at X63 l63 y63 z63 st63 hQ63
    subst l63 y63 z63
    obtain ⟨rfl, N63q, K63q, p63_0, p63_1⟩ := hQ63
    have N63 := Fr.app N59 N63q
    have f63_0 : Exa Z T63.heap b52 "com/example/composure/composure/generate/SplitMix64" := f62_0.keep K63q
    have f63_1 : Fld Z T63.heap b52 "com/example/composure/composure/generate/SplitMix64" "state" "J" (.long (((p0 + (-7046029254386353131 : Int64)) + (-7046029254386353131 : Int64)) + (-7046029254386353131 : Int64))) := f62_1.keep K63q (ninS ne_b52_b62 nin0)
    have Z63 : n0 ≤ T63.heap.size := Nat.le_trans Z62 K63q.1
    refine own_go (fun _ k => st63.trans k) ?_
    have k66 : ∀ t, Steps p.tables e below (T63.setTop (mkF m 83 #[.val (.long p0), .second, .val (.int p1), .val (.long (-7046029254386353131 : Int64)), .second, .val (.int (2 : Int32)), .val (.ref b52), .val (.long (own_mix (((p0 + (-7046029254386353131 : Int64)) + (-7046029254386353131 : Int64)) + (-7046029254386353131 : Int64)))), .second, .val (.ref b62), .unset, .unset, .unset, .unset, .unset, .unset, .unset, .unset] [(.ref b62)])) t → Steps p.tables e below (T63.setTop (mkF m 79 #[.val (.long p0), .second, .val (.int p1), .val (.long (-7046029254386353131 : Int64)), .second, .val (.int (2 : Int32)), .val (.ref b52), .val (.long (own_mix (((p0 + (-7046029254386353131 : Int64)) + (-7046029254386353131 : Int64)) + (-7046029254386353131 : Int64)))), .second, .unset, .unset, .unset, .unset, .unset, .unset, .unset, .unset, .unset] [(.ref b62)])) t := fun t k => by
      refine XS.astore X63.here hx rfl (hb hby at_79) rfl rfl (l' := #[.val (.long p0), .second, .val (.int p1), .val (.long (-7046029254386353131 : Int64)), .second, .val (.int (2 : Int32)), .val (.ref b52), .val (.long (own_mix (((p0 + (-7046029254386353131 : Int64)) + (-7046029254386353131 : Int64)) + (-7046029254386353131 : Int64)))), .second, .val (.ref b62), .unset, .unset, .unset, .unset, .unset, .unset, .unset, .unset]) rfl ?_
      show Steps p.tables e below (T63.setTop (mkF m 81 #[.val (.long p0), .second, .val (.int p1), .val (.long (-7046029254386353131 : Int64)), .second, .val (.int (2 : Int32)), .val (.ref b52), .val (.long (own_mix (((p0 + (-7046029254386353131 : Int64)) + (-7046029254386353131 : Int64)) + (-7046029254386353131 : Int64)))), .second, .val (.ref b62), .unset, .unset, .unset, .unset, .unset, .unset, .unset, .unset] [])) _
      refine XS.aload X63.here hx rfl (hb hby at_81) rfl rfl ?_
      show Steps p.tables e below (T63.setTop (mkF m 83 #[.val (.long p0), .second, .val (.int p1), .val (.long (-7046029254386353131 : Int64)), .second, .val (.int (2 : Int32)), .val (.ref b52), .val (.long (own_mix (((p0 + (-7046029254386353131 : Int64)) + (-7046029254386353131 : Int64)) + (-7046029254386353131 : Int64)))), .second, .val (.ref b62), .unset, .unset, .unset, .unset, .unset, .unset, .unset, .unset] [(.ref b62)])) _
      exact k
    refine own_go k66 ?_
    clear k66
    obtain ⟨cq65, kq65, q65a, q65b, q65c⟩ := isOf hZ rfl p63_0
    obtain ⟨_, _, ⟨T65, L65, k65, n65⟩, -, X65, ⟨Lc65, hQ65, l65, y65, z65⟩, st65⟩ := X63.virtualBack hx (y := (⟨"com/example/composure/composure/generate/SplitMix64", "next", "()J"⟩ : MethodName)) (z := (⟨"com/example/composure/composure/generate/SplitMix64", "next", "()J"⟩ : MethodName)) hown (mvT hZ (hw _ (List.mem_of_getElem? (i := 12) rfl))) (mvT hZ (hw _ (List.mem_of_getElem? (i := 13) rfl))) (notFace_of_selects (args := #[]) (mvT hZ (hw _ (List.mem_of_getElem? (i := 15) rfl)))) (mvT hZ (hw _ (List.mem_of_getElem? (i := 15) rfl))) (mvT hZ (hw _ (List.mem_of_getElem? (i := 14) rfl))) (by decide) (backOf (W := 0) (own_rm_next l Z a0 hw [] b62 (p0 + ((2 : Int32).toInt64 * (-7046029254386353131 : Int64))) T63.heap n0 Z63 p63_1 p63_0 g_b62) hZ (hw _ (List.mem_of_getElem? (i := 16) rfl)) (hw _ (List.mem_of_getElem? (i := 3) rfl)) (by decide) (by decide)) q65a q65c (g := (mkF m 83 #[.val (.long p0), .second, .val (.int p1), .val (.long (-7046029254386353131 : Int64)), .second, .val (.int (2 : Int32)), .val (.ref b52), .val (.long (own_mix (((p0 + (-7046029254386353131 : Int64)) + (-7046029254386353131 : Int64)) + (-7046029254386353131 : Int64)))), .second, .val (.ref b62), .unset, .unset, .unset, .unset, .unset, .unset, .unset, .unset] [(.ref b62)])) rfl (by rw [hml]; rfl) (Steps.refl _) (argsL := []) (rest := []) (lenOf own_pd_2829J rfl) rfl (by show 2 * 0 + _ ≤ _; exact Nat.le_of_eq rfl) (hb hby at_83) (fun _ _ => ⟨rfl, rfl, (by decide : 2 + 0 ≤ _), (by decide : 2 + 0 ≤ _)⟩)
    dsimp only [Pt.U, Pt.locs, Pt.cells, Pt.slots] at X65 l65 y65 z65 st65 hQ65
    subst l65 y65 z65
    obtain ⟨rfl, N65q, K65q, p65_0, p65_1⟩ := hQ65
    have N65 := Fr.app N63 N65q
    have f65_0 : Exa Z T65.heap b52 "com/example/composure/composure/generate/SplitMix64" := f63_0.keep K65q
    have f65_1 : Fld Z T65.heap b52 "com/example/composure/composure/generate/SplitMix64" "state" "J" (.long (((p0 + (-7046029254386353131 : Int64)) + (-7046029254386353131 : Int64)) + (-7046029254386353131 : Int64))) := f63_1.keep K65q (ninS ne_b52_b62 nin0)
    have Z65 : n0 ≤ T65.heap.size := Nat.le_trans Z63 K65q.1
    refine own_go (fun _ k => st65.trans k) ?_
    have k68 : ∀ t, Steps p.tables e below (T65.setTop (mkF m 101 #[.val (.long p0), .second, .val (.int p1), .val (.long (-7046029254386353131 : Int64)), .second, .val (.int (2 : Int32)), .val (.ref b52), .val (.long (own_mix (((p0 + (-7046029254386353131 : Int64)) + (-7046029254386353131 : Int64)) + (-7046029254386353131 : Int64)))), .second, .val (.ref b62), .val (.int (1 : Int32)), .unset, .unset, .unset, .unset, .unset, .unset, .unset] [(.int (2 : Int32))])) t → Steps p.tables e below (T65.setTop (mkF m 86 #[.val (.long p0), .second, .val (.int p1), .val (.long (-7046029254386353131 : Int64)), .second, .val (.int (2 : Int32)), .val (.ref b52), .val (.long (own_mix (((p0 + (-7046029254386353131 : Int64)) + (-7046029254386353131 : Int64)) + (-7046029254386353131 : Int64)))), .second, .val (.ref b62), .unset, .unset, .unset, .unset, .unset, .unset, .unset, .unset] [(.long (own_mix ((p0 + ((2 : Int32).toInt64 * (-7046029254386353131 : Int64))) + (-7046029254386353131 : Int64))))])) t := fun t k => by
      refine XS.lload X65.here hx rfl (hb hby at_86) rfl ?_
      show Steps p.tables e below (T65.setTop (mkF m 88 #[.val (.long p0), .second, .val (.int p1), .val (.long (-7046029254386353131 : Int64)), .second, .val (.int (2 : Int32)), .val (.ref b52), .val (.long (own_mix (((p0 + (-7046029254386353131 : Int64)) + (-7046029254386353131 : Int64)) + (-7046029254386353131 : Int64)))), .second, .val (.ref b62), .unset, .unset, .unset, .unset, .unset, .unset, .unset, .unset] [(.long (own_mix (((p0 + (-7046029254386353131 : Int64)) + (-7046029254386353131 : Int64)) + (-7046029254386353131 : Int64)))), (.long (own_mix ((p0 + ((2 : Int32).toInt64 * (-7046029254386353131 : Int64))) + (-7046029254386353131 : Int64))))])) _
      refine XS.lcmp X65.here hx rfl (hb hby at_88) rfl ?_
      show Steps p.tables e below (T65.setTop (mkF m 89 #[.val (.long p0), .second, .val (.int p1), .val (.long (-7046029254386353131 : Int64)), .second, .val (.int (2 : Int32)), .val (.ref b52), .val (.long (own_mix (((p0 + (-7046029254386353131 : Int64)) + (-7046029254386353131 : Int64)) + (-7046029254386353131 : Int64)))), .second, .val (.ref b62), .unset, .unset, .unset, .unset, .unset, .unset, .unset, .unset] [(.int (lcmpW (own_mix ((p0 + ((2 : Int32).toInt64 * (-7046029254386353131 : Int64))) + (-7046029254386353131 : Int64))) (own_mix (((p0 + (-7046029254386353131 : Int64)) + (-7046029254386353131 : Int64)) + (-7046029254386353131 : Int64)))))])) _
      refine XS.ifNo X65.here hx rfl (hb hby at_89) rfl ((if0 _ _).trans (teq ((lw_eq _ _).mpr (congrArg own_mix (by simp only [Int64.add_assoc]; congr 1)))).2) ?_
      show Steps p.tables e below (T65.setTop (mkF m 92 #[.val (.long p0), .second, .val (.int p1), .val (.long (-7046029254386353131 : Int64)), .second, .val (.int (2 : Int32)), .val (.ref b52), .val (.long (own_mix (((p0 + (-7046029254386353131 : Int64)) + (-7046029254386353131 : Int64)) + (-7046029254386353131 : Int64)))), .second, .val (.ref b62), .unset, .unset, .unset, .unset, .unset, .unset, .unset, .unset] [])) _
      refine XS.iconst X65.here hx rfl (hb hby at_92) ?_
      show Steps p.tables e below (T65.setTop (mkF m 93 #[.val (.long p0), .second, .val (.int p1), .val (.long (-7046029254386353131 : Int64)), .second, .val (.int (2 : Int32)), .val (.ref b52), .val (.long (own_mix (((p0 + (-7046029254386353131 : Int64)) + (-7046029254386353131 : Int64)) + (-7046029254386353131 : Int64)))), .second, .val (.ref b62), .unset, .unset, .unset, .unset, .unset, .unset, .unset, .unset] [(.int (1 : Int32))])) _
      refine XS.goto X65.here hx rfl (pc0 := 93) (pc' := 97) rfl (hb hby at_93) (by decide) (by decide) ?_
      show Steps p.tables e below (T65.setTop (mkF m 97 #[.val (.long p0), .second, .val (.int p1), .val (.long (-7046029254386353131 : Int64)), .second, .val (.int (2 : Int32)), .val (.ref b52), .val (.long (own_mix (((p0 + (-7046029254386353131 : Int64)) + (-7046029254386353131 : Int64)) + (-7046029254386353131 : Int64)))), .second, .val (.ref b62), .unset, .unset, .unset, .unset, .unset, .unset, .unset, .unset] [(.int (1 : Int32))])) _
      refine XS.istore X65.here hx rfl (hb hby at_97) rfl (l' := #[.val (.long p0), .second, .val (.int p1), .val (.long (-7046029254386353131 : Int64)), .second, .val (.int (2 : Int32)), .val (.ref b52), .val (.long (own_mix (((p0 + (-7046029254386353131 : Int64)) + (-7046029254386353131 : Int64)) + (-7046029254386353131 : Int64)))), .second, .val (.ref b62), .val (.int (1 : Int32)), .unset, .unset, .unset, .unset, .unset, .unset, .unset]) rfl ?_
      show Steps p.tables e below (T65.setTop (mkF m 99 #[.val (.long p0), .second, .val (.int p1), .val (.long (-7046029254386353131 : Int64)), .second, .val (.int (2 : Int32)), .val (.ref b52), .val (.long (own_mix (((p0 + (-7046029254386353131 : Int64)) + (-7046029254386353131 : Int64)) + (-7046029254386353131 : Int64)))), .second, .val (.ref b62), .val (.int (1 : Int32)), .unset, .unset, .unset, .unset, .unset, .unset, .unset] [])) _
      refine XS.iload X65.here hx rfl (hb hby at_99) rfl ?_
      show Steps p.tables e below (T65.setTop (mkF m 101 #[.val (.long p0), .second, .val (.int p1), .val (.long (-7046029254386353131 : Int64)), .second, .val (.int (2 : Int32)), .val (.ref b52), .val (.long (own_mix (((p0 + (-7046029254386353131 : Int64)) + (-7046029254386353131 : Int64)) + (-7046029254386353131 : Int64)))), .second, .val (.ref b62), .val (.int (1 : Int32)), .unset, .unset, .unset, .unset, .unset, .unset, .unset] [(.int (2 : Int32))])) _
      exact k
    refine own_go k68 ?_
    clear k68
    obtain ⟨_, _, ⟨T67, L67, k67, n67⟩, -, X67, ⟨Lc67, hQ67, l67, y67, z67⟩, st67⟩ := Jvm.LawKit.callS X65 hx (y := (⟨"com/example/composure/composure/generate/SplitMix64NextPinLaw", "ref", "(I)J"⟩ : MethodName)) hown (mvT hZ (hw _ (List.mem_of_getElem? (i := 20) rfl))) (mvT hZ (hw _ (List.mem_of_getElem? (i := 21) rfl))) (mvT hZ (hw _ (List.mem_of_getElem? (i := 22) rfl))) (mvT hZ (hw _ (List.mem_of_getElem? (i := 23) rfl))) (by decide) (backOf (W := 0) (own_rm_ref l Z a0 hw [] (2 : Int32) T65.heap n0 Z65 ) hZ (hw _ (List.mem_of_getElem? (i := 23) rfl)) (hw _ (List.mem_of_getElem? (i := 22) rfl)) (by decide) (by decide)) (g := (mkF m 101 #[.val (.long p0), .second, .val (.int p1), .val (.long (-7046029254386353131 : Int64)), .second, .val (.int (2 : Int32)), .val (.ref b52), .val (.long (own_mix (((p0 + (-7046029254386353131 : Int64)) + (-7046029254386353131 : Int64)) + (-7046029254386353131 : Int64)))), .second, .val (.ref b62), .val (.int (1 : Int32)), .unset, .unset, .unset, .unset, .unset, .unset, .unset] [(.int (2 : Int32))])) rfl (by rw [hml]; rfl) (argsL := [(.int (2 : Int32))]) (rest := []) (lenOf own_pd_28I29J rfl) rfl (by show 2 * 0 + _ ≤ _; exact Nat.le_of_eq rfl) (hb hby at_101) (fun _ _ => ⟨rfl, rfl, (by decide : 2 + 0 ≤ _), (by decide : 2 + 0 ≤ _)⟩)
    dsimp only [Pt.U, Pt.locs, Pt.cells, Pt.slots] at X67 l67 y67 z67 st67 hQ67
    subst l67 y67 z67
    obtain ⟨rfl, N67q, eh67⟩ := hQ67
    have N67 := Fr.app N65 N67q
    refine own_go st67 ?_
    have k70 : ∀ t, Steps p.tables e below (T67.setTop (mkF m 110 #[.val (.long p0), .second, .val (.int p1), .val (.long (-7046029254386353131 : Int64)), .second, .val (.int (2 : Int32)), .val (.ref b52), .val (.long (own_mix (((p0 + (-7046029254386353131 : Int64)) + (-7046029254386353131 : Int64)) + (-7046029254386353131 : Int64)))), .second, .val (.ref b62), .val (.int (1 : Int32)), .val (.long (own_ref (2 : Int32))), .second, .unset, .unset, .unset, .unset, .unset] [(.int ((2 : Int32) + (1 : Int32)))])) t → Steps p.tables e below (T67.setTop (mkF m 104 #[.val (.long p0), .second, .val (.int p1), .val (.long (-7046029254386353131 : Int64)), .second, .val (.int (2 : Int32)), .val (.ref b52), .val (.long (own_mix (((p0 + (-7046029254386353131 : Int64)) + (-7046029254386353131 : Int64)) + (-7046029254386353131 : Int64)))), .second, .val (.ref b62), .val (.int (1 : Int32)), .unset, .unset, .unset, .unset, .unset, .unset, .unset] [(.long (own_ref (2 : Int32)))])) t := fun t k => by
      refine XS.lstore X67.here hx rfl (hb hby at_104) rfl (l' := #[.val (.long p0), .second, .val (.int p1), .val (.long (-7046029254386353131 : Int64)), .second, .val (.int (2 : Int32)), .val (.ref b52), .val (.long (own_mix (((p0 + (-7046029254386353131 : Int64)) + (-7046029254386353131 : Int64)) + (-7046029254386353131 : Int64)))), .second, .val (.ref b62), .val (.int (1 : Int32)), .val (.long (own_ref (2 : Int32))), .second, .unset, .unset, .unset, .unset, .unset]) rfl ?_
      show Steps p.tables e below (T67.setTop (mkF m 106 #[.val (.long p0), .second, .val (.int p1), .val (.long (-7046029254386353131 : Int64)), .second, .val (.int (2 : Int32)), .val (.ref b52), .val (.long (own_mix (((p0 + (-7046029254386353131 : Int64)) + (-7046029254386353131 : Int64)) + (-7046029254386353131 : Int64)))), .second, .val (.ref b62), .val (.int (1 : Int32)), .val (.long (own_ref (2 : Int32))), .second, .unset, .unset, .unset, .unset, .unset] [])) _
      refine XS.iload X67.here hx rfl (hb hby at_106) rfl ?_
      show Steps p.tables e below (T67.setTop (mkF m 108 #[.val (.long p0), .second, .val (.int p1), .val (.long (-7046029254386353131 : Int64)), .second, .val (.int (2 : Int32)), .val (.ref b52), .val (.long (own_mix (((p0 + (-7046029254386353131 : Int64)) + (-7046029254386353131 : Int64)) + (-7046029254386353131 : Int64)))), .second, .val (.ref b62), .val (.int (1 : Int32)), .val (.long (own_ref (2 : Int32))), .second, .unset, .unset, .unset, .unset, .unset] [(.int (2 : Int32))])) _
      refine XS.iconst X67.here hx rfl (hb hby at_108) ?_
      show Steps p.tables e below (T67.setTop (mkF m 109 #[.val (.long p0), .second, .val (.int p1), .val (.long (-7046029254386353131 : Int64)), .second, .val (.int (2 : Int32)), .val (.ref b52), .val (.long (own_mix (((p0 + (-7046029254386353131 : Int64)) + (-7046029254386353131 : Int64)) + (-7046029254386353131 : Int64)))), .second, .val (.ref b62), .val (.int (1 : Int32)), .val (.long (own_ref (2 : Int32))), .second, .unset, .unset, .unset, .unset, .unset] [(.int (1 : Int32)), (.int (2 : Int32))])) _
      refine XS.iadd X67.here hx rfl (hb hby at_109) rfl ?_
      show Steps p.tables e below (T67.setTop (mkF m 110 #[.val (.long p0), .second, .val (.int p1), .val (.long (-7046029254386353131 : Int64)), .second, .val (.int (2 : Int32)), .val (.ref b52), .val (.long (own_mix (((p0 + (-7046029254386353131 : Int64)) + (-7046029254386353131 : Int64)) + (-7046029254386353131 : Int64)))), .second, .val (.ref b62), .val (.int (1 : Int32)), .val (.long (own_ref (2 : Int32))), .second, .unset, .unset, .unset, .unset, .unset] [(.int ((2 : Int32) + (1 : Int32)))])) _
      exact k
    refine own_go k70 ?_
    clear k70
    obtain ⟨_, _, ⟨T69, L69, k69, n69⟩, -, X69, ⟨Lc69, hQ69, l69, y69, z69⟩, st69⟩ := Jvm.LawKit.callS X67 hx (y := (⟨"com/example/composure/composure/generate/SplitMix64NextPinLaw", "ref", "(I)J"⟩ : MethodName)) hown (mvT hZ (hw _ (List.mem_of_getElem? (i := 20) rfl))) (mvT hZ (hw _ (List.mem_of_getElem? (i := 21) rfl))) (mvT hZ (hw _ (List.mem_of_getElem? (i := 22) rfl))) (mvT hZ (hw _ (List.mem_of_getElem? (i := 23) rfl))) (by decide) (backOf (W := 0) (own_rm_ref l Z a0 hw [] ((2 : Int32) + (1 : Int32)) T65.heap n0 Z65 ) hZ (hw _ (List.mem_of_getElem? (i := 23) rfl)) (hw _ (List.mem_of_getElem? (i := 22) rfl)) (by decide) (by decide)) (g := (mkF m 110 #[.val (.long p0), .second, .val (.int p1), .val (.long (-7046029254386353131 : Int64)), .second, .val (.int (2 : Int32)), .val (.ref b52), .val (.long (own_mix (((p0 + (-7046029254386353131 : Int64)) + (-7046029254386353131 : Int64)) + (-7046029254386353131 : Int64)))), .second, .val (.ref b62), .val (.int (1 : Int32)), .val (.long (own_ref (2 : Int32))), .second, .unset, .unset, .unset, .unset, .unset] [(.int ((2 : Int32) + (1 : Int32)))])) rfl (by rw [hml]; rfl) (argsL := [(.int ((2 : Int32) + (1 : Int32)))]) (rest := []) (lenOf own_pd_28I29J rfl) rfl (by show 2 * 0 + _ ≤ _; exact Nat.le_of_eq rfl) (hb hby at_110) (fun _ _ => ⟨rfl, eh67, (by decide : 2 + 0 ≤ _), (by decide : 2 + 0 ≤ _)⟩)
    dsimp only [Pt.U, Pt.locs, Pt.cells, Pt.slots] at X69 l69 y69 z69 st69 hQ69
    subst l69 y69 z69
    obtain ⟨rfl, N69q, eh69⟩ := hQ69
    have N69 := Fr.app N67 N69q
    refine own_go st69 ?_
    have k71 : ∀ t, Steps p.tables e below (T69.setTop (mkF m 115 #[.val (.long p0), .second, .val (.int p1), .val (.long (-7046029254386353131 : Int64)), .second, .val (.int (2 : Int32)), .val (.ref b52), .val (.long (own_mix (((p0 + (-7046029254386353131 : Int64)) + (-7046029254386353131 : Int64)) + (-7046029254386353131 : Int64)))), .second, .val (.ref b62), .val (.int (1 : Int32)), .val (.long (own_ref (2 : Int32))), .second, .val (.long (own_ref ((2 : Int32) + (1 : Int32)))), .second, .unset, .unset, .unset] [])) t → Steps p.tables e below (T69.setTop (mkF m 113 #[.val (.long p0), .second, .val (.int p1), .val (.long (-7046029254386353131 : Int64)), .second, .val (.int (2 : Int32)), .val (.ref b52), .val (.long (own_mix (((p0 + (-7046029254386353131 : Int64)) + (-7046029254386353131 : Int64)) + (-7046029254386353131 : Int64)))), .second, .val (.ref b62), .val (.int (1 : Int32)), .val (.long (own_ref (2 : Int32))), .second, .unset, .unset, .unset, .unset, .unset] [(.long (own_ref ((2 : Int32) + (1 : Int32))))])) t := fun t k => by
      refine XS.lstore X69.here hx rfl (hb hby at_113) rfl (l' := #[.val (.long p0), .second, .val (.int p1), .val (.long (-7046029254386353131 : Int64)), .second, .val (.int (2 : Int32)), .val (.ref b52), .val (.long (own_mix (((p0 + (-7046029254386353131 : Int64)) + (-7046029254386353131 : Int64)) + (-7046029254386353131 : Int64)))), .second, .val (.ref b62), .val (.int (1 : Int32)), .val (.long (own_ref (2 : Int32))), .second, .val (.long (own_ref ((2 : Int32) + (1 : Int32)))), .second, .unset, .unset, .unset]) rfl ?_
      show Steps p.tables e below (T69.setTop (mkF m 115 #[.val (.long p0), .second, .val (.int p1), .val (.long (-7046029254386353131 : Int64)), .second, .val (.int (2 : Int32)), .val (.ref b52), .val (.long (own_mix (((p0 + (-7046029254386353131 : Int64)) + (-7046029254386353131 : Int64)) + (-7046029254386353131 : Int64)))), .second, .val (.ref b62), .val (.int (1 : Int32)), .val (.long (own_ref (2 : Int32))), .second, .val (.long (own_ref ((2 : Int32) + (1 : Int32)))), .second, .unset, .unset, .unset] [])) _
      exact k
    refine own_go k71 ?_
    clear k71
    obtain ⟨T72, h72, X72, e72, E72, A72, D72, -, st72⟩ := newO X69 hx hZ hown (hw _ (List.mem_of_getElem? (i := 1) rfl)) (hw _ (List.mem_of_getElem? (i := 2) rfl)) (hw _ (List.mem_of_getElem? (i := 3) rfl)) eh69 (g := (mkF m 115 #[.val (.long p0), .second, .val (.int p1), .val (.long (-7046029254386353131 : Int64)), .second, .val (.int (2 : Int32)), .val (.ref b52), .val (.long (own_mix (((p0 + (-7046029254386353131 : Int64)) + (-7046029254386353131 : Int64)) + (-7046029254386353131 : Int64)))), .second, .val (.ref b62), .val (.int (1 : Int32)), .val (.long (own_ref (2 : Int32))), .second, .val (.long (own_ref ((2 : Int32) + (1 : Int32)))), .second, .unset, .unset, .unset] [])) rfl (hb hby at_115) (by decide) (by decide)
    obtain ⟨b72, g72⟩ : ∃ z, z = T65.heap.size := ⟨_, rfl⟩
    rw [← g72] at A72 D72 st72
    refine own_go st72 ?_
    have ne_b52_b72 : b52 ≠ b72 := Nat.ne_of_lt (Nat.lt_of_lt_of_le f65_0.lt (Nat.le_of_eq g72.symm))
    have ne_b62_b72 : b62 ≠ b72 := Nat.ne_of_lt (Nat.lt_of_lt_of_le p65_0.lt (Nat.le_of_eq g72.symm))
    have f72_0 : Exa Z h72 b52 "com/example/composure/composure/generate/SplitMix64" := f65_0.ext E72
    have f72_1 : Fld Z h72 b52 "com/example/composure/composure/generate/SplitMix64" "state" "J" (.long (((p0 + (-7046029254386353131 : Int64)) + (-7046029254386353131 : Int64)) + (-7046029254386353131 : Int64))) := f65_1.ext E72
    have f72_2 : Exa Z h72 b62 "com/example/composure/composure/generate/SplitMix64" := p65_0.ext E72
    have f72_3 : Fld Z h72 b62 "com/example/composure/composure/generate/SplitMix64" "state" "J" (.long ((p0 + ((2 : Int32).toInt64 * (-7046029254386353131 : Int64))) + (-7046029254386353131 : Int64))) := p65_1.ext E72
    have g_b72 : n0 ≤ b72 := Nat.le_trans Z65 (Nat.le_of_eq g72.symm)
    have Z72 : n0 ≤ h72.size := Nat.le_trans Z65 E72.1
    have F72_state : Fld Z h72 b72 "com/example/composure/composure/generate/SplitMix64" "state" "J" (.long (0 : Int64)) := D72 (Or.inl (hw _ (List.mem_of_getElem? (i := 11) rfl))) (ty := .long) (by decide)
    have k74 : ∀ t, Steps p.tables e below (T72.setTop (mkF m 128 #[.val (.long p0), .second, .val (.int p1), .val (.long (-7046029254386353131 : Int64)), .second, .val (.int (2 : Int32)), .val (.ref b52), .val (.long (own_mix (((p0 + (-7046029254386353131 : Int64)) + (-7046029254386353131 : Int64)) + (-7046029254386353131 : Int64)))), .second, .val (.ref b62), .val (.int (1 : Int32)), .val (.long (own_ref (2 : Int32))), .second, .val (.long (own_ref ((2 : Int32) + (1 : Int32)))), .second, .unset, .unset, .unset] [(.long ((1234567 : Int64) + ((2 : Int32).toInt64 * (-7046029254386353131 : Int64)))), (.ref b72), (.ref b72)])) t → Steps p.tables e below (T72.setTop (mkF m 118 #[.val (.long p0), .second, .val (.int p1), .val (.long (-7046029254386353131 : Int64)), .second, .val (.int (2 : Int32)), .val (.ref b52), .val (.long (own_mix (((p0 + (-7046029254386353131 : Int64)) + (-7046029254386353131 : Int64)) + (-7046029254386353131 : Int64)))), .second, .val (.ref b62), .val (.int (1 : Int32)), .val (.long (own_ref (2 : Int32))), .second, .val (.long (own_ref ((2 : Int32) + (1 : Int32)))), .second, .unset, .unset, .unset] [(.ref b72)])) t := fun t k => by
      refine XS.dup X72.here hx rfl (hb hby at_118) rfl rfl ?_
      show Steps p.tables e below (T72.setTop (mkF m 119 #[.val (.long p0), .second, .val (.int p1), .val (.long (-7046029254386353131 : Int64)), .second, .val (.int (2 : Int32)), .val (.ref b52), .val (.long (own_mix (((p0 + (-7046029254386353131 : Int64)) + (-7046029254386353131 : Int64)) + (-7046029254386353131 : Int64)))), .second, .val (.ref b62), .val (.int (1 : Int32)), .val (.long (own_ref (2 : Int32))), .second, .val (.long (own_ref ((2 : Int32) + (1 : Int32)))), .second, .unset, .unset, .unset] [(.ref b72), (.ref b72)])) _
      refine X72.ldc2Long hx hown (mvT hZ (hw _ (List.mem_of_getElem? (i := 26) rfl))) (g := (mkF m 119 #[.val (.long p0), .second, .val (.int p1), .val (.long (-7046029254386353131 : Int64)), .second, .val (.int (2 : Int32)), .val (.ref b52), .val (.long (own_mix (((p0 + (-7046029254386353131 : Int64)) + (-7046029254386353131 : Int64)) + (-7046029254386353131 : Int64)))), .second, .val (.ref b62), .val (.int (1 : Int32)), .val (.long (own_ref (2 : Int32))), .second, .val (.long (own_ref ((2 : Int32) + (1 : Int32)))), .second, .unset, .unset, .unset] [(.ref b72), (.ref b72)])) rfl (hb hby at_119) _ ?_
      show Steps p.tables e below (T72.setTop (mkF m 122 #[.val (.long p0), .second, .val (.int p1), .val (.long (-7046029254386353131 : Int64)), .second, .val (.int (2 : Int32)), .val (.ref b52), .val (.long (own_mix (((p0 + (-7046029254386353131 : Int64)) + (-7046029254386353131 : Int64)) + (-7046029254386353131 : Int64)))), .second, .val (.ref b62), .val (.int (1 : Int32)), .val (.long (own_ref (2 : Int32))), .second, .val (.long (own_ref ((2 : Int32) + (1 : Int32)))), .second, .unset, .unset, .unset] [(.long (1234567 : Int64)), (.ref b72), (.ref b72)])) _
      refine XS.iload X72.here hx rfl (hb hby at_122) rfl ?_
      show Steps p.tables e below (T72.setTop (mkF m 124 #[.val (.long p0), .second, .val (.int p1), .val (.long (-7046029254386353131 : Int64)), .second, .val (.int (2 : Int32)), .val (.ref b52), .val (.long (own_mix (((p0 + (-7046029254386353131 : Int64)) + (-7046029254386353131 : Int64)) + (-7046029254386353131 : Int64)))), .second, .val (.ref b62), .val (.int (1 : Int32)), .val (.long (own_ref (2 : Int32))), .second, .val (.long (own_ref ((2 : Int32) + (1 : Int32)))), .second, .unset, .unset, .unset] [(.int (2 : Int32)), (.long (1234567 : Int64)), (.ref b72), (.ref b72)])) _
      refine XS.i2l X72.here hx rfl (hb hby at_124) rfl ?_
      show Steps p.tables e below (T72.setTop (mkF m 125 #[.val (.long p0), .second, .val (.int p1), .val (.long (-7046029254386353131 : Int64)), .second, .val (.int (2 : Int32)), .val (.ref b52), .val (.long (own_mix (((p0 + (-7046029254386353131 : Int64)) + (-7046029254386353131 : Int64)) + (-7046029254386353131 : Int64)))), .second, .val (.ref b62), .val (.int (1 : Int32)), .val (.long (own_ref (2 : Int32))), .second, .val (.long (own_ref ((2 : Int32) + (1 : Int32)))), .second, .unset, .unset, .unset] [(.long (2 : Int32).toInt64), (.long (1234567 : Int64)), (.ref b72), (.ref b72)])) _
      refine XS.lloadN X72.here hx rfl (hb hby at_125) rfl ?_
      show Steps p.tables e below (T72.setTop (mkF m 126 #[.val (.long p0), .second, .val (.int p1), .val (.long (-7046029254386353131 : Int64)), .second, .val (.int (2 : Int32)), .val (.ref b52), .val (.long (own_mix (((p0 + (-7046029254386353131 : Int64)) + (-7046029254386353131 : Int64)) + (-7046029254386353131 : Int64)))), .second, .val (.ref b62), .val (.int (1 : Int32)), .val (.long (own_ref (2 : Int32))), .second, .val (.long (own_ref ((2 : Int32) + (1 : Int32)))), .second, .unset, .unset, .unset] [(.long (-7046029254386353131 : Int64)), (.long (2 : Int32).toInt64), (.long (1234567 : Int64)), (.ref b72), (.ref b72)])) _
      refine XS.lmul X72.here hx rfl (hb hby at_126) rfl ?_
      show Steps p.tables e below (T72.setTop (mkF m 127 #[.val (.long p0), .second, .val (.int p1), .val (.long (-7046029254386353131 : Int64)), .second, .val (.int (2 : Int32)), .val (.ref b52), .val (.long (own_mix (((p0 + (-7046029254386353131 : Int64)) + (-7046029254386353131 : Int64)) + (-7046029254386353131 : Int64)))), .second, .val (.ref b62), .val (.int (1 : Int32)), .val (.long (own_ref (2 : Int32))), .second, .val (.long (own_ref ((2 : Int32) + (1 : Int32)))), .second, .unset, .unset, .unset] [(.long ((2 : Int32).toInt64 * (-7046029254386353131 : Int64))), (.long (1234567 : Int64)), (.ref b72), (.ref b72)])) _
      refine XS.ladd X72.here hx rfl (hb hby at_127) rfl ?_
      show Steps p.tables e below (T72.setTop (mkF m 128 #[.val (.long p0), .second, .val (.int p1), .val (.long (-7046029254386353131 : Int64)), .second, .val (.int (2 : Int32)), .val (.ref b52), .val (.long (own_mix (((p0 + (-7046029254386353131 : Int64)) + (-7046029254386353131 : Int64)) + (-7046029254386353131 : Int64)))), .second, .val (.ref b62), .val (.int (1 : Int32)), .val (.long (own_ref (2 : Int32))), .second, .val (.long (own_ref ((2 : Int32) + (1 : Int32)))), .second, .unset, .unset, .unset] [(.long ((1234567 : Int64) + ((2 : Int32).toInt64 * (-7046029254386353131 : Int64)))), (.ref b72), (.ref b72)])) _
      exact k
    refine own_go k74 ?_
    clear k74
    obtain ⟨_, _, ⟨T73, L73, k73, n73⟩, -, X73, ⟨Lc73, hQ73, l73, y73, z73⟩, st73⟩ := X72.specialBack hx (y := (⟨"com/example/composure/composure/generate/SplitMix64", "<init>", "(J)V"⟩ : MethodName)) rfl hown (mvT hZ (hw _ (List.mem_of_getElem? (i := 4) rfl))) (mvT hZ (hw _ (List.mem_of_getElem? (i := 5) rfl))) (mvT hZ (hw _ (List.mem_of_getElem? (i := 6) rfl))) (by decide) (backOf (W := 1) (own_rm_init l Z a0 hw [] b72 ((1234567 : Int64) + ((2 : Int32).toInt64 * (-7046029254386353131 : Int64))) (0 : Int64) h72 n0 Z72 F72_state A72 g_b72) hZ (hw _ (List.mem_of_getElem? (i := 6) rfl)) (hw _ (List.mem_of_getElem? (i := 3) rfl)) (by decide) (by decide)) (g := (mkF m 128 #[.val (.long p0), .second, .val (.int p1), .val (.long (-7046029254386353131 : Int64)), .second, .val (.int (2 : Int32)), .val (.ref b52), .val (.long (own_mix (((p0 + (-7046029254386353131 : Int64)) + (-7046029254386353131 : Int64)) + (-7046029254386353131 : Int64)))), .second, .val (.ref b62), .val (.int (1 : Int32)), .val (.long (own_ref (2 : Int32))), .second, .val (.long (own_ref ((2 : Int32) + (1 : Int32)))), .second, .unset, .unset, .unset] [(.long ((1234567 : Int64) + ((2 : Int32).toInt64 * (-7046029254386353131 : Int64)))), (.ref b72), (.ref b72)])) rfl (by rw [hml]; rfl) (Steps.refl _) (a := b72) (argsL := [(.long ((1234567 : Int64) + ((2 : Int32).toInt64 * (-7046029254386353131 : Int64))))]) (rest := [(.ref b72)]) (lenOf own_pd_28J29V rfl) rfl (by show 2 * 0 + _ ≤ _; exact Nat.le_of_eq rfl) (hb hby at_128) (fun _ _ => ⟨rfl, e72, (by decide : 3 + 0 ≤ _), (by decide : 3 + 0 ≤ _)⟩)
    dsimp only [Pt.U, Pt.locs, Pt.cells, Pt.slots] at X73 l73 y73 z73 st73 hQ73
    subst l73 y73 z73
    obtain ⟨rfl, N73q, K73q, p73_0, p73_1⟩ := hQ73
    have N73 := Fr.app N69 N73q
    have f73_0 : Exa Z T73.heap b52 "com/example/composure/composure/generate/SplitMix64" := f72_0.keep K73q
    have f73_1 : Fld Z T73.heap b52 "com/example/composure/composure/generate/SplitMix64" "state" "J" (.long (((p0 + (-7046029254386353131 : Int64)) + (-7046029254386353131 : Int64)) + (-7046029254386353131 : Int64))) := f72_1.keep K73q (ninS ne_b52_b72 nin0)
    have f73_2 : Exa Z T73.heap b62 "com/example/composure/composure/generate/SplitMix64" := f72_2.keep K73q
    have f73_3 : Fld Z T73.heap b62 "com/example/composure/composure/generate/SplitMix64" "state" "J" (.long ((p0 + ((2 : Int32).toInt64 * (-7046029254386353131 : Int64))) + (-7046029254386353131 : Int64))) := f72_3.keep K73q (ninS ne_b62_b72 nin0)
    have Z73 : n0 ≤ T73.heap.size := Nat.le_trans Z72 K73q.1
    refine own_go (fun _ k => st73.trans k) ?_
    have k76 : ∀ t, Steps p.tables e below (T73.setTop (mkF m 135 #[.val (.long p0), .second, .val (.int p1), .val (.long (-7046029254386353131 : Int64)), .second, .val (.int (2 : Int32)), .val (.ref b52), .val (.long (own_mix (((p0 + (-7046029254386353131 : Int64)) + (-7046029254386353131 : Int64)) + (-7046029254386353131 : Int64)))), .second, .val (.ref b62), .val (.int (1 : Int32)), .val (.long (own_ref (2 : Int32))), .second, .val (.long (own_ref ((2 : Int32) + (1 : Int32)))), .second, .val (.ref b72), .unset, .unset] [(.ref b72)])) t → Steps p.tables e below (T73.setTop (mkF m 131 #[.val (.long p0), .second, .val (.int p1), .val (.long (-7046029254386353131 : Int64)), .second, .val (.int (2 : Int32)), .val (.ref b52), .val (.long (own_mix (((p0 + (-7046029254386353131 : Int64)) + (-7046029254386353131 : Int64)) + (-7046029254386353131 : Int64)))), .second, .val (.ref b62), .val (.int (1 : Int32)), .val (.long (own_ref (2 : Int32))), .second, .val (.long (own_ref ((2 : Int32) + (1 : Int32)))), .second, .unset, .unset, .unset] [(.ref b72)])) t := fun t k => by
      refine XS.astore X73.here hx rfl (hb hby at_131) rfl rfl (l' := #[.val (.long p0), .second, .val (.int p1), .val (.long (-7046029254386353131 : Int64)), .second, .val (.int (2 : Int32)), .val (.ref b52), .val (.long (own_mix (((p0 + (-7046029254386353131 : Int64)) + (-7046029254386353131 : Int64)) + (-7046029254386353131 : Int64)))), .second, .val (.ref b62), .val (.int (1 : Int32)), .val (.long (own_ref (2 : Int32))), .second, .val (.long (own_ref ((2 : Int32) + (1 : Int32)))), .second, .val (.ref b72), .unset, .unset]) rfl ?_
      show Steps p.tables e below (T73.setTop (mkF m 133 #[.val (.long p0), .second, .val (.int p1), .val (.long (-7046029254386353131 : Int64)), .second, .val (.int (2 : Int32)), .val (.ref b52), .val (.long (own_mix (((p0 + (-7046029254386353131 : Int64)) + (-7046029254386353131 : Int64)) + (-7046029254386353131 : Int64)))), .second, .val (.ref b62), .val (.int (1 : Int32)), .val (.long (own_ref (2 : Int32))), .second, .val (.long (own_ref ((2 : Int32) + (1 : Int32)))), .second, .val (.ref b72), .unset, .unset] [])) _
      refine XS.aload X73.here hx rfl (hb hby at_133) rfl rfl ?_
      show Steps p.tables e below (T73.setTop (mkF m 135 #[.val (.long p0), .second, .val (.int p1), .val (.long (-7046029254386353131 : Int64)), .second, .val (.int (2 : Int32)), .val (.ref b52), .val (.long (own_mix (((p0 + (-7046029254386353131 : Int64)) + (-7046029254386353131 : Int64)) + (-7046029254386353131 : Int64)))), .second, .val (.ref b62), .val (.int (1 : Int32)), .val (.long (own_ref (2 : Int32))), .second, .val (.long (own_ref ((2 : Int32) + (1 : Int32)))), .second, .val (.ref b72), .unset, .unset] [(.ref b72)])) _
      exact k
    refine own_go k76 ?_
    clear k76
    obtain ⟨cq75, kq75, q75a, q75b, q75c⟩ := isOf hZ rfl p73_0
    obtain ⟨_, _, ⟨T75, L75, k75, n75⟩, -, X75, ⟨Lc75, hQ75, l75, y75, z75⟩, st75⟩ := X73.virtualBack hx (y := (⟨"com/example/composure/composure/generate/SplitMix64", "next", "()J"⟩ : MethodName)) (z := (⟨"com/example/composure/composure/generate/SplitMix64", "next", "()J"⟩ : MethodName)) hown (mvT hZ (hw _ (List.mem_of_getElem? (i := 12) rfl))) (mvT hZ (hw _ (List.mem_of_getElem? (i := 13) rfl))) (notFace_of_selects (args := #[]) (mvT hZ (hw _ (List.mem_of_getElem? (i := 15) rfl)))) (mvT hZ (hw _ (List.mem_of_getElem? (i := 15) rfl))) (mvT hZ (hw _ (List.mem_of_getElem? (i := 14) rfl))) (by decide) (backOf (W := 0) (own_rm_next l Z a0 hw [] b72 ((1234567 : Int64) + ((2 : Int32).toInt64 * (-7046029254386353131 : Int64))) T73.heap n0 Z73 p73_1 p73_0 g_b72) hZ (hw _ (List.mem_of_getElem? (i := 16) rfl)) (hw _ (List.mem_of_getElem? (i := 3) rfl)) (by decide) (by decide)) q75a q75c (g := (mkF m 135 #[.val (.long p0), .second, .val (.int p1), .val (.long (-7046029254386353131 : Int64)), .second, .val (.int (2 : Int32)), .val (.ref b52), .val (.long (own_mix (((p0 + (-7046029254386353131 : Int64)) + (-7046029254386353131 : Int64)) + (-7046029254386353131 : Int64)))), .second, .val (.ref b62), .val (.int (1 : Int32)), .val (.long (own_ref (2 : Int32))), .second, .val (.long (own_ref ((2 : Int32) + (1 : Int32)))), .second, .val (.ref b72), .unset, .unset] [(.ref b72)])) rfl (by rw [hml]; rfl) (Steps.refl _) (argsL := []) (rest := []) (lenOf own_pd_2829J rfl) rfl (by show 2 * 0 + _ ≤ _; exact Nat.le_of_eq rfl) (hb hby at_135) (fun _ _ => ⟨rfl, rfl, (by decide : 3 + 0 ≤ _), (by decide : 3 + 0 ≤ _)⟩)
    dsimp only [Pt.U, Pt.locs, Pt.cells, Pt.slots] at X75 l75 y75 z75 st75 hQ75
    subst l75 y75 z75
    obtain ⟨rfl, N75q, K75q, p75_0, p75_1⟩ := hQ75
    have N75 := Fr.app N73 N75q
    have f75_0 : Exa Z T75.heap b52 "com/example/composure/composure/generate/SplitMix64" := f73_0.keep K75q
    have f75_1 : Fld Z T75.heap b52 "com/example/composure/composure/generate/SplitMix64" "state" "J" (.long (((p0 + (-7046029254386353131 : Int64)) + (-7046029254386353131 : Int64)) + (-7046029254386353131 : Int64))) := f73_1.keep K75q (ninS ne_b52_b72 nin0)
    have f75_2 : Exa Z T75.heap b62 "com/example/composure/composure/generate/SplitMix64" := f73_2.keep K75q
    have f75_3 : Fld Z T75.heap b62 "com/example/composure/composure/generate/SplitMix64" "state" "J" (.long ((p0 + ((2 : Int32).toInt64 * (-7046029254386353131 : Int64))) + (-7046029254386353131 : Int64))) := f73_3.keep K75q (ninS ne_b62_b72 nin0)
    have Z75 : n0 ≤ T75.heap.size := Nat.le_trans Z73 K75q.1
    refine own_go (fun _ k => st75.trans k) ?_
    have k78 : ∀ t, Steps p.tables e below (T75.setTop (mkF m 153 #[.val (.long p0), .second, .val (.int p1), .val (.long (-7046029254386353131 : Int64)), .second, .val (.int (2 : Int32)), .val (.ref b52), .val (.long (own_mix (((p0 + (-7046029254386353131 : Int64)) + (-7046029254386353131 : Int64)) + (-7046029254386353131 : Int64)))), .second, .val (.ref b62), .val (.int (1 : Int32)), .val (.long (own_ref (2 : Int32))), .second, .val (.long (own_ref ((2 : Int32) + (1 : Int32)))), .second, .val (.ref b72), .val (.int (1 : Int32)), .unset] [(.ref b72)])) t → Steps p.tables e below (T75.setTop (mkF m 138 #[.val (.long p0), .second, .val (.int p1), .val (.long (-7046029254386353131 : Int64)), .second, .val (.int (2 : Int32)), .val (.ref b52), .val (.long (own_mix (((p0 + (-7046029254386353131 : Int64)) + (-7046029254386353131 : Int64)) + (-7046029254386353131 : Int64)))), .second, .val (.ref b62), .val (.int (1 : Int32)), .val (.long (own_ref (2 : Int32))), .second, .val (.long (own_ref ((2 : Int32) + (1 : Int32)))), .second, .val (.ref b72), .unset, .unset] [(.long (own_mix (((1234567 : Int64) + ((2 : Int32).toInt64 * (-7046029254386353131 : Int64))) + (-7046029254386353131 : Int64))))])) t := fun t k => by
      refine XS.lload X75.here hx rfl (hb hby at_138) rfl ?_
      show Steps p.tables e below (T75.setTop (mkF m 140 #[.val (.long p0), .second, .val (.int p1), .val (.long (-7046029254386353131 : Int64)), .second, .val (.int (2 : Int32)), .val (.ref b52), .val (.long (own_mix (((p0 + (-7046029254386353131 : Int64)) + (-7046029254386353131 : Int64)) + (-7046029254386353131 : Int64)))), .second, .val (.ref b62), .val (.int (1 : Int32)), .val (.long (own_ref (2 : Int32))), .second, .val (.long (own_ref ((2 : Int32) + (1 : Int32)))), .second, .val (.ref b72), .unset, .unset] [(.long (own_ref (2 : Int32))), (.long (own_mix (((1234567 : Int64) + ((2 : Int32).toInt64 * (-7046029254386353131 : Int64))) + (-7046029254386353131 : Int64))))])) _
      refine XS.lcmp X75.here hx rfl (hb hby at_140) rfl ?_
      show Steps p.tables e below (T75.setTop (mkF m 141 #[.val (.long p0), .second, .val (.int p1), .val (.long (-7046029254386353131 : Int64)), .second, .val (.int (2 : Int32)), .val (.ref b52), .val (.long (own_mix (((p0 + (-7046029254386353131 : Int64)) + (-7046029254386353131 : Int64)) + (-7046029254386353131 : Int64)))), .second, .val (.ref b62), .val (.int (1 : Int32)), .val (.long (own_ref (2 : Int32))), .second, .val (.long (own_ref ((2 : Int32) + (1 : Int32)))), .second, .val (.ref b72), .unset, .unset] [(.int (lcmpW (own_mix (((1234567 : Int64) + ((2 : Int32).toInt64 * (-7046029254386353131 : Int64))) + (-7046029254386353131 : Int64))) (own_ref (2 : Int32))))])) _
      refine XS.ifNo X75.here hx rfl (hb hby at_141) rfl ((if0 _ _).trans (teq ((lw_eq _ _).mpr (by decide +kernel))).2) ?_
      show Steps p.tables e below (T75.setTop (mkF m 144 #[.val (.long p0), .second, .val (.int p1), .val (.long (-7046029254386353131 : Int64)), .second, .val (.int (2 : Int32)), .val (.ref b52), .val (.long (own_mix (((p0 + (-7046029254386353131 : Int64)) + (-7046029254386353131 : Int64)) + (-7046029254386353131 : Int64)))), .second, .val (.ref b62), .val (.int (1 : Int32)), .val (.long (own_ref (2 : Int32))), .second, .val (.long (own_ref ((2 : Int32) + (1 : Int32)))), .second, .val (.ref b72), .unset, .unset] [])) _
      refine XS.iconst X75.here hx rfl (hb hby at_144) ?_
      show Steps p.tables e below (T75.setTop (mkF m 145 #[.val (.long p0), .second, .val (.int p1), .val (.long (-7046029254386353131 : Int64)), .second, .val (.int (2 : Int32)), .val (.ref b52), .val (.long (own_mix (((p0 + (-7046029254386353131 : Int64)) + (-7046029254386353131 : Int64)) + (-7046029254386353131 : Int64)))), .second, .val (.ref b62), .val (.int (1 : Int32)), .val (.long (own_ref (2 : Int32))), .second, .val (.long (own_ref ((2 : Int32) + (1 : Int32)))), .second, .val (.ref b72), .unset, .unset] [(.int (1 : Int32))])) _
      refine XS.goto X75.here hx rfl (pc0 := 145) (pc' := 149) rfl (hb hby at_145) (by decide) (by decide) ?_
      show Steps p.tables e below (T75.setTop (mkF m 149 #[.val (.long p0), .second, .val (.int p1), .val (.long (-7046029254386353131 : Int64)), .second, .val (.int (2 : Int32)), .val (.ref b52), .val (.long (own_mix (((p0 + (-7046029254386353131 : Int64)) + (-7046029254386353131 : Int64)) + (-7046029254386353131 : Int64)))), .second, .val (.ref b62), .val (.int (1 : Int32)), .val (.long (own_ref (2 : Int32))), .second, .val (.long (own_ref ((2 : Int32) + (1 : Int32)))), .second, .val (.ref b72), .unset, .unset] [(.int (1 : Int32))])) _
      refine XS.istore X75.here hx rfl (hb hby at_149) rfl (l' := #[.val (.long p0), .second, .val (.int p1), .val (.long (-7046029254386353131 : Int64)), .second, .val (.int (2 : Int32)), .val (.ref b52), .val (.long (own_mix (((p0 + (-7046029254386353131 : Int64)) + (-7046029254386353131 : Int64)) + (-7046029254386353131 : Int64)))), .second, .val (.ref b62), .val (.int (1 : Int32)), .val (.long (own_ref (2 : Int32))), .second, .val (.long (own_ref ((2 : Int32) + (1 : Int32)))), .second, .val (.ref b72), .val (.int (1 : Int32)), .unset]) rfl ?_
      show Steps p.tables e below (T75.setTop (mkF m 151 #[.val (.long p0), .second, .val (.int p1), .val (.long (-7046029254386353131 : Int64)), .second, .val (.int (2 : Int32)), .val (.ref b52), .val (.long (own_mix (((p0 + (-7046029254386353131 : Int64)) + (-7046029254386353131 : Int64)) + (-7046029254386353131 : Int64)))), .second, .val (.ref b62), .val (.int (1 : Int32)), .val (.long (own_ref (2 : Int32))), .second, .val (.long (own_ref ((2 : Int32) + (1 : Int32)))), .second, .val (.ref b72), .val (.int (1 : Int32)), .unset] [])) _
      refine XS.aload X75.here hx rfl (hb hby at_151) rfl rfl ?_
      show Steps p.tables e below (T75.setTop (mkF m 153 #[.val (.long p0), .second, .val (.int p1), .val (.long (-7046029254386353131 : Int64)), .second, .val (.int (2 : Int32)), .val (.ref b52), .val (.long (own_mix (((p0 + (-7046029254386353131 : Int64)) + (-7046029254386353131 : Int64)) + (-7046029254386353131 : Int64)))), .second, .val (.ref b62), .val (.int (1 : Int32)), .val (.long (own_ref (2 : Int32))), .second, .val (.long (own_ref ((2 : Int32) + (1 : Int32)))), .second, .val (.ref b72), .val (.int (1 : Int32)), .unset] [(.ref b72)])) _
      exact k
    refine own_go k78 ?_
    clear k78
    obtain ⟨cq77, kq77, q77a, q77b, q77c⟩ := isOf hZ rfl p75_0
    obtain ⟨_, _, ⟨T77, L77, k77, n77⟩, -, X77, ⟨Lc77, hQ77, l77, y77, z77⟩, st77⟩ := X75.virtualBack hx (y := (⟨"com/example/composure/composure/generate/SplitMix64", "next", "()J"⟩ : MethodName)) (z := (⟨"com/example/composure/composure/generate/SplitMix64", "next", "()J"⟩ : MethodName)) hown (mvT hZ (hw _ (List.mem_of_getElem? (i := 12) rfl))) (mvT hZ (hw _ (List.mem_of_getElem? (i := 13) rfl))) (notFace_of_selects (args := #[]) (mvT hZ (hw _ (List.mem_of_getElem? (i := 15) rfl)))) (mvT hZ (hw _ (List.mem_of_getElem? (i := 15) rfl))) (mvT hZ (hw _ (List.mem_of_getElem? (i := 14) rfl))) (by decide) (backOf (W := 0) (own_rm_next l Z a0 hw [] b72 (((1234567 : Int64) + ((2 : Int32).toInt64 * (-7046029254386353131 : Int64))) + (-7046029254386353131 : Int64)) T75.heap n0 Z75 p75_1 p75_0 g_b72) hZ (hw _ (List.mem_of_getElem? (i := 16) rfl)) (hw _ (List.mem_of_getElem? (i := 3) rfl)) (by decide) (by decide)) q77a q77c (g := (mkF m 153 #[.val (.long p0), .second, .val (.int p1), .val (.long (-7046029254386353131 : Int64)), .second, .val (.int (2 : Int32)), .val (.ref b52), .val (.long (own_mix (((p0 + (-7046029254386353131 : Int64)) + (-7046029254386353131 : Int64)) + (-7046029254386353131 : Int64)))), .second, .val (.ref b62), .val (.int (1 : Int32)), .val (.long (own_ref (2 : Int32))), .second, .val (.long (own_ref ((2 : Int32) + (1 : Int32)))), .second, .val (.ref b72), .val (.int (1 : Int32)), .unset] [(.ref b72)])) rfl (by rw [hml]; rfl) (Steps.refl _) (argsL := []) (rest := []) (lenOf own_pd_2829J rfl) rfl (by show 2 * 0 + _ ≤ _; exact Nat.le_of_eq rfl) (hb hby at_153) (fun _ _ => ⟨rfl, rfl, (by decide : 3 + 0 ≤ _), (by decide : 3 + 0 ≤ _)⟩)
    dsimp only [Pt.U, Pt.locs, Pt.cells, Pt.slots] at X77 l77 y77 z77 st77 hQ77
    subst l77 y77 z77
    obtain ⟨rfl, N77q, K77q, p77_0, p77_1⟩ := hQ77
    have N77 := Fr.app N75 N77q
    have f77_0 : Exa Z T77.heap b52 "com/example/composure/composure/generate/SplitMix64" := f75_0.keep K77q
    have f77_1 : Fld Z T77.heap b52 "com/example/composure/composure/generate/SplitMix64" "state" "J" (.long (((p0 + (-7046029254386353131 : Int64)) + (-7046029254386353131 : Int64)) + (-7046029254386353131 : Int64))) := f75_1.keep K77q (ninS ne_b52_b72 nin0)
    have f77_2 : Exa Z T77.heap b62 "com/example/composure/composure/generate/SplitMix64" := f75_2.keep K77q
    have f77_3 : Fld Z T77.heap b62 "com/example/composure/composure/generate/SplitMix64" "state" "J" (.long ((p0 + ((2 : Int32).toInt64 * (-7046029254386353131 : Int64))) + (-7046029254386353131 : Int64))) := f75_3.keep K77q (ninS ne_b62_b72 nin0)
    have Z77 : n0 ≤ T77.heap.size := Nat.le_trans Z75 K77q.1
    refine own_go (fun _ k => st77.trans k) ?_
    have k79 : ∀ t, Steps p.tables e below (T77.setTop (mkF m 189 #[.val (.long p0), .second, .val (.int p1), .val (.long (-7046029254386353131 : Int64)), .second, .val (.int (2 : Int32)), .val (.ref b52), .val (.long (own_mix (((p0 + (-7046029254386353131 : Int64)) + (-7046029254386353131 : Int64)) + (-7046029254386353131 : Int64)))), .second, .val (.ref b62), .val (.int (1 : Int32)), .val (.long (own_ref (2 : Int32))), .second, .val (.long (own_ref ((2 : Int32) + (1 : Int32)))), .second, .val (.ref b72), .val (.int (1 : Int32)), .val (.int (1 : Int32))] [(.int (1 : Int32))])) t → Steps p.tables e below (T77.setTop (mkF m 156 #[.val (.long p0), .second, .val (.int p1), .val (.long (-7046029254386353131 : Int64)), .second, .val (.int (2 : Int32)), .val (.ref b52), .val (.long (own_mix (((p0 + (-7046029254386353131 : Int64)) + (-7046029254386353131 : Int64)) + (-7046029254386353131 : Int64)))), .second, .val (.ref b62), .val (.int (1 : Int32)), .val (.long (own_ref (2 : Int32))), .second, .val (.long (own_ref ((2 : Int32) + (1 : Int32)))), .second, .val (.ref b72), .val (.int (1 : Int32)), .unset] [(.long (own_mix ((((1234567 : Int64) + ((2 : Int32).toInt64 * (-7046029254386353131 : Int64))) + (-7046029254386353131 : Int64)) + (-7046029254386353131 : Int64))))])) t := fun t k => by
      refine XS.lload X77.here hx rfl (hb hby at_156) rfl ?_
      show Steps p.tables e below (T77.setTop (mkF m 158 #[.val (.long p0), .second, .val (.int p1), .val (.long (-7046029254386353131 : Int64)), .second, .val (.int (2 : Int32)), .val (.ref b52), .val (.long (own_mix (((p0 + (-7046029254386353131 : Int64)) + (-7046029254386353131 : Int64)) + (-7046029254386353131 : Int64)))), .second, .val (.ref b62), .val (.int (1 : Int32)), .val (.long (own_ref (2 : Int32))), .second, .val (.long (own_ref ((2 : Int32) + (1 : Int32)))), .second, .val (.ref b72), .val (.int (1 : Int32)), .unset] [(.long (own_ref ((2 : Int32) + (1 : Int32)))), (.long (own_mix ((((1234567 : Int64) + ((2 : Int32).toInt64 * (-7046029254386353131 : Int64))) + (-7046029254386353131 : Int64)) + (-7046029254386353131 : Int64))))])) _
      refine XS.lcmp X77.here hx rfl (hb hby at_158) rfl ?_
      show Steps p.tables e below (T77.setTop (mkF m 159 #[.val (.long p0), .second, .val (.int p1), .val (.long (-7046029254386353131 : Int64)), .second, .val (.int (2 : Int32)), .val (.ref b52), .val (.long (own_mix (((p0 + (-7046029254386353131 : Int64)) + (-7046029254386353131 : Int64)) + (-7046029254386353131 : Int64)))), .second, .val (.ref b62), .val (.int (1 : Int32)), .val (.long (own_ref (2 : Int32))), .second, .val (.long (own_ref ((2 : Int32) + (1 : Int32)))), .second, .val (.ref b72), .val (.int (1 : Int32)), .unset] [(.int (lcmpW (own_mix ((((1234567 : Int64) + ((2 : Int32).toInt64 * (-7046029254386353131 : Int64))) + (-7046029254386353131 : Int64)) + (-7046029254386353131 : Int64))) (own_ref ((2 : Int32) + (1 : Int32)))))])) _
      refine XS.ifNo X77.here hx rfl (hb hby at_159) rfl ((if0 _ _).trans (teq ((lw_eq _ _).mpr (by decide +kernel))).2) ?_
      show Steps p.tables e below (T77.setTop (mkF m 162 #[.val (.long p0), .second, .val (.int p1), .val (.long (-7046029254386353131 : Int64)), .second, .val (.int (2 : Int32)), .val (.ref b52), .val (.long (own_mix (((p0 + (-7046029254386353131 : Int64)) + (-7046029254386353131 : Int64)) + (-7046029254386353131 : Int64)))), .second, .val (.ref b62), .val (.int (1 : Int32)), .val (.long (own_ref (2 : Int32))), .second, .val (.long (own_ref ((2 : Int32) + (1 : Int32)))), .second, .val (.ref b72), .val (.int (1 : Int32)), .unset] [])) _
      refine XS.iconst X77.here hx rfl (hb hby at_162) ?_
      show Steps p.tables e below (T77.setTop (mkF m 163 #[.val (.long p0), .second, .val (.int p1), .val (.long (-7046029254386353131 : Int64)), .second, .val (.int (2 : Int32)), .val (.ref b52), .val (.long (own_mix (((p0 + (-7046029254386353131 : Int64)) + (-7046029254386353131 : Int64)) + (-7046029254386353131 : Int64)))), .second, .val (.ref b62), .val (.int (1 : Int32)), .val (.long (own_ref (2 : Int32))), .second, .val (.long (own_ref ((2 : Int32) + (1 : Int32)))), .second, .val (.ref b72), .val (.int (1 : Int32)), .unset] [(.int (1 : Int32))])) _
      refine XS.goto X77.here hx rfl (pc0 := 163) (pc' := 167) rfl (hb hby at_163) (by decide) (by decide) ?_
      show Steps p.tables e below (T77.setTop (mkF m 167 #[.val (.long p0), .second, .val (.int p1), .val (.long (-7046029254386353131 : Int64)), .second, .val (.int (2 : Int32)), .val (.ref b52), .val (.long (own_mix (((p0 + (-7046029254386353131 : Int64)) + (-7046029254386353131 : Int64)) + (-7046029254386353131 : Int64)))), .second, .val (.ref b62), .val (.int (1 : Int32)), .val (.long (own_ref (2 : Int32))), .second, .val (.long (own_ref ((2 : Int32) + (1 : Int32)))), .second, .val (.ref b72), .val (.int (1 : Int32)), .unset] [(.int (1 : Int32))])) _
      refine XS.istore X77.here hx rfl (hb hby at_167) rfl (l' := #[.val (.long p0), .second, .val (.int p1), .val (.long (-7046029254386353131 : Int64)), .second, .val (.int (2 : Int32)), .val (.ref b52), .val (.long (own_mix (((p0 + (-7046029254386353131 : Int64)) + (-7046029254386353131 : Int64)) + (-7046029254386353131 : Int64)))), .second, .val (.ref b62), .val (.int (1 : Int32)), .val (.long (own_ref (2 : Int32))), .second, .val (.long (own_ref ((2 : Int32) + (1 : Int32)))), .second, .val (.ref b72), .val (.int (1 : Int32)), .val (.int (1 : Int32))]) rfl ?_
      show Steps p.tables e below (T77.setTop (mkF m 169 #[.val (.long p0), .second, .val (.int p1), .val (.long (-7046029254386353131 : Int64)), .second, .val (.int (2 : Int32)), .val (.ref b52), .val (.long (own_mix (((p0 + (-7046029254386353131 : Int64)) + (-7046029254386353131 : Int64)) + (-7046029254386353131 : Int64)))), .second, .val (.ref b62), .val (.int (1 : Int32)), .val (.long (own_ref (2 : Int32))), .second, .val (.long (own_ref ((2 : Int32) + (1 : Int32)))), .second, .val (.ref b72), .val (.int (1 : Int32)), .val (.int (1 : Int32))] [])) _
      refine XS.iload X77.here hx rfl (hb hby at_169) rfl ?_
      show Steps p.tables e below (T77.setTop (mkF m 171 #[.val (.long p0), .second, .val (.int p1), .val (.long (-7046029254386353131 : Int64)), .second, .val (.int (2 : Int32)), .val (.ref b52), .val (.long (own_mix (((p0 + (-7046029254386353131 : Int64)) + (-7046029254386353131 : Int64)) + (-7046029254386353131 : Int64)))), .second, .val (.ref b62), .val (.int (1 : Int32)), .val (.long (own_ref (2 : Int32))), .second, .val (.long (own_ref ((2 : Int32) + (1 : Int32)))), .second, .val (.ref b72), .val (.int (1 : Int32)), .val (.int (1 : Int32))] [(.int (1 : Int32))])) _
      refine XS.ifNo X77.here hx rfl (hb hby at_171) rfl ((if0 _ _).trans (feq (by decide : ¬ ((1 : Int32) = (0 : Int32)))).1) ?_
      show Steps p.tables e below (T77.setTop (mkF m 174 #[.val (.long p0), .second, .val (.int p1), .val (.long (-7046029254386353131 : Int64)), .second, .val (.int (2 : Int32)), .val (.ref b52), .val (.long (own_mix (((p0 + (-7046029254386353131 : Int64)) + (-7046029254386353131 : Int64)) + (-7046029254386353131 : Int64)))), .second, .val (.ref b62), .val (.int (1 : Int32)), .val (.long (own_ref (2 : Int32))), .second, .val (.long (own_ref ((2 : Int32) + (1 : Int32)))), .second, .val (.ref b72), .val (.int (1 : Int32)), .val (.int (1 : Int32))] [])) _
      refine XS.iload X77.here hx rfl (hb hby at_174) rfl ?_
      show Steps p.tables e below (T77.setTop (mkF m 176 #[.val (.long p0), .second, .val (.int p1), .val (.long (-7046029254386353131 : Int64)), .second, .val (.int (2 : Int32)), .val (.ref b52), .val (.long (own_mix (((p0 + (-7046029254386353131 : Int64)) + (-7046029254386353131 : Int64)) + (-7046029254386353131 : Int64)))), .second, .val (.ref b62), .val (.int (1 : Int32)), .val (.long (own_ref (2 : Int32))), .second, .val (.long (own_ref ((2 : Int32) + (1 : Int32)))), .second, .val (.ref b72), .val (.int (1 : Int32)), .val (.int (1 : Int32))] [(.int (1 : Int32))])) _
      refine XS.ifNo X77.here hx rfl (hb hby at_176) rfl ((if0 _ _).trans (feq (by decide : ¬ ((1 : Int32) = (0 : Int32)))).1) ?_
      show Steps p.tables e below (T77.setTop (mkF m 179 #[.val (.long p0), .second, .val (.int p1), .val (.long (-7046029254386353131 : Int64)), .second, .val (.int (2 : Int32)), .val (.ref b52), .val (.long (own_mix (((p0 + (-7046029254386353131 : Int64)) + (-7046029254386353131 : Int64)) + (-7046029254386353131 : Int64)))), .second, .val (.ref b62), .val (.int (1 : Int32)), .val (.long (own_ref (2 : Int32))), .second, .val (.long (own_ref ((2 : Int32) + (1 : Int32)))), .second, .val (.ref b72), .val (.int (1 : Int32)), .val (.int (1 : Int32))] [])) _
      refine XS.iload X77.here hx rfl (hb hby at_179) rfl ?_
      show Steps p.tables e below (T77.setTop (mkF m 181 #[.val (.long p0), .second, .val (.int p1), .val (.long (-7046029254386353131 : Int64)), .second, .val (.int (2 : Int32)), .val (.ref b52), .val (.long (own_mix (((p0 + (-7046029254386353131 : Int64)) + (-7046029254386353131 : Int64)) + (-7046029254386353131 : Int64)))), .second, .val (.ref b62), .val (.int (1 : Int32)), .val (.long (own_ref (2 : Int32))), .second, .val (.long (own_ref ((2 : Int32) + (1 : Int32)))), .second, .val (.ref b72), .val (.int (1 : Int32)), .val (.int (1 : Int32))] [(.int (1 : Int32))])) _
      refine XS.ifNo X77.here hx rfl (hb hby at_181) rfl ((if0 _ _).trans (feq (by decide : ¬ ((1 : Int32) = (0 : Int32)))).1) ?_
      show Steps p.tables e below (T77.setTop (mkF m 184 #[.val (.long p0), .second, .val (.int p1), .val (.long (-7046029254386353131 : Int64)), .second, .val (.int (2 : Int32)), .val (.ref b52), .val (.long (own_mix (((p0 + (-7046029254386353131 : Int64)) + (-7046029254386353131 : Int64)) + (-7046029254386353131 : Int64)))), .second, .val (.ref b62), .val (.int (1 : Int32)), .val (.long (own_ref (2 : Int32))), .second, .val (.long (own_ref ((2 : Int32) + (1 : Int32)))), .second, .val (.ref b72), .val (.int (1 : Int32)), .val (.int (1 : Int32))] [])) _
      refine XS.iconst X77.here hx rfl (hb hby at_184) ?_
      show Steps p.tables e below (T77.setTop (mkF m 185 #[.val (.long p0), .second, .val (.int p1), .val (.long (-7046029254386353131 : Int64)), .second, .val (.int (2 : Int32)), .val (.ref b52), .val (.long (own_mix (((p0 + (-7046029254386353131 : Int64)) + (-7046029254386353131 : Int64)) + (-7046029254386353131 : Int64)))), .second, .val (.ref b62), .val (.int (1 : Int32)), .val (.long (own_ref (2 : Int32))), .second, .val (.long (own_ref ((2 : Int32) + (1 : Int32)))), .second, .val (.ref b72), .val (.int (1 : Int32)), .val (.int (1 : Int32))] [(.int (1 : Int32))])) _
      refine XS.goto X77.here hx rfl (pc0 := 185) (pc' := 189) rfl (hb hby at_185) (by decide) (by decide) ?_
      show Steps p.tables e below (T77.setTop (mkF m 189 #[.val (.long p0), .second, .val (.int p1), .val (.long (-7046029254386353131 : Int64)), .second, .val (.int (2 : Int32)), .val (.ref b52), .val (.long (own_mix (((p0 + (-7046029254386353131 : Int64)) + (-7046029254386353131 : Int64)) + (-7046029254386353131 : Int64)))), .second, .val (.ref b62), .val (.int (1 : Int32)), .val (.long (own_ref (2 : Int32))), .second, .val (.long (own_ref ((2 : Int32) + (1 : Int32)))), .second, .val (.ref b72), .val (.int (1 : Int32)), .val (.int (1 : Int32))] [(.int (1 : Int32))])) _
      exact k
    refine own_go k79 ?_
    clear k79
    obtain ⟨fs, hr, hrun, hended, hW, hsame⟩ := X77.leave (v := some (.int (nar .boolean (1 : Int32)))) (fun h => by rw [Bd.returns] at h; cases h)
    refine ⟨_, _, retN X77 hx (t := .boolean) Bd.returns (by simp) (hb hby at_189) hr, hPf _ _ ⟨hrun, hended, _, _, rfl, ?_, ⟨_, rfl⟩, hW, hsame.mono (by decide) (by decide)⟩⟩
    show own_Q_law Z p0 p1 h0 n0 _ T77.heap _
    exact ⟨rfl, N77⟩
  · subst hj
    obtain ⟨T80, h80, X80, e80, E80, A80, D80, -, st80⟩ := newO X0 hx hZ hown (hw _ (List.mem_of_getElem? (i := 1) rfl)) (hw _ (List.mem_of_getElem? (i := 2) rfl)) (hw _ (List.mem_of_getElem? (i := 3) rfl)) e0 (g := (mkF m 9 #[.val (.long p0), .second, .val (.int p1), .val (.long (-7046029254386353131 : Int64)), .second, .val (.int (3 : Int32)), .unset, .unset, .unset, .unset, .unset, .unset, .unset, .unset, .unset, .unset, .unset, .unset] [])) rfl (hb hby at_9) (by decide) (by decide)
    obtain ⟨b80, g80⟩ : ∃ z, z = h0.size := ⟨_, rfl⟩
    rw [← g80] at A80 D80 st80
    refine own_go st80 ?_
    have g_b80 : n0 ≤ b80 := Nat.le_trans Z0 (Nat.le_of_eq g80.symm)
    have Z80 : n0 ≤ h80.size := Nat.le_trans Z0 E80.1
    have F80_state : Fld Z h80 b80 "com/example/composure/composure/generate/SplitMix64" "state" "J" (.long (0 : Int64)) := D80 (Or.inl (hw _ (List.mem_of_getElem? (i := 11) rfl))) (ty := .long) (by decide)
    have k82 : ∀ t, Steps p.tables e below (T80.setTop (mkF m 14 #[.val (.long p0), .second, .val (.int p1), .val (.long (-7046029254386353131 : Int64)), .second, .val (.int (3 : Int32)), .unset, .unset, .unset, .unset, .unset, .unset, .unset, .unset, .unset, .unset, .unset, .unset] [(.long p0), (.ref b80), (.ref b80)])) t → Steps p.tables e below (T80.setTop (mkF m 12 #[.val (.long p0), .second, .val (.int p1), .val (.long (-7046029254386353131 : Int64)), .second, .val (.int (3 : Int32)), .unset, .unset, .unset, .unset, .unset, .unset, .unset, .unset, .unset, .unset, .unset, .unset] [(.ref b80)])) t := fun t k => by
      refine XS.dup X80.here hx rfl (hb hby at_12) rfl rfl ?_
      show Steps p.tables e below (T80.setTop (mkF m 13 #[.val (.long p0), .second, .val (.int p1), .val (.long (-7046029254386353131 : Int64)), .second, .val (.int (3 : Int32)), .unset, .unset, .unset, .unset, .unset, .unset, .unset, .unset, .unset, .unset, .unset, .unset] [(.ref b80), (.ref b80)])) _
      refine XS.lloadN X80.here hx rfl (hb hby at_13) rfl ?_
      show Steps p.tables e below (T80.setTop (mkF m 14 #[.val (.long p0), .second, .val (.int p1), .val (.long (-7046029254386353131 : Int64)), .second, .val (.int (3 : Int32)), .unset, .unset, .unset, .unset, .unset, .unset, .unset, .unset, .unset, .unset, .unset, .unset] [(.long p0), (.ref b80), (.ref b80)])) _
      exact k
    refine own_go k82 ?_
    clear k82
    obtain ⟨_, _, ⟨T81, L81, k81, n81⟩, -, X81, ⟨Lc81, hQ81, l81, y81, z81⟩, st81⟩ := X80.specialBack hx (y := (⟨"com/example/composure/composure/generate/SplitMix64", "<init>", "(J)V"⟩ : MethodName)) rfl hown (mvT hZ (hw _ (List.mem_of_getElem? (i := 4) rfl))) (mvT hZ (hw _ (List.mem_of_getElem? (i := 5) rfl))) (mvT hZ (hw _ (List.mem_of_getElem? (i := 6) rfl))) (by decide) (backOf (W := 1) (own_rm_init l Z a0 hw [] b80 p0 (0 : Int64) h80 n0 Z80 F80_state A80 g_b80) hZ (hw _ (List.mem_of_getElem? (i := 6) rfl)) (hw _ (List.mem_of_getElem? (i := 3) rfl)) (by decide) (by decide)) (g := (mkF m 14 #[.val (.long p0), .second, .val (.int p1), .val (.long (-7046029254386353131 : Int64)), .second, .val (.int (3 : Int32)), .unset, .unset, .unset, .unset, .unset, .unset, .unset, .unset, .unset, .unset, .unset, .unset] [(.long p0), (.ref b80), (.ref b80)])) rfl (by rw [hml]; rfl) (Steps.refl _) (a := b80) (argsL := [(.long p0)]) (rest := [(.ref b80)]) (lenOf own_pd_28J29V rfl) rfl (by show 2 * 0 + _ ≤ _; exact Nat.le_of_eq rfl) (hb hby at_14) (fun _ _ => ⟨rfl, e80, (by decide : 1 + 0 ≤ _), (by decide : 1 + 0 ≤ _)⟩)
    dsimp only [Pt.U, Pt.locs, Pt.cells, Pt.slots] at X81 l81 y81 z81 st81 hQ81
    subst l81 y81 z81
    obtain ⟨rfl, N81q, K81q, p81_0, p81_1⟩ := hQ81
    have N81 := Fr.app N0 N81q
    have Z81 : n0 ≤ T81.heap.size := Nat.le_trans Z80 K81q.1
    refine own_go (fun _ k => st81.trans k) ?_
    have k84 : ∀ t, Steps p.tables e below (T81.setTop (mkF m 21 #[.val (.long p0), .second, .val (.int p1), .val (.long (-7046029254386353131 : Int64)), .second, .val (.int (3 : Int32)), .val (.ref b80), .unset, .unset, .unset, .unset, .unset, .unset, .unset, .unset, .unset, .unset, .unset] [(.ref b80)])) t → Steps p.tables e below (T81.setTop (mkF m 17 #[.val (.long p0), .second, .val (.int p1), .val (.long (-7046029254386353131 : Int64)), .second, .val (.int (3 : Int32)), .unset, .unset, .unset, .unset, .unset, .unset, .unset, .unset, .unset, .unset, .unset, .unset] [(.ref b80)])) t := fun t k => by
      refine XS.astore X81.here hx rfl (hb hby at_17) rfl rfl (l' := #[.val (.long p0), .second, .val (.int p1), .val (.long (-7046029254386353131 : Int64)), .second, .val (.int (3 : Int32)), .val (.ref b80), .unset, .unset, .unset, .unset, .unset, .unset, .unset, .unset, .unset, .unset, .unset]) rfl ?_
      show Steps p.tables e below (T81.setTop (mkF m 19 #[.val (.long p0), .second, .val (.int p1), .val (.long (-7046029254386353131 : Int64)), .second, .val (.int (3 : Int32)), .val (.ref b80), .unset, .unset, .unset, .unset, .unset, .unset, .unset, .unset, .unset, .unset, .unset] [])) _
      refine XS.aload X81.here hx rfl (hb hby at_19) rfl rfl ?_
      show Steps p.tables e below (T81.setTop (mkF m 21 #[.val (.long p0), .second, .val (.int p1), .val (.long (-7046029254386353131 : Int64)), .second, .val (.int (3 : Int32)), .val (.ref b80), .unset, .unset, .unset, .unset, .unset, .unset, .unset, .unset, .unset, .unset, .unset] [(.ref b80)])) _
      exact k
    refine own_go k84 ?_
    clear k84
    obtain ⟨cq83, kq83, q83a, q83b, q83c⟩ := isOf hZ rfl p81_0
    obtain ⟨_, _, ⟨T83, L83, k83, n83⟩, -, X83, ⟨Lc83, hQ83, l83, y83, z83⟩, st83⟩ := X81.virtualBack hx (y := (⟨"com/example/composure/composure/generate/SplitMix64", "next", "()J"⟩ : MethodName)) (z := (⟨"com/example/composure/composure/generate/SplitMix64", "next", "()J"⟩ : MethodName)) hown (mvT hZ (hw _ (List.mem_of_getElem? (i := 12) rfl))) (mvT hZ (hw _ (List.mem_of_getElem? (i := 13) rfl))) (notFace_of_selects (args := #[]) (mvT hZ (hw _ (List.mem_of_getElem? (i := 15) rfl)))) (mvT hZ (hw _ (List.mem_of_getElem? (i := 15) rfl))) (mvT hZ (hw _ (List.mem_of_getElem? (i := 14) rfl))) (by decide) (backOf (W := 0) (own_rm_next l Z a0 hw [] b80 p0 T81.heap n0 Z81 p81_1 p81_0 g_b80) hZ (hw _ (List.mem_of_getElem? (i := 16) rfl)) (hw _ (List.mem_of_getElem? (i := 3) rfl)) (by decide) (by decide)) q83a q83c (g := (mkF m 21 #[.val (.long p0), .second, .val (.int p1), .val (.long (-7046029254386353131 : Int64)), .second, .val (.int (3 : Int32)), .val (.ref b80), .unset, .unset, .unset, .unset, .unset, .unset, .unset, .unset, .unset, .unset, .unset] [(.ref b80)])) rfl (by rw [hml]; rfl) (Steps.refl _) (argsL := []) (rest := []) (lenOf own_pd_2829J rfl) rfl (by show 2 * 0 + _ ≤ _; exact Nat.le_of_eq rfl) (hb hby at_21) (fun _ _ => ⟨rfl, rfl, (by decide : 1 + 0 ≤ _), (by decide : 1 + 0 ≤ _)⟩)
    dsimp only [Pt.U, Pt.locs, Pt.cells, Pt.slots] at X83 l83 y83 z83 st83 hQ83
    subst l83 y83 z83
    obtain ⟨rfl, N83q, K83q, p83_0, p83_1⟩ := hQ83
    have N83 := Fr.app N81 N83q
    have Z83 : n0 ≤ T83.heap.size := Nat.le_trans Z81 K83q.1
    refine own_go (fun _ k => st83.trans k) ?_
    have k86 : ∀ t, Steps p.tables e below (T83.setTop (mkF m 34 #[.val (.long p0), .second, .val (.int p1), .val (.long (-7046029254386353131 : Int64)), .second, .val (.int (3 : Int32)), .val (.ref b80), .val (.long (own_mix (p0 + (-7046029254386353131 : Int64)))), .second, .unset, .unset, .unset, .unset, .unset, .unset, .unset, .unset, .unset] [(.ref b80)])) t → Steps p.tables e below (T83.setTop (mkF m 24 #[.val (.long p0), .second, .val (.int p1), .val (.long (-7046029254386353131 : Int64)), .second, .val (.int (3 : Int32)), .val (.ref b80), .unset, .unset, .unset, .unset, .unset, .unset, .unset, .unset, .unset, .unset, .unset] [(.long (own_mix (p0 + (-7046029254386353131 : Int64))))])) t := fun t k => by
      refine XS.lstore X83.here hx rfl (hb hby at_24) rfl (l' := #[.val (.long p0), .second, .val (.int p1), .val (.long (-7046029254386353131 : Int64)), .second, .val (.int (3 : Int32)), .val (.ref b80), .val (.long (own_mix (p0 + (-7046029254386353131 : Int64)))), .second, .unset, .unset, .unset, .unset, .unset, .unset, .unset, .unset, .unset]) rfl ?_
      show Steps p.tables e below (T83.setTop (mkF m 26 #[.val (.long p0), .second, .val (.int p1), .val (.long (-7046029254386353131 : Int64)), .second, .val (.int (3 : Int32)), .val (.ref b80), .val (.long (own_mix (p0 + (-7046029254386353131 : Int64)))), .second, .unset, .unset, .unset, .unset, .unset, .unset, .unset, .unset, .unset] [])) _
      refine XS.iload X83.here hx rfl (hb hby at_26) rfl ?_
      show Steps p.tables e below (T83.setTop (mkF m 28 #[.val (.long p0), .second, .val (.int p1), .val (.long (-7046029254386353131 : Int64)), .second, .val (.int (3 : Int32)), .val (.ref b80), .val (.long (own_mix (p0 + (-7046029254386353131 : Int64)))), .second, .unset, .unset, .unset, .unset, .unset, .unset, .unset, .unset, .unset] [(.int (3 : Int32))])) _
      refine XS.iconst X83.here hx rfl (hb hby at_28) ?_
      show Steps p.tables e below (T83.setTop (mkF m 29 #[.val (.long p0), .second, .val (.int p1), .val (.long (-7046029254386353131 : Int64)), .second, .val (.int (3 : Int32)), .val (.ref b80), .val (.long (own_mix (p0 + (-7046029254386353131 : Int64)))), .second, .unset, .unset, .unset, .unset, .unset, .unset, .unset, .unset, .unset] [(.int (1 : Int32)), (.int (3 : Int32))])) _
      refine XS.icmpNo X83.here hx rfl (hb hby at_29) rfl (flt (by decide : ¬ ((3 : Int32) < (1 : Int32)))).1 ?_
      show Steps p.tables e below (T83.setTop (mkF m 32 #[.val (.long p0), .second, .val (.int p1), .val (.long (-7046029254386353131 : Int64)), .second, .val (.int (3 : Int32)), .val (.ref b80), .val (.long (own_mix (p0 + (-7046029254386353131 : Int64)))), .second, .unset, .unset, .unset, .unset, .unset, .unset, .unset, .unset, .unset] [])) _
      refine XS.aload X83.here hx rfl (hb hby at_32) rfl rfl ?_
      show Steps p.tables e below (T83.setTop (mkF m 34 #[.val (.long p0), .second, .val (.int p1), .val (.long (-7046029254386353131 : Int64)), .second, .val (.int (3 : Int32)), .val (.ref b80), .val (.long (own_mix (p0 + (-7046029254386353131 : Int64)))), .second, .unset, .unset, .unset, .unset, .unset, .unset, .unset, .unset, .unset] [(.ref b80)])) _
      exact k
    refine own_go k86 ?_
    clear k86
    obtain ⟨cq85, kq85, q85a, q85b, q85c⟩ := isOf hZ rfl p83_0
    obtain ⟨_, _, ⟨T85, L85, k85, n85⟩, -, X85, ⟨Lc85, hQ85, l85, y85, z85⟩, st85⟩ := X83.virtualBack hx (y := (⟨"com/example/composure/composure/generate/SplitMix64", "next", "()J"⟩ : MethodName)) (z := (⟨"com/example/composure/composure/generate/SplitMix64", "next", "()J"⟩ : MethodName)) hown (mvT hZ (hw _ (List.mem_of_getElem? (i := 12) rfl))) (mvT hZ (hw _ (List.mem_of_getElem? (i := 13) rfl))) (notFace_of_selects (args := #[]) (mvT hZ (hw _ (List.mem_of_getElem? (i := 15) rfl)))) (mvT hZ (hw _ (List.mem_of_getElem? (i := 15) rfl))) (mvT hZ (hw _ (List.mem_of_getElem? (i := 14) rfl))) (by decide) (backOf (W := 0) (own_rm_next l Z a0 hw [] b80 (p0 + (-7046029254386353131 : Int64)) T83.heap n0 Z83 p83_1 p83_0 g_b80) hZ (hw _ (List.mem_of_getElem? (i := 16) rfl)) (hw _ (List.mem_of_getElem? (i := 3) rfl)) (by decide) (by decide)) q85a q85c (g := (mkF m 34 #[.val (.long p0), .second, .val (.int p1), .val (.long (-7046029254386353131 : Int64)), .second, .val (.int (3 : Int32)), .val (.ref b80), .val (.long (own_mix (p0 + (-7046029254386353131 : Int64)))), .second, .unset, .unset, .unset, .unset, .unset, .unset, .unset, .unset, .unset] [(.ref b80)])) rfl (by rw [hml]; rfl) (Steps.refl _) (argsL := []) (rest := []) (lenOf own_pd_2829J rfl) rfl (by show 2 * 0 + _ ≤ _; exact Nat.le_of_eq rfl) (hb hby at_34) (fun _ _ => ⟨rfl, rfl, (by decide : 1 + 0 ≤ _), (by decide : 1 + 0 ≤ _)⟩)
    dsimp only [Pt.U, Pt.locs, Pt.cells, Pt.slots] at X85 l85 y85 z85 st85 hQ85
    subst l85 y85 z85
    obtain ⟨rfl, N85q, K85q, p85_0, p85_1⟩ := hQ85
    have N85 := Fr.app N83 N85q
    have Z85 : n0 ≤ T85.heap.size := Nat.le_trans Z83 K85q.1
    refine own_go (fun _ k => st85.trans k) ?_
    have k88 : ∀ t, Steps p.tables e below (T85.setTop (mkF m 47 #[.val (.long p0), .second, .val (.int p1), .val (.long (-7046029254386353131 : Int64)), .second, .val (.int (3 : Int32)), .val (.ref b80), .val (.long (own_mix ((p0 + (-7046029254386353131 : Int64)) + (-7046029254386353131 : Int64)))), .second, .unset, .unset, .unset, .unset, .unset, .unset, .unset, .unset, .unset] [(.ref b80)])) t → Steps p.tables e below (T85.setTop (mkF m 37 #[.val (.long p0), .second, .val (.int p1), .val (.long (-7046029254386353131 : Int64)), .second, .val (.int (3 : Int32)), .val (.ref b80), .val (.long (own_mix (p0 + (-7046029254386353131 : Int64)))), .second, .unset, .unset, .unset, .unset, .unset, .unset, .unset, .unset, .unset] [(.long (own_mix ((p0 + (-7046029254386353131 : Int64)) + (-7046029254386353131 : Int64))))])) t := fun t k => by
      refine XS.lstore X85.here hx rfl (hb hby at_37) rfl (l' := #[.val (.long p0), .second, .val (.int p1), .val (.long (-7046029254386353131 : Int64)), .second, .val (.int (3 : Int32)), .val (.ref b80), .val (.long (own_mix ((p0 + (-7046029254386353131 : Int64)) + (-7046029254386353131 : Int64)))), .second, .unset, .unset, .unset, .unset, .unset, .unset, .unset, .unset, .unset]) rfl ?_
      show Steps p.tables e below (T85.setTop (mkF m 39 #[.val (.long p0), .second, .val (.int p1), .val (.long (-7046029254386353131 : Int64)), .second, .val (.int (3 : Int32)), .val (.ref b80), .val (.long (own_mix ((p0 + (-7046029254386353131 : Int64)) + (-7046029254386353131 : Int64)))), .second, .unset, .unset, .unset, .unset, .unset, .unset, .unset, .unset, .unset] [])) _
      refine XS.iload X85.here hx rfl (hb hby at_39) rfl ?_
      show Steps p.tables e below (T85.setTop (mkF m 41 #[.val (.long p0), .second, .val (.int p1), .val (.long (-7046029254386353131 : Int64)), .second, .val (.int (3 : Int32)), .val (.ref b80), .val (.long (own_mix ((p0 + (-7046029254386353131 : Int64)) + (-7046029254386353131 : Int64)))), .second, .unset, .unset, .unset, .unset, .unset, .unset, .unset, .unset, .unset] [(.int (3 : Int32))])) _
      refine XS.iconst X85.here hx rfl (hb hby at_41) ?_
      show Steps p.tables e below (T85.setTop (mkF m 42 #[.val (.long p0), .second, .val (.int p1), .val (.long (-7046029254386353131 : Int64)), .second, .val (.int (3 : Int32)), .val (.ref b80), .val (.long (own_mix ((p0 + (-7046029254386353131 : Int64)) + (-7046029254386353131 : Int64)))), .second, .unset, .unset, .unset, .unset, .unset, .unset, .unset, .unset, .unset] [(.int (2 : Int32)), (.int (3 : Int32))])) _
      refine XS.icmpNo X85.here hx rfl (hb hby at_42) rfl (flt (by decide : ¬ ((3 : Int32) < (2 : Int32)))).1 ?_
      show Steps p.tables e below (T85.setTop (mkF m 45 #[.val (.long p0), .second, .val (.int p1), .val (.long (-7046029254386353131 : Int64)), .second, .val (.int (3 : Int32)), .val (.ref b80), .val (.long (own_mix ((p0 + (-7046029254386353131 : Int64)) + (-7046029254386353131 : Int64)))), .second, .unset, .unset, .unset, .unset, .unset, .unset, .unset, .unset, .unset] [])) _
      refine XS.aload X85.here hx rfl (hb hby at_45) rfl rfl ?_
      show Steps p.tables e below (T85.setTop (mkF m 47 #[.val (.long p0), .second, .val (.int p1), .val (.long (-7046029254386353131 : Int64)), .second, .val (.int (3 : Int32)), .val (.ref b80), .val (.long (own_mix ((p0 + (-7046029254386353131 : Int64)) + (-7046029254386353131 : Int64)))), .second, .unset, .unset, .unset, .unset, .unset, .unset, .unset, .unset, .unset] [(.ref b80)])) _
      exact k
    refine own_go k88 ?_
    clear k88
    obtain ⟨cq87, kq87, q87a, q87b, q87c⟩ := isOf hZ rfl p85_0
    obtain ⟨_, _, ⟨T87, L87, k87, n87⟩, -, X87, ⟨Lc87, hQ87, l87, y87, z87⟩, st87⟩ := X85.virtualBack hx (y := (⟨"com/example/composure/composure/generate/SplitMix64", "next", "()J"⟩ : MethodName)) (z := (⟨"com/example/composure/composure/generate/SplitMix64", "next", "()J"⟩ : MethodName)) hown (mvT hZ (hw _ (List.mem_of_getElem? (i := 12) rfl))) (mvT hZ (hw _ (List.mem_of_getElem? (i := 13) rfl))) (notFace_of_selects (args := #[]) (mvT hZ (hw _ (List.mem_of_getElem? (i := 15) rfl)))) (mvT hZ (hw _ (List.mem_of_getElem? (i := 15) rfl))) (mvT hZ (hw _ (List.mem_of_getElem? (i := 14) rfl))) (by decide) (backOf (W := 0) (own_rm_next l Z a0 hw [] b80 ((p0 + (-7046029254386353131 : Int64)) + (-7046029254386353131 : Int64)) T85.heap n0 Z85 p85_1 p85_0 g_b80) hZ (hw _ (List.mem_of_getElem? (i := 16) rfl)) (hw _ (List.mem_of_getElem? (i := 3) rfl)) (by decide) (by decide)) q87a q87c (g := (mkF m 47 #[.val (.long p0), .second, .val (.int p1), .val (.long (-7046029254386353131 : Int64)), .second, .val (.int (3 : Int32)), .val (.ref b80), .val (.long (own_mix ((p0 + (-7046029254386353131 : Int64)) + (-7046029254386353131 : Int64)))), .second, .unset, .unset, .unset, .unset, .unset, .unset, .unset, .unset, .unset] [(.ref b80)])) rfl (by rw [hml]; rfl) (Steps.refl _) (argsL := []) (rest := []) (lenOf own_pd_2829J rfl) rfl (by show 2 * 0 + _ ≤ _; exact Nat.le_of_eq rfl) (hb hby at_47) (fun _ _ => ⟨rfl, rfl, (by decide : 1 + 0 ≤ _), (by decide : 1 + 0 ≤ _)⟩)
    dsimp only [Pt.U, Pt.locs, Pt.cells, Pt.slots] at X87 l87 y87 z87 st87 hQ87
    subst l87 y87 z87
    obtain ⟨rfl, N87q, K87q, p87_0, p87_1⟩ := hQ87
    have N87 := Fr.app N85 N87q
    have Z87 : n0 ≤ T87.heap.size := Nat.le_trans Z85 K87q.1
    refine own_go (fun _ k => st87.trans k) ?_
    have k90 : ∀ t, Steps p.tables e below (T87.setTop (mkF m 60 #[.val (.long p0), .second, .val (.int p1), .val (.long (-7046029254386353131 : Int64)), .second, .val (.int (3 : Int32)), .val (.ref b80), .val (.long (own_mix (((p0 + (-7046029254386353131 : Int64)) + (-7046029254386353131 : Int64)) + (-7046029254386353131 : Int64)))), .second, .unset, .unset, .unset, .unset, .unset, .unset, .unset, .unset, .unset] [(.ref b80)])) t → Steps p.tables e below (T87.setTop (mkF m 50 #[.val (.long p0), .second, .val (.int p1), .val (.long (-7046029254386353131 : Int64)), .second, .val (.int (3 : Int32)), .val (.ref b80), .val (.long (own_mix ((p0 + (-7046029254386353131 : Int64)) + (-7046029254386353131 : Int64)))), .second, .unset, .unset, .unset, .unset, .unset, .unset, .unset, .unset, .unset] [(.long (own_mix (((p0 + (-7046029254386353131 : Int64)) + (-7046029254386353131 : Int64)) + (-7046029254386353131 : Int64))))])) t := fun t k => by
      refine XS.lstore X87.here hx rfl (hb hby at_50) rfl (l' := #[.val (.long p0), .second, .val (.int p1), .val (.long (-7046029254386353131 : Int64)), .second, .val (.int (3 : Int32)), .val (.ref b80), .val (.long (own_mix (((p0 + (-7046029254386353131 : Int64)) + (-7046029254386353131 : Int64)) + (-7046029254386353131 : Int64)))), .second, .unset, .unset, .unset, .unset, .unset, .unset, .unset, .unset, .unset]) rfl ?_
      show Steps p.tables e below (T87.setTop (mkF m 52 #[.val (.long p0), .second, .val (.int p1), .val (.long (-7046029254386353131 : Int64)), .second, .val (.int (3 : Int32)), .val (.ref b80), .val (.long (own_mix (((p0 + (-7046029254386353131 : Int64)) + (-7046029254386353131 : Int64)) + (-7046029254386353131 : Int64)))), .second, .unset, .unset, .unset, .unset, .unset, .unset, .unset, .unset, .unset] [])) _
      refine XS.iload X87.here hx rfl (hb hby at_52) rfl ?_
      show Steps p.tables e below (T87.setTop (mkF m 54 #[.val (.long p0), .second, .val (.int p1), .val (.long (-7046029254386353131 : Int64)), .second, .val (.int (3 : Int32)), .val (.ref b80), .val (.long (own_mix (((p0 + (-7046029254386353131 : Int64)) + (-7046029254386353131 : Int64)) + (-7046029254386353131 : Int64)))), .second, .unset, .unset, .unset, .unset, .unset, .unset, .unset, .unset, .unset] [(.int (3 : Int32))])) _
      refine XS.iconst X87.here hx rfl (hb hby at_54) ?_
      show Steps p.tables e below (T87.setTop (mkF m 55 #[.val (.long p0), .second, .val (.int p1), .val (.long (-7046029254386353131 : Int64)), .second, .val (.int (3 : Int32)), .val (.ref b80), .val (.long (own_mix (((p0 + (-7046029254386353131 : Int64)) + (-7046029254386353131 : Int64)) + (-7046029254386353131 : Int64)))), .second, .unset, .unset, .unset, .unset, .unset, .unset, .unset, .unset, .unset] [(.int (3 : Int32)), (.int (3 : Int32))])) _
      refine XS.icmpNo X87.here hx rfl (hb hby at_55) rfl (flt (by decide : ¬ ((3 : Int32) < (3 : Int32)))).1 ?_
      show Steps p.tables e below (T87.setTop (mkF m 58 #[.val (.long p0), .second, .val (.int p1), .val (.long (-7046029254386353131 : Int64)), .second, .val (.int (3 : Int32)), .val (.ref b80), .val (.long (own_mix (((p0 + (-7046029254386353131 : Int64)) + (-7046029254386353131 : Int64)) + (-7046029254386353131 : Int64)))), .second, .unset, .unset, .unset, .unset, .unset, .unset, .unset, .unset, .unset] [])) _
      refine XS.aload X87.here hx rfl (hb hby at_58) rfl rfl ?_
      show Steps p.tables e below (T87.setTop (mkF m 60 #[.val (.long p0), .second, .val (.int p1), .val (.long (-7046029254386353131 : Int64)), .second, .val (.int (3 : Int32)), .val (.ref b80), .val (.long (own_mix (((p0 + (-7046029254386353131 : Int64)) + (-7046029254386353131 : Int64)) + (-7046029254386353131 : Int64)))), .second, .unset, .unset, .unset, .unset, .unset, .unset, .unset, .unset, .unset] [(.ref b80)])) _
      exact k
    refine own_go k90 ?_
    clear k90
    obtain ⟨cq89, kq89, q89a, q89b, q89c⟩ := isOf hZ rfl p87_0
    obtain ⟨_, _, ⟨T89, L89, k89, n89⟩, -, X89, ⟨Lc89, hQ89, l89, y89, z89⟩, st89⟩ := X87.virtualBack hx (y := (⟨"com/example/composure/composure/generate/SplitMix64", "next", "()J"⟩ : MethodName)) (z := (⟨"com/example/composure/composure/generate/SplitMix64", "next", "()J"⟩ : MethodName)) hown (mvT hZ (hw _ (List.mem_of_getElem? (i := 12) rfl))) (mvT hZ (hw _ (List.mem_of_getElem? (i := 13) rfl))) (notFace_of_selects (args := #[]) (mvT hZ (hw _ (List.mem_of_getElem? (i := 15) rfl)))) (mvT hZ (hw _ (List.mem_of_getElem? (i := 15) rfl))) (mvT hZ (hw _ (List.mem_of_getElem? (i := 14) rfl))) (by decide) (backOf (W := 0) (own_rm_next l Z a0 hw [] b80 (((p0 + (-7046029254386353131 : Int64)) + (-7046029254386353131 : Int64)) + (-7046029254386353131 : Int64)) T87.heap n0 Z87 p87_1 p87_0 g_b80) hZ (hw _ (List.mem_of_getElem? (i := 16) rfl)) (hw _ (List.mem_of_getElem? (i := 3) rfl)) (by decide) (by decide)) q89a q89c (g := (mkF m 60 #[.val (.long p0), .second, .val (.int p1), .val (.long (-7046029254386353131 : Int64)), .second, .val (.int (3 : Int32)), .val (.ref b80), .val (.long (own_mix (((p0 + (-7046029254386353131 : Int64)) + (-7046029254386353131 : Int64)) + (-7046029254386353131 : Int64)))), .second, .unset, .unset, .unset, .unset, .unset, .unset, .unset, .unset, .unset] [(.ref b80)])) rfl (by rw [hml]; rfl) (Steps.refl _) (argsL := []) (rest := []) (lenOf own_pd_2829J rfl) rfl (by show 2 * 0 + _ ≤ _; exact Nat.le_of_eq rfl) (hb hby at_60) (fun _ _ => ⟨rfl, rfl, (by decide : 1 + 0 ≤ _), (by decide : 1 + 0 ≤ _)⟩)
    dsimp only [Pt.U, Pt.locs, Pt.cells, Pt.slots] at X89 l89 y89 z89 st89 hQ89
    subst l89 y89 z89
    obtain ⟨rfl, N89q, K89q, p89_0, p89_1⟩ := hQ89
    have N89 := Fr.app N87 N89q
    have Z89 : n0 ≤ T89.heap.size := Nat.le_trans Z87 K89q.1
    refine own_go (fun _ k => st89.trans k) ?_
    have k91 : ∀ t, Steps p.tables e below (T89.setTop (mkF m 65 #[.val (.long p0), .second, .val (.int p1), .val (.long (-7046029254386353131 : Int64)), .second, .val (.int (3 : Int32)), .val (.ref b80), .val (.long (own_mix ((((p0 + (-7046029254386353131 : Int64)) + (-7046029254386353131 : Int64)) + (-7046029254386353131 : Int64)) + (-7046029254386353131 : Int64)))), .second, .unset, .unset, .unset, .unset, .unset, .unset, .unset, .unset, .unset] [])) t → Steps p.tables e below (T89.setTop (mkF m 63 #[.val (.long p0), .second, .val (.int p1), .val (.long (-7046029254386353131 : Int64)), .second, .val (.int (3 : Int32)), .val (.ref b80), .val (.long (own_mix (((p0 + (-7046029254386353131 : Int64)) + (-7046029254386353131 : Int64)) + (-7046029254386353131 : Int64)))), .second, .unset, .unset, .unset, .unset, .unset, .unset, .unset, .unset, .unset] [(.long (own_mix ((((p0 + (-7046029254386353131 : Int64)) + (-7046029254386353131 : Int64)) + (-7046029254386353131 : Int64)) + (-7046029254386353131 : Int64))))])) t := fun t k => by
      refine XS.lstore X89.here hx rfl (hb hby at_63) rfl (l' := #[.val (.long p0), .second, .val (.int p1), .val (.long (-7046029254386353131 : Int64)), .second, .val (.int (3 : Int32)), .val (.ref b80), .val (.long (own_mix ((((p0 + (-7046029254386353131 : Int64)) + (-7046029254386353131 : Int64)) + (-7046029254386353131 : Int64)) + (-7046029254386353131 : Int64)))), .second, .unset, .unset, .unset, .unset, .unset, .unset, .unset, .unset, .unset]) rfl ?_
      show Steps p.tables e below (T89.setTop (mkF m 65 #[.val (.long p0), .second, .val (.int p1), .val (.long (-7046029254386353131 : Int64)), .second, .val (.int (3 : Int32)), .val (.ref b80), .val (.long (own_mix ((((p0 + (-7046029254386353131 : Int64)) + (-7046029254386353131 : Int64)) + (-7046029254386353131 : Int64)) + (-7046029254386353131 : Int64)))), .second, .unset, .unset, .unset, .unset, .unset, .unset, .unset, .unset, .unset] [])) _
      exact k
    refine own_go k91 ?_
    clear k91
    obtain ⟨T92, h92, X92, e92, E92, A92, D92, -, st92⟩ := newO X89 hx hZ hown (hw _ (List.mem_of_getElem? (i := 1) rfl)) (hw _ (List.mem_of_getElem? (i := 2) rfl)) (hw _ (List.mem_of_getElem? (i := 3) rfl)) rfl (g := (mkF m 65 #[.val (.long p0), .second, .val (.int p1), .val (.long (-7046029254386353131 : Int64)), .second, .val (.int (3 : Int32)), .val (.ref b80), .val (.long (own_mix ((((p0 + (-7046029254386353131 : Int64)) + (-7046029254386353131 : Int64)) + (-7046029254386353131 : Int64)) + (-7046029254386353131 : Int64)))), .second, .unset, .unset, .unset, .unset, .unset, .unset, .unset, .unset, .unset] [])) rfl (hb hby at_65) (by decide) (by decide)
    obtain ⟨b92, g92⟩ : ∃ z, z = T89.heap.size := ⟨_, rfl⟩
    rw [← g92] at A92 D92 st92
    refine own_go st92 ?_
    have ne_b80_b92 : b80 ≠ b92 := Nat.ne_of_lt (Nat.lt_of_lt_of_le p89_0.lt (Nat.le_of_eq g92.symm))
    have f92_0 : Exa Z h92 b80 "com/example/composure/composure/generate/SplitMix64" := p89_0.ext E92
    have f92_1 : Fld Z h92 b80 "com/example/composure/composure/generate/SplitMix64" "state" "J" (.long ((((p0 + (-7046029254386353131 : Int64)) + (-7046029254386353131 : Int64)) + (-7046029254386353131 : Int64)) + (-7046029254386353131 : Int64))) := p89_1.ext E92
    have g_b92 : n0 ≤ b92 := Nat.le_trans Z89 (Nat.le_of_eq g92.symm)
    have Z92 : n0 ≤ h92.size := Nat.le_trans Z89 E92.1
    have F92_state : Fld Z h92 b92 "com/example/composure/composure/generate/SplitMix64" "state" "J" (.long (0 : Int64)) := D92 (Or.inl (hw _ (List.mem_of_getElem? (i := 11) rfl))) (ty := .long) (by decide)
    have k94 : ∀ t, Steps p.tables e below (T92.setTop (mkF m 76 #[.val (.long p0), .second, .val (.int p1), .val (.long (-7046029254386353131 : Int64)), .second, .val (.int (3 : Int32)), .val (.ref b80), .val (.long (own_mix ((((p0 + (-7046029254386353131 : Int64)) + (-7046029254386353131 : Int64)) + (-7046029254386353131 : Int64)) + (-7046029254386353131 : Int64)))), .second, .unset, .unset, .unset, .unset, .unset, .unset, .unset, .unset, .unset] [(.long (p0 + ((3 : Int32).toInt64 * (-7046029254386353131 : Int64)))), (.ref b92), (.ref b92)])) t → Steps p.tables e below (T92.setTop (mkF m 68 #[.val (.long p0), .second, .val (.int p1), .val (.long (-7046029254386353131 : Int64)), .second, .val (.int (3 : Int32)), .val (.ref b80), .val (.long (own_mix ((((p0 + (-7046029254386353131 : Int64)) + (-7046029254386353131 : Int64)) + (-7046029254386353131 : Int64)) + (-7046029254386353131 : Int64)))), .second, .unset, .unset, .unset, .unset, .unset, .unset, .unset, .unset, .unset] [(.ref b92)])) t := fun t k => by
      refine XS.dup X92.here hx rfl (hb hby at_68) rfl rfl ?_
      show Steps p.tables e below (T92.setTop (mkF m 69 #[.val (.long p0), .second, .val (.int p1), .val (.long (-7046029254386353131 : Int64)), .second, .val (.int (3 : Int32)), .val (.ref b80), .val (.long (own_mix ((((p0 + (-7046029254386353131 : Int64)) + (-7046029254386353131 : Int64)) + (-7046029254386353131 : Int64)) + (-7046029254386353131 : Int64)))), .second, .unset, .unset, .unset, .unset, .unset, .unset, .unset, .unset, .unset] [(.ref b92), (.ref b92)])) _
      refine XS.lloadN X92.here hx rfl (hb hby at_69) rfl ?_
      show Steps p.tables e below (T92.setTop (mkF m 70 #[.val (.long p0), .second, .val (.int p1), .val (.long (-7046029254386353131 : Int64)), .second, .val (.int (3 : Int32)), .val (.ref b80), .val (.long (own_mix ((((p0 + (-7046029254386353131 : Int64)) + (-7046029254386353131 : Int64)) + (-7046029254386353131 : Int64)) + (-7046029254386353131 : Int64)))), .second, .unset, .unset, .unset, .unset, .unset, .unset, .unset, .unset, .unset] [(.long p0), (.ref b92), (.ref b92)])) _
      refine XS.iload X92.here hx rfl (hb hby at_70) rfl ?_
      show Steps p.tables e below (T92.setTop (mkF m 72 #[.val (.long p0), .second, .val (.int p1), .val (.long (-7046029254386353131 : Int64)), .second, .val (.int (3 : Int32)), .val (.ref b80), .val (.long (own_mix ((((p0 + (-7046029254386353131 : Int64)) + (-7046029254386353131 : Int64)) + (-7046029254386353131 : Int64)) + (-7046029254386353131 : Int64)))), .second, .unset, .unset, .unset, .unset, .unset, .unset, .unset, .unset, .unset] [(.int (3 : Int32)), (.long p0), (.ref b92), (.ref b92)])) _
      refine XS.i2l X92.here hx rfl (hb hby at_72) rfl ?_
      show Steps p.tables e below (T92.setTop (mkF m 73 #[.val (.long p0), .second, .val (.int p1), .val (.long (-7046029254386353131 : Int64)), .second, .val (.int (3 : Int32)), .val (.ref b80), .val (.long (own_mix ((((p0 + (-7046029254386353131 : Int64)) + (-7046029254386353131 : Int64)) + (-7046029254386353131 : Int64)) + (-7046029254386353131 : Int64)))), .second, .unset, .unset, .unset, .unset, .unset, .unset, .unset, .unset, .unset] [(.long (3 : Int32).toInt64), (.long p0), (.ref b92), (.ref b92)])) _
      refine XS.lloadN X92.here hx rfl (hb hby at_73) rfl ?_
      show Steps p.tables e below (T92.setTop (mkF m 74 #[.val (.long p0), .second, .val (.int p1), .val (.long (-7046029254386353131 : Int64)), .second, .val (.int (3 : Int32)), .val (.ref b80), .val (.long (own_mix ((((p0 + (-7046029254386353131 : Int64)) + (-7046029254386353131 : Int64)) + (-7046029254386353131 : Int64)) + (-7046029254386353131 : Int64)))), .second, .unset, .unset, .unset, .unset, .unset, .unset, .unset, .unset, .unset] [(.long (-7046029254386353131 : Int64)), (.long (3 : Int32).toInt64), (.long p0), (.ref b92), (.ref b92)])) _
      refine XS.lmul X92.here hx rfl (hb hby at_74) rfl ?_
      show Steps p.tables e below (T92.setTop (mkF m 75 #[.val (.long p0), .second, .val (.int p1), .val (.long (-7046029254386353131 : Int64)), .second, .val (.int (3 : Int32)), .val (.ref b80), .val (.long (own_mix ((((p0 + (-7046029254386353131 : Int64)) + (-7046029254386353131 : Int64)) + (-7046029254386353131 : Int64)) + (-7046029254386353131 : Int64)))), .second, .unset, .unset, .unset, .unset, .unset, .unset, .unset, .unset, .unset] [(.long ((3 : Int32).toInt64 * (-7046029254386353131 : Int64))), (.long p0), (.ref b92), (.ref b92)])) _
      refine XS.ladd X92.here hx rfl (hb hby at_75) rfl ?_
      show Steps p.tables e below (T92.setTop (mkF m 76 #[.val (.long p0), .second, .val (.int p1), .val (.long (-7046029254386353131 : Int64)), .second, .val (.int (3 : Int32)), .val (.ref b80), .val (.long (own_mix ((((p0 + (-7046029254386353131 : Int64)) + (-7046029254386353131 : Int64)) + (-7046029254386353131 : Int64)) + (-7046029254386353131 : Int64)))), .second, .unset, .unset, .unset, .unset, .unset, .unset, .unset, .unset, .unset] [(.long (p0 + ((3 : Int32).toInt64 * (-7046029254386353131 : Int64)))), (.ref b92), (.ref b92)])) _
      exact k
    refine own_go k94 ?_
    clear k94
    obtain ⟨_, _, ⟨T93, L93, k93, n93⟩, -, X93, ⟨Lc93, hQ93, l93, y93, z93⟩, st93⟩ := X92.specialBack hx (y := (⟨"com/example/composure/composure/generate/SplitMix64", "<init>", "(J)V"⟩ : MethodName)) rfl hown (mvT hZ (hw _ (List.mem_of_getElem? (i := 4) rfl))) (mvT hZ (hw _ (List.mem_of_getElem? (i := 5) rfl))) (mvT hZ (hw _ (List.mem_of_getElem? (i := 6) rfl))) (by decide) (backOf (W := 1) (own_rm_init l Z a0 hw [] b92 (p0 + ((3 : Int32).toInt64 * (-7046029254386353131 : Int64))) (0 : Int64) h92 n0 Z92 F92_state A92 g_b92) hZ (hw _ (List.mem_of_getElem? (i := 6) rfl)) (hw _ (List.mem_of_getElem? (i := 3) rfl)) (by decide) (by decide)) (g := (mkF m 76 #[.val (.long p0), .second, .val (.int p1), .val (.long (-7046029254386353131 : Int64)), .second, .val (.int (3 : Int32)), .val (.ref b80), .val (.long (own_mix ((((p0 + (-7046029254386353131 : Int64)) + (-7046029254386353131 : Int64)) + (-7046029254386353131 : Int64)) + (-7046029254386353131 : Int64)))), .second, .unset, .unset, .unset, .unset, .unset, .unset, .unset, .unset, .unset] [(.long (p0 + ((3 : Int32).toInt64 * (-7046029254386353131 : Int64)))), (.ref b92), (.ref b92)])) rfl (by rw [hml]; rfl) (Steps.refl _) (a := b92) (argsL := [(.long (p0 + ((3 : Int32).toInt64 * (-7046029254386353131 : Int64))))]) (rest := [(.ref b92)]) (lenOf own_pd_28J29V rfl) rfl (by show 2 * 0 + _ ≤ _; exact Nat.le_of_eq rfl) (hb hby at_76) (fun _ _ => ⟨rfl, e92, (by decide : 2 + 0 ≤ _), (by decide : 2 + 0 ≤ _)⟩)
    dsimp only [Pt.U, Pt.locs, Pt.cells, Pt.slots] at X93 l93 y93 z93 st93 hQ93
    subst l93 y93 z93
    obtain ⟨rfl, N93q, K93q, p93_0, p93_1⟩ := hQ93
    have N93 := Fr.app N89 N93q
    have f93_0 : Exa Z T93.heap b80 "com/example/composure/composure/generate/SplitMix64" := f92_0.keep K93q
    have f93_1 : Fld Z T93.heap b80 "com/example/composure/composure/generate/SplitMix64" "state" "J" (.long ((((p0 + (-7046029254386353131 : Int64)) + (-7046029254386353131 : Int64)) + (-7046029254386353131 : Int64)) + (-7046029254386353131 : Int64))) := f92_1.keep K93q (ninS ne_b80_b92 nin0)
    have Z93 : n0 ≤ T93.heap.size := Nat.le_trans Z92 K93q.1
    refine own_go (fun _ k => st93.trans k) ?_
    have k96 : ∀ t, Steps p.tables e below (T93.setTop (mkF m 83 #[.val (.long p0), .second, .val (.int p1), .val (.long (-7046029254386353131 : Int64)), .second, .val (.int (3 : Int32)), .val (.ref b80), .val (.long (own_mix ((((p0 + (-7046029254386353131 : Int64)) + (-7046029254386353131 : Int64)) + (-7046029254386353131 : Int64)) + (-7046029254386353131 : Int64)))), .second, .val (.ref b92), .unset, .unset, .unset, .unset, .unset, .unset, .unset, .unset] [(.ref b92)])) t → Steps p.tables e below (T93.setTop (mkF m 79 #[.val (.long p0), .second, .val (.int p1), .val (.long (-7046029254386353131 : Int64)), .second, .val (.int (3 : Int32)), .val (.ref b80), .val (.long (own_mix ((((p0 + (-7046029254386353131 : Int64)) + (-7046029254386353131 : Int64)) + (-7046029254386353131 : Int64)) + (-7046029254386353131 : Int64)))), .second, .unset, .unset, .unset, .unset, .unset, .unset, .unset, .unset, .unset] [(.ref b92)])) t := fun t k => by
      refine XS.astore X93.here hx rfl (hb hby at_79) rfl rfl (l' := #[.val (.long p0), .second, .val (.int p1), .val (.long (-7046029254386353131 : Int64)), .second, .val (.int (3 : Int32)), .val (.ref b80), .val (.long (own_mix ((((p0 + (-7046029254386353131 : Int64)) + (-7046029254386353131 : Int64)) + (-7046029254386353131 : Int64)) + (-7046029254386353131 : Int64)))), .second, .val (.ref b92), .unset, .unset, .unset, .unset, .unset, .unset, .unset, .unset]) rfl ?_
      show Steps p.tables e below (T93.setTop (mkF m 81 #[.val (.long p0), .second, .val (.int p1), .val (.long (-7046029254386353131 : Int64)), .second, .val (.int (3 : Int32)), .val (.ref b80), .val (.long (own_mix ((((p0 + (-7046029254386353131 : Int64)) + (-7046029254386353131 : Int64)) + (-7046029254386353131 : Int64)) + (-7046029254386353131 : Int64)))), .second, .val (.ref b92), .unset, .unset, .unset, .unset, .unset, .unset, .unset, .unset] [])) _
      refine XS.aload X93.here hx rfl (hb hby at_81) rfl rfl ?_
      show Steps p.tables e below (T93.setTop (mkF m 83 #[.val (.long p0), .second, .val (.int p1), .val (.long (-7046029254386353131 : Int64)), .second, .val (.int (3 : Int32)), .val (.ref b80), .val (.long (own_mix ((((p0 + (-7046029254386353131 : Int64)) + (-7046029254386353131 : Int64)) + (-7046029254386353131 : Int64)) + (-7046029254386353131 : Int64)))), .second, .val (.ref b92), .unset, .unset, .unset, .unset, .unset, .unset, .unset, .unset] [(.ref b92)])) _
      exact k
    refine own_go k96 ?_
    clear k96
    obtain ⟨cq95, kq95, q95a, q95b, q95c⟩ := isOf hZ rfl p93_0
    obtain ⟨_, _, ⟨T95, L95, k95, n95⟩, -, X95, ⟨Lc95, hQ95, l95, y95, z95⟩, st95⟩ := X93.virtualBack hx (y := (⟨"com/example/composure/composure/generate/SplitMix64", "next", "()J"⟩ : MethodName)) (z := (⟨"com/example/composure/composure/generate/SplitMix64", "next", "()J"⟩ : MethodName)) hown (mvT hZ (hw _ (List.mem_of_getElem? (i := 12) rfl))) (mvT hZ (hw _ (List.mem_of_getElem? (i := 13) rfl))) (notFace_of_selects (args := #[]) (mvT hZ (hw _ (List.mem_of_getElem? (i := 15) rfl)))) (mvT hZ (hw _ (List.mem_of_getElem? (i := 15) rfl))) (mvT hZ (hw _ (List.mem_of_getElem? (i := 14) rfl))) (by decide) (backOf (W := 0) (own_rm_next l Z a0 hw [] b92 (p0 + ((3 : Int32).toInt64 * (-7046029254386353131 : Int64))) T93.heap n0 Z93 p93_1 p93_0 g_b92) hZ (hw _ (List.mem_of_getElem? (i := 16) rfl)) (hw _ (List.mem_of_getElem? (i := 3) rfl)) (by decide) (by decide)) q95a q95c (g := (mkF m 83 #[.val (.long p0), .second, .val (.int p1), .val (.long (-7046029254386353131 : Int64)), .second, .val (.int (3 : Int32)), .val (.ref b80), .val (.long (own_mix ((((p0 + (-7046029254386353131 : Int64)) + (-7046029254386353131 : Int64)) + (-7046029254386353131 : Int64)) + (-7046029254386353131 : Int64)))), .second, .val (.ref b92), .unset, .unset, .unset, .unset, .unset, .unset, .unset, .unset] [(.ref b92)])) rfl (by rw [hml]; rfl) (Steps.refl _) (argsL := []) (rest := []) (lenOf own_pd_2829J rfl) rfl (by show 2 * 0 + _ ≤ _; exact Nat.le_of_eq rfl) (hb hby at_83) (fun _ _ => ⟨rfl, rfl, (by decide : 2 + 0 ≤ _), (by decide : 2 + 0 ≤ _)⟩)
    dsimp only [Pt.U, Pt.locs, Pt.cells, Pt.slots] at X95 l95 y95 z95 st95 hQ95
    subst l95 y95 z95
    obtain ⟨rfl, N95q, K95q, p95_0, p95_1⟩ := hQ95
    have N95 := Fr.app N93 N95q
    have f95_0 : Exa Z T95.heap b80 "com/example/composure/composure/generate/SplitMix64" := f93_0.keep K95q
    have f95_1 : Fld Z T95.heap b80 "com/example/composure/composure/generate/SplitMix64" "state" "J" (.long ((((p0 + (-7046029254386353131 : Int64)) + (-7046029254386353131 : Int64)) + (-7046029254386353131 : Int64)) + (-7046029254386353131 : Int64))) := f93_1.keep K95q (ninS ne_b80_b92 nin0)
    have Z95 : n0 ≤ T95.heap.size := Nat.le_trans Z93 K95q.1
    refine own_go (fun _ k => st95.trans k) ?_
    have k98 : ∀ t, Steps p.tables e below (T95.setTop (mkF m 101 #[.val (.long p0), .second, .val (.int p1), .val (.long (-7046029254386353131 : Int64)), .second, .val (.int (3 : Int32)), .val (.ref b80), .val (.long (own_mix ((((p0 + (-7046029254386353131 : Int64)) + (-7046029254386353131 : Int64)) + (-7046029254386353131 : Int64)) + (-7046029254386353131 : Int64)))), .second, .val (.ref b92), .val (.int (1 : Int32)), .unset, .unset, .unset, .unset, .unset, .unset, .unset] [(.int (3 : Int32))])) t → Steps p.tables e below (T95.setTop (mkF m 86 #[.val (.long p0), .second, .val (.int p1), .val (.long (-7046029254386353131 : Int64)), .second, .val (.int (3 : Int32)), .val (.ref b80), .val (.long (own_mix ((((p0 + (-7046029254386353131 : Int64)) + (-7046029254386353131 : Int64)) + (-7046029254386353131 : Int64)) + (-7046029254386353131 : Int64)))), .second, .val (.ref b92), .unset, .unset, .unset, .unset, .unset, .unset, .unset, .unset] [(.long (own_mix ((p0 + ((3 : Int32).toInt64 * (-7046029254386353131 : Int64))) + (-7046029254386353131 : Int64))))])) t := fun t k => by
      refine XS.lload X95.here hx rfl (hb hby at_86) rfl ?_
      show Steps p.tables e below (T95.setTop (mkF m 88 #[.val (.long p0), .second, .val (.int p1), .val (.long (-7046029254386353131 : Int64)), .second, .val (.int (3 : Int32)), .val (.ref b80), .val (.long (own_mix ((((p0 + (-7046029254386353131 : Int64)) + (-7046029254386353131 : Int64)) + (-7046029254386353131 : Int64)) + (-7046029254386353131 : Int64)))), .second, .val (.ref b92), .unset, .unset, .unset, .unset, .unset, .unset, .unset, .unset] [(.long (own_mix ((((p0 + (-7046029254386353131 : Int64)) + (-7046029254386353131 : Int64)) + (-7046029254386353131 : Int64)) + (-7046029254386353131 : Int64)))), (.long (own_mix ((p0 + ((3 : Int32).toInt64 * (-7046029254386353131 : Int64))) + (-7046029254386353131 : Int64))))])) _
      refine XS.lcmp X95.here hx rfl (hb hby at_88) rfl ?_
      show Steps p.tables e below (T95.setTop (mkF m 89 #[.val (.long p0), .second, .val (.int p1), .val (.long (-7046029254386353131 : Int64)), .second, .val (.int (3 : Int32)), .val (.ref b80), .val (.long (own_mix ((((p0 + (-7046029254386353131 : Int64)) + (-7046029254386353131 : Int64)) + (-7046029254386353131 : Int64)) + (-7046029254386353131 : Int64)))), .second, .val (.ref b92), .unset, .unset, .unset, .unset, .unset, .unset, .unset, .unset] [(.int (lcmpW (own_mix ((p0 + ((3 : Int32).toInt64 * (-7046029254386353131 : Int64))) + (-7046029254386353131 : Int64))) (own_mix ((((p0 + (-7046029254386353131 : Int64)) + (-7046029254386353131 : Int64)) + (-7046029254386353131 : Int64)) + (-7046029254386353131 : Int64)))))])) _
      refine XS.ifNo X95.here hx rfl (hb hby at_89) rfl ((if0 _ _).trans (teq ((lw_eq _ _).mpr (congrArg own_mix (by simp only [Int64.add_assoc]; congr 1)))).2) ?_
      show Steps p.tables e below (T95.setTop (mkF m 92 #[.val (.long p0), .second, .val (.int p1), .val (.long (-7046029254386353131 : Int64)), .second, .val (.int (3 : Int32)), .val (.ref b80), .val (.long (own_mix ((((p0 + (-7046029254386353131 : Int64)) + (-7046029254386353131 : Int64)) + (-7046029254386353131 : Int64)) + (-7046029254386353131 : Int64)))), .second, .val (.ref b92), .unset, .unset, .unset, .unset, .unset, .unset, .unset, .unset] [])) _
      refine XS.iconst X95.here hx rfl (hb hby at_92) ?_
      show Steps p.tables e below (T95.setTop (mkF m 93 #[.val (.long p0), .second, .val (.int p1), .val (.long (-7046029254386353131 : Int64)), .second, .val (.int (3 : Int32)), .val (.ref b80), .val (.long (own_mix ((((p0 + (-7046029254386353131 : Int64)) + (-7046029254386353131 : Int64)) + (-7046029254386353131 : Int64)) + (-7046029254386353131 : Int64)))), .second, .val (.ref b92), .unset, .unset, .unset, .unset, .unset, .unset, .unset, .unset] [(.int (1 : Int32))])) _
      refine XS.goto X95.here hx rfl (pc0 := 93) (pc' := 97) rfl (hb hby at_93) (by decide) (by decide) ?_
      show Steps p.tables e below (T95.setTop (mkF m 97 #[.val (.long p0), .second, .val (.int p1), .val (.long (-7046029254386353131 : Int64)), .second, .val (.int (3 : Int32)), .val (.ref b80), .val (.long (own_mix ((((p0 + (-7046029254386353131 : Int64)) + (-7046029254386353131 : Int64)) + (-7046029254386353131 : Int64)) + (-7046029254386353131 : Int64)))), .second, .val (.ref b92), .unset, .unset, .unset, .unset, .unset, .unset, .unset, .unset] [(.int (1 : Int32))])) _
      refine XS.istore X95.here hx rfl (hb hby at_97) rfl (l' := #[.val (.long p0), .second, .val (.int p1), .val (.long (-7046029254386353131 : Int64)), .second, .val (.int (3 : Int32)), .val (.ref b80), .val (.long (own_mix ((((p0 + (-7046029254386353131 : Int64)) + (-7046029254386353131 : Int64)) + (-7046029254386353131 : Int64)) + (-7046029254386353131 : Int64)))), .second, .val (.ref b92), .val (.int (1 : Int32)), .unset, .unset, .unset, .unset, .unset, .unset, .unset]) rfl ?_
      show Steps p.tables e below (T95.setTop (mkF m 99 #[.val (.long p0), .second, .val (.int p1), .val (.long (-7046029254386353131 : Int64)), .second, .val (.int (3 : Int32)), .val (.ref b80), .val (.long (own_mix ((((p0 + (-7046029254386353131 : Int64)) + (-7046029254386353131 : Int64)) + (-7046029254386353131 : Int64)) + (-7046029254386353131 : Int64)))), .second, .val (.ref b92), .val (.int (1 : Int32)), .unset, .unset, .unset, .unset, .unset, .unset, .unset] [])) _
      refine XS.iload X95.here hx rfl (hb hby at_99) rfl ?_
      show Steps p.tables e below (T95.setTop (mkF m 101 #[.val (.long p0), .second, .val (.int p1), .val (.long (-7046029254386353131 : Int64)), .second, .val (.int (3 : Int32)), .val (.ref b80), .val (.long (own_mix ((((p0 + (-7046029254386353131 : Int64)) + (-7046029254386353131 : Int64)) + (-7046029254386353131 : Int64)) + (-7046029254386353131 : Int64)))), .second, .val (.ref b92), .val (.int (1 : Int32)), .unset, .unset, .unset, .unset, .unset, .unset, .unset] [(.int (3 : Int32))])) _
      exact k
    refine own_go k98 ?_
    clear k98
    obtain ⟨_, _, ⟨T97, L97, k97, n97⟩, -, X97, ⟨Lc97, hQ97, l97, y97, z97⟩, st97⟩ := Jvm.LawKit.callS X95 hx (y := (⟨"com/example/composure/composure/generate/SplitMix64NextPinLaw", "ref", "(I)J"⟩ : MethodName)) hown (mvT hZ (hw _ (List.mem_of_getElem? (i := 20) rfl))) (mvT hZ (hw _ (List.mem_of_getElem? (i := 21) rfl))) (mvT hZ (hw _ (List.mem_of_getElem? (i := 22) rfl))) (mvT hZ (hw _ (List.mem_of_getElem? (i := 23) rfl))) (by decide) (backOf (W := 0) (own_rm_ref l Z a0 hw [] (3 : Int32) T95.heap n0 Z95 ) hZ (hw _ (List.mem_of_getElem? (i := 23) rfl)) (hw _ (List.mem_of_getElem? (i := 22) rfl)) (by decide) (by decide)) (g := (mkF m 101 #[.val (.long p0), .second, .val (.int p1), .val (.long (-7046029254386353131 : Int64)), .second, .val (.int (3 : Int32)), .val (.ref b80), .val (.long (own_mix ((((p0 + (-7046029254386353131 : Int64)) + (-7046029254386353131 : Int64)) + (-7046029254386353131 : Int64)) + (-7046029254386353131 : Int64)))), .second, .val (.ref b92), .val (.int (1 : Int32)), .unset, .unset, .unset, .unset, .unset, .unset, .unset] [(.int (3 : Int32))])) rfl (by rw [hml]; rfl) (argsL := [(.int (3 : Int32))]) (rest := []) (lenOf own_pd_28I29J rfl) rfl (by show 2 * 0 + _ ≤ _; exact Nat.le_of_eq rfl) (hb hby at_101) (fun _ _ => ⟨rfl, rfl, (by decide : 2 + 0 ≤ _), (by decide : 2 + 0 ≤ _)⟩)
    dsimp only [Pt.U, Pt.locs, Pt.cells, Pt.slots] at X97 l97 y97 z97 st97 hQ97
    subst l97 y97 z97
    obtain ⟨rfl, N97q, eh97⟩ := hQ97
    have N97 := Fr.app N95 N97q
    refine own_go st97 ?_
    have k100 : ∀ t, Steps p.tables e below (T97.setTop (mkF m 110 #[.val (.long p0), .second, .val (.int p1), .val (.long (-7046029254386353131 : Int64)), .second, .val (.int (3 : Int32)), .val (.ref b80), .val (.long (own_mix ((((p0 + (-7046029254386353131 : Int64)) + (-7046029254386353131 : Int64)) + (-7046029254386353131 : Int64)) + (-7046029254386353131 : Int64)))), .second, .val (.ref b92), .val (.int (1 : Int32)), .val (.long (own_ref (3 : Int32))), .second, .unset, .unset, .unset, .unset, .unset] [(.int ((3 : Int32) + (1 : Int32)))])) t → Steps p.tables e below (T97.setTop (mkF m 104 #[.val (.long p0), .second, .val (.int p1), .val (.long (-7046029254386353131 : Int64)), .second, .val (.int (3 : Int32)), .val (.ref b80), .val (.long (own_mix ((((p0 + (-7046029254386353131 : Int64)) + (-7046029254386353131 : Int64)) + (-7046029254386353131 : Int64)) + (-7046029254386353131 : Int64)))), .second, .val (.ref b92), .val (.int (1 : Int32)), .unset, .unset, .unset, .unset, .unset, .unset, .unset] [(.long (own_ref (3 : Int32)))])) t := fun t k => by
      refine XS.lstore X97.here hx rfl (hb hby at_104) rfl (l' := #[.val (.long p0), .second, .val (.int p1), .val (.long (-7046029254386353131 : Int64)), .second, .val (.int (3 : Int32)), .val (.ref b80), .val (.long (own_mix ((((p0 + (-7046029254386353131 : Int64)) + (-7046029254386353131 : Int64)) + (-7046029254386353131 : Int64)) + (-7046029254386353131 : Int64)))), .second, .val (.ref b92), .val (.int (1 : Int32)), .val (.long (own_ref (3 : Int32))), .second, .unset, .unset, .unset, .unset, .unset]) rfl ?_
      show Steps p.tables e below (T97.setTop (mkF m 106 #[.val (.long p0), .second, .val (.int p1), .val (.long (-7046029254386353131 : Int64)), .second, .val (.int (3 : Int32)), .val (.ref b80), .val (.long (own_mix ((((p0 + (-7046029254386353131 : Int64)) + (-7046029254386353131 : Int64)) + (-7046029254386353131 : Int64)) + (-7046029254386353131 : Int64)))), .second, .val (.ref b92), .val (.int (1 : Int32)), .val (.long (own_ref (3 : Int32))), .second, .unset, .unset, .unset, .unset, .unset] [])) _
      refine XS.iload X97.here hx rfl (hb hby at_106) rfl ?_
      show Steps p.tables e below (T97.setTop (mkF m 108 #[.val (.long p0), .second, .val (.int p1), .val (.long (-7046029254386353131 : Int64)), .second, .val (.int (3 : Int32)), .val (.ref b80), .val (.long (own_mix ((((p0 + (-7046029254386353131 : Int64)) + (-7046029254386353131 : Int64)) + (-7046029254386353131 : Int64)) + (-7046029254386353131 : Int64)))), .second, .val (.ref b92), .val (.int (1 : Int32)), .val (.long (own_ref (3 : Int32))), .second, .unset, .unset, .unset, .unset, .unset] [(.int (3 : Int32))])) _
      refine XS.iconst X97.here hx rfl (hb hby at_108) ?_
      show Steps p.tables e below (T97.setTop (mkF m 109 #[.val (.long p0), .second, .val (.int p1), .val (.long (-7046029254386353131 : Int64)), .second, .val (.int (3 : Int32)), .val (.ref b80), .val (.long (own_mix ((((p0 + (-7046029254386353131 : Int64)) + (-7046029254386353131 : Int64)) + (-7046029254386353131 : Int64)) + (-7046029254386353131 : Int64)))), .second, .val (.ref b92), .val (.int (1 : Int32)), .val (.long (own_ref (3 : Int32))), .second, .unset, .unset, .unset, .unset, .unset] [(.int (1 : Int32)), (.int (3 : Int32))])) _
      refine XS.iadd X97.here hx rfl (hb hby at_109) rfl ?_
      show Steps p.tables e below (T97.setTop (mkF m 110 #[.val (.long p0), .second, .val (.int p1), .val (.long (-7046029254386353131 : Int64)), .second, .val (.int (3 : Int32)), .val (.ref b80), .val (.long (own_mix ((((p0 + (-7046029254386353131 : Int64)) + (-7046029254386353131 : Int64)) + (-7046029254386353131 : Int64)) + (-7046029254386353131 : Int64)))), .second, .val (.ref b92), .val (.int (1 : Int32)), .val (.long (own_ref (3 : Int32))), .second, .unset, .unset, .unset, .unset, .unset] [(.int ((3 : Int32) + (1 : Int32)))])) _
      exact k
    refine own_go k100 ?_
    clear k100
    obtain ⟨_, _, ⟨T99, L99, k99, n99⟩, -, X99, ⟨Lc99, hQ99, l99, y99, z99⟩, st99⟩ := Jvm.LawKit.callS X97 hx (y := (⟨"com/example/composure/composure/generate/SplitMix64NextPinLaw", "ref", "(I)J"⟩ : MethodName)) hown (mvT hZ (hw _ (List.mem_of_getElem? (i := 20) rfl))) (mvT hZ (hw _ (List.mem_of_getElem? (i := 21) rfl))) (mvT hZ (hw _ (List.mem_of_getElem? (i := 22) rfl))) (mvT hZ (hw _ (List.mem_of_getElem? (i := 23) rfl))) (by decide) (backOf (W := 0) (own_rm_ref l Z a0 hw [] ((3 : Int32) + (1 : Int32)) T95.heap n0 Z95 ) hZ (hw _ (List.mem_of_getElem? (i := 23) rfl)) (hw _ (List.mem_of_getElem? (i := 22) rfl)) (by decide) (by decide)) (g := (mkF m 110 #[.val (.long p0), .second, .val (.int p1), .val (.long (-7046029254386353131 : Int64)), .second, .val (.int (3 : Int32)), .val (.ref b80), .val (.long (own_mix ((((p0 + (-7046029254386353131 : Int64)) + (-7046029254386353131 : Int64)) + (-7046029254386353131 : Int64)) + (-7046029254386353131 : Int64)))), .second, .val (.ref b92), .val (.int (1 : Int32)), .val (.long (own_ref (3 : Int32))), .second, .unset, .unset, .unset, .unset, .unset] [(.int ((3 : Int32) + (1 : Int32)))])) rfl (by rw [hml]; rfl) (argsL := [(.int ((3 : Int32) + (1 : Int32)))]) (rest := []) (lenOf own_pd_28I29J rfl) rfl (by show 2 * 0 + _ ≤ _; exact Nat.le_of_eq rfl) (hb hby at_110) (fun _ _ => ⟨rfl, eh97, (by decide : 2 + 0 ≤ _), (by decide : 2 + 0 ≤ _)⟩)
    dsimp only [Pt.U, Pt.locs, Pt.cells, Pt.slots] at X99 l99 y99 z99 st99 hQ99
    subst l99 y99 z99
    obtain ⟨rfl, N99q, eh99⟩ := hQ99
    have N99 := Fr.app N97 N99q
    refine own_go st99 ?_
    have k101 : ∀ t, Steps p.tables e below (T99.setTop (mkF m 115 #[.val (.long p0), .second, .val (.int p1), .val (.long (-7046029254386353131 : Int64)), .second, .val (.int (3 : Int32)), .val (.ref b80), .val (.long (own_mix ((((p0 + (-7046029254386353131 : Int64)) + (-7046029254386353131 : Int64)) + (-7046029254386353131 : Int64)) + (-7046029254386353131 : Int64)))), .second, .val (.ref b92), .val (.int (1 : Int32)), .val (.long (own_ref (3 : Int32))), .second, .val (.long (own_ref ((3 : Int32) + (1 : Int32)))), .second, .unset, .unset, .unset] [])) t → Steps p.tables e below (T99.setTop (mkF m 113 #[.val (.long p0), .second, .val (.int p1), .val (.long (-7046029254386353131 : Int64)), .second, .val (.int (3 : Int32)), .val (.ref b80), .val (.long (own_mix ((((p0 + (-7046029254386353131 : Int64)) + (-7046029254386353131 : Int64)) + (-7046029254386353131 : Int64)) + (-7046029254386353131 : Int64)))), .second, .val (.ref b92), .val (.int (1 : Int32)), .val (.long (own_ref (3 : Int32))), .second, .unset, .unset, .unset, .unset, .unset] [(.long (own_ref ((3 : Int32) + (1 : Int32))))])) t := fun t k => by
      refine XS.lstore X99.here hx rfl (hb hby at_113) rfl (l' := #[.val (.long p0), .second, .val (.int p1), .val (.long (-7046029254386353131 : Int64)), .second, .val (.int (3 : Int32)), .val (.ref b80), .val (.long (own_mix ((((p0 + (-7046029254386353131 : Int64)) + (-7046029254386353131 : Int64)) + (-7046029254386353131 : Int64)) + (-7046029254386353131 : Int64)))), .second, .val (.ref b92), .val (.int (1 : Int32)), .val (.long (own_ref (3 : Int32))), .second, .val (.long (own_ref ((3 : Int32) + (1 : Int32)))), .second, .unset, .unset, .unset]) rfl ?_
      show Steps p.tables e below (T99.setTop (mkF m 115 #[.val (.long p0), .second, .val (.int p1), .val (.long (-7046029254386353131 : Int64)), .second, .val (.int (3 : Int32)), .val (.ref b80), .val (.long (own_mix ((((p0 + (-7046029254386353131 : Int64)) + (-7046029254386353131 : Int64)) + (-7046029254386353131 : Int64)) + (-7046029254386353131 : Int64)))), .second, .val (.ref b92), .val (.int (1 : Int32)), .val (.long (own_ref (3 : Int32))), .second, .val (.long (own_ref ((3 : Int32) + (1 : Int32)))), .second, .unset, .unset, .unset] [])) _
      exact k
    refine own_go k101 ?_
    clear k101
    obtain ⟨T102, h102, X102, e102, E102, A102, D102, -, st102⟩ := newO X99 hx hZ hown (hw _ (List.mem_of_getElem? (i := 1) rfl)) (hw _ (List.mem_of_getElem? (i := 2) rfl)) (hw _ (List.mem_of_getElem? (i := 3) rfl)) eh99 (g := (mkF m 115 #[.val (.long p0), .second, .val (.int p1), .val (.long (-7046029254386353131 : Int64)), .second, .val (.int (3 : Int32)), .val (.ref b80), .val (.long (own_mix ((((p0 + (-7046029254386353131 : Int64)) + (-7046029254386353131 : Int64)) + (-7046029254386353131 : Int64)) + (-7046029254386353131 : Int64)))), .second, .val (.ref b92), .val (.int (1 : Int32)), .val (.long (own_ref (3 : Int32))), .second, .val (.long (own_ref ((3 : Int32) + (1 : Int32)))), .second, .unset, .unset, .unset] [])) rfl (hb hby at_115) (by decide) (by decide)
    obtain ⟨b102, g102⟩ : ∃ z, z = T95.heap.size := ⟨_, rfl⟩
    rw [← g102] at A102 D102 st102
    refine own_go st102 ?_
    have ne_b80_b102 : b80 ≠ b102 := Nat.ne_of_lt (Nat.lt_of_lt_of_le f95_0.lt (Nat.le_of_eq g102.symm))
    have ne_b92_b102 : b92 ≠ b102 := Nat.ne_of_lt (Nat.lt_of_lt_of_le p95_0.lt (Nat.le_of_eq g102.symm))
    have f102_0 : Exa Z h102 b80 "com/example/composure/composure/generate/SplitMix64" := f95_0.ext E102
    have f102_1 : Fld Z h102 b80 "com/example/composure/composure/generate/SplitMix64" "state" "J" (.long ((((p0 + (-7046029254386353131 : Int64)) + (-7046029254386353131 : Int64)) + (-7046029254386353131 : Int64)) + (-7046029254386353131 : Int64))) := f95_1.ext E102
    have f102_2 : Exa Z h102 b92 "com/example/composure/composure/generate/SplitMix64" := p95_0.ext E102
    have f102_3 : Fld Z h102 b92 "com/example/composure/composure/generate/SplitMix64" "state" "J" (.long ((p0 + ((3 : Int32).toInt64 * (-7046029254386353131 : Int64))) + (-7046029254386353131 : Int64))) := p95_1.ext E102
    have g_b102 : n0 ≤ b102 := Nat.le_trans Z95 (Nat.le_of_eq g102.symm)
    have Z102 : n0 ≤ h102.size := Nat.le_trans Z95 E102.1
    have F102_state : Fld Z h102 b102 "com/example/composure/composure/generate/SplitMix64" "state" "J" (.long (0 : Int64)) := D102 (Or.inl (hw _ (List.mem_of_getElem? (i := 11) rfl))) (ty := .long) (by decide)
    have k104 : ∀ t, Steps p.tables e below (T102.setTop (mkF m 128 #[.val (.long p0), .second, .val (.int p1), .val (.long (-7046029254386353131 : Int64)), .second, .val (.int (3 : Int32)), .val (.ref b80), .val (.long (own_mix ((((p0 + (-7046029254386353131 : Int64)) + (-7046029254386353131 : Int64)) + (-7046029254386353131 : Int64)) + (-7046029254386353131 : Int64)))), .second, .val (.ref b92), .val (.int (1 : Int32)), .val (.long (own_ref (3 : Int32))), .second, .val (.long (own_ref ((3 : Int32) + (1 : Int32)))), .second, .unset, .unset, .unset] [(.long ((1234567 : Int64) + ((3 : Int32).toInt64 * (-7046029254386353131 : Int64)))), (.ref b102), (.ref b102)])) t → Steps p.tables e below (T102.setTop (mkF m 118 #[.val (.long p0), .second, .val (.int p1), .val (.long (-7046029254386353131 : Int64)), .second, .val (.int (3 : Int32)), .val (.ref b80), .val (.long (own_mix ((((p0 + (-7046029254386353131 : Int64)) + (-7046029254386353131 : Int64)) + (-7046029254386353131 : Int64)) + (-7046029254386353131 : Int64)))), .second, .val (.ref b92), .val (.int (1 : Int32)), .val (.long (own_ref (3 : Int32))), .second, .val (.long (own_ref ((3 : Int32) + (1 : Int32)))), .second, .unset, .unset, .unset] [(.ref b102)])) t := fun t k => by
      refine XS.dup X102.here hx rfl (hb hby at_118) rfl rfl ?_
      show Steps p.tables e below (T102.setTop (mkF m 119 #[.val (.long p0), .second, .val (.int p1), .val (.long (-7046029254386353131 : Int64)), .second, .val (.int (3 : Int32)), .val (.ref b80), .val (.long (own_mix ((((p0 + (-7046029254386353131 : Int64)) + (-7046029254386353131 : Int64)) + (-7046029254386353131 : Int64)) + (-7046029254386353131 : Int64)))), .second, .val (.ref b92), .val (.int (1 : Int32)), .val (.long (own_ref (3 : Int32))), .second, .val (.long (own_ref ((3 : Int32) + (1 : Int32)))), .second, .unset, .unset, .unset] [(.ref b102), (.ref b102)])) _
      refine X102.ldc2Long hx hown (mvT hZ (hw _ (List.mem_of_getElem? (i := 26) rfl))) (g := (mkF m 119 #[.val (.long p0), .second, .val (.int p1), .val (.long (-7046029254386353131 : Int64)), .second, .val (.int (3 : Int32)), .val (.ref b80), .val (.long (own_mix ((((p0 + (-7046029254386353131 : Int64)) + (-7046029254386353131 : Int64)) + (-7046029254386353131 : Int64)) + (-7046029254386353131 : Int64)))), .second, .val (.ref b92), .val (.int (1 : Int32)), .val (.long (own_ref (3 : Int32))), .second, .val (.long (own_ref ((3 : Int32) + (1 : Int32)))), .second, .unset, .unset, .unset] [(.ref b102), (.ref b102)])) rfl (hb hby at_119) _ ?_
      show Steps p.tables e below (T102.setTop (mkF m 122 #[.val (.long p0), .second, .val (.int p1), .val (.long (-7046029254386353131 : Int64)), .second, .val (.int (3 : Int32)), .val (.ref b80), .val (.long (own_mix ((((p0 + (-7046029254386353131 : Int64)) + (-7046029254386353131 : Int64)) + (-7046029254386353131 : Int64)) + (-7046029254386353131 : Int64)))), .second, .val (.ref b92), .val (.int (1 : Int32)), .val (.long (own_ref (3 : Int32))), .second, .val (.long (own_ref ((3 : Int32) + (1 : Int32)))), .second, .unset, .unset, .unset] [(.long (1234567 : Int64)), (.ref b102), (.ref b102)])) _
      refine XS.iload X102.here hx rfl (hb hby at_122) rfl ?_
      show Steps p.tables e below (T102.setTop (mkF m 124 #[.val (.long p0), .second, .val (.int p1), .val (.long (-7046029254386353131 : Int64)), .second, .val (.int (3 : Int32)), .val (.ref b80), .val (.long (own_mix ((((p0 + (-7046029254386353131 : Int64)) + (-7046029254386353131 : Int64)) + (-7046029254386353131 : Int64)) + (-7046029254386353131 : Int64)))), .second, .val (.ref b92), .val (.int (1 : Int32)), .val (.long (own_ref (3 : Int32))), .second, .val (.long (own_ref ((3 : Int32) + (1 : Int32)))), .second, .unset, .unset, .unset] [(.int (3 : Int32)), (.long (1234567 : Int64)), (.ref b102), (.ref b102)])) _
      refine XS.i2l X102.here hx rfl (hb hby at_124) rfl ?_
      show Steps p.tables e below (T102.setTop (mkF m 125 #[.val (.long p0), .second, .val (.int p1), .val (.long (-7046029254386353131 : Int64)), .second, .val (.int (3 : Int32)), .val (.ref b80), .val (.long (own_mix ((((p0 + (-7046029254386353131 : Int64)) + (-7046029254386353131 : Int64)) + (-7046029254386353131 : Int64)) + (-7046029254386353131 : Int64)))), .second, .val (.ref b92), .val (.int (1 : Int32)), .val (.long (own_ref (3 : Int32))), .second, .val (.long (own_ref ((3 : Int32) + (1 : Int32)))), .second, .unset, .unset, .unset] [(.long (3 : Int32).toInt64), (.long (1234567 : Int64)), (.ref b102), (.ref b102)])) _
      refine XS.lloadN X102.here hx rfl (hb hby at_125) rfl ?_
      show Steps p.tables e below (T102.setTop (mkF m 126 #[.val (.long p0), .second, .val (.int p1), .val (.long (-7046029254386353131 : Int64)), .second, .val (.int (3 : Int32)), .val (.ref b80), .val (.long (own_mix ((((p0 + (-7046029254386353131 : Int64)) + (-7046029254386353131 : Int64)) + (-7046029254386353131 : Int64)) + (-7046029254386353131 : Int64)))), .second, .val (.ref b92), .val (.int (1 : Int32)), .val (.long (own_ref (3 : Int32))), .second, .val (.long (own_ref ((3 : Int32) + (1 : Int32)))), .second, .unset, .unset, .unset] [(.long (-7046029254386353131 : Int64)), (.long (3 : Int32).toInt64), (.long (1234567 : Int64)), (.ref b102), (.ref b102)])) _
      refine XS.lmul X102.here hx rfl (hb hby at_126) rfl ?_
      show Steps p.tables e below (T102.setTop (mkF m 127 #[.val (.long p0), .second, .val (.int p1), .val (.long (-7046029254386353131 : Int64)), .second, .val (.int (3 : Int32)), .val (.ref b80), .val (.long (own_mix ((((p0 + (-7046029254386353131 : Int64)) + (-7046029254386353131 : Int64)) + (-7046029254386353131 : Int64)) + (-7046029254386353131 : Int64)))), .second, .val (.ref b92), .val (.int (1 : Int32)), .val (.long (own_ref (3 : Int32))), .second, .val (.long (own_ref ((3 : Int32) + (1 : Int32)))), .second, .unset, .unset, .unset] [(.long ((3 : Int32).toInt64 * (-7046029254386353131 : Int64))), (.long (1234567 : Int64)), (.ref b102), (.ref b102)])) _
      refine XS.ladd X102.here hx rfl (hb hby at_127) rfl ?_
      show Steps p.tables e below (T102.setTop (mkF m 128 #[.val (.long p0), .second, .val (.int p1), .val (.long (-7046029254386353131 : Int64)), .second, .val (.int (3 : Int32)), .val (.ref b80), .val (.long (own_mix ((((p0 + (-7046029254386353131 : Int64)) + (-7046029254386353131 : Int64)) + (-7046029254386353131 : Int64)) + (-7046029254386353131 : Int64)))), .second, .val (.ref b92), .val (.int (1 : Int32)), .val (.long (own_ref (3 : Int32))), .second, .val (.long (own_ref ((3 : Int32) + (1 : Int32)))), .second, .unset, .unset, .unset] [(.long ((1234567 : Int64) + ((3 : Int32).toInt64 * (-7046029254386353131 : Int64)))), (.ref b102), (.ref b102)])) _
      exact k
    refine own_go k104 ?_
    clear k104
    obtain ⟨_, _, ⟨T103, L103, k103, n103⟩, -, X103, ⟨Lc103, hQ103, l103, y103, z103⟩, st103⟩ := X102.specialBack hx (y := (⟨"com/example/composure/composure/generate/SplitMix64", "<init>", "(J)V"⟩ : MethodName)) rfl hown (mvT hZ (hw _ (List.mem_of_getElem? (i := 4) rfl))) (mvT hZ (hw _ (List.mem_of_getElem? (i := 5) rfl))) (mvT hZ (hw _ (List.mem_of_getElem? (i := 6) rfl))) (by decide) (backOf (W := 1) (own_rm_init l Z a0 hw [] b102 ((1234567 : Int64) + ((3 : Int32).toInt64 * (-7046029254386353131 : Int64))) (0 : Int64) h102 n0 Z102 F102_state A102 g_b102) hZ (hw _ (List.mem_of_getElem? (i := 6) rfl)) (hw _ (List.mem_of_getElem? (i := 3) rfl)) (by decide) (by decide)) (g := (mkF m 128 #[.val (.long p0), .second, .val (.int p1), .val (.long (-7046029254386353131 : Int64)), .second, .val (.int (3 : Int32)), .val (.ref b80), .val (.long (own_mix ((((p0 + (-7046029254386353131 : Int64)) + (-7046029254386353131 : Int64)) + (-7046029254386353131 : Int64)) + (-7046029254386353131 : Int64)))), .second, .val (.ref b92), .val (.int (1 : Int32)), .val (.long (own_ref (3 : Int32))), .second, .val (.long (own_ref ((3 : Int32) + (1 : Int32)))), .second, .unset, .unset, .unset] [(.long ((1234567 : Int64) + ((3 : Int32).toInt64 * (-7046029254386353131 : Int64)))), (.ref b102), (.ref b102)])) rfl (by rw [hml]; rfl) (Steps.refl _) (a := b102) (argsL := [(.long ((1234567 : Int64) + ((3 : Int32).toInt64 * (-7046029254386353131 : Int64))))]) (rest := [(.ref b102)]) (lenOf own_pd_28J29V rfl) rfl (by show 2 * 0 + _ ≤ _; exact Nat.le_of_eq rfl) (hb hby at_128) (fun _ _ => ⟨rfl, e102, (by decide : 3 + 0 ≤ _), (by decide : 3 + 0 ≤ _)⟩)
    dsimp only [Pt.U, Pt.locs, Pt.cells, Pt.slots] at X103 l103 y103 z103 st103 hQ103
    subst l103 y103 z103
    obtain ⟨rfl, N103q, K103q, p103_0, p103_1⟩ := hQ103
    have N103 := Fr.app N99 N103q
    have f103_0 : Exa Z T103.heap b80 "com/example/composure/composure/generate/SplitMix64" := f102_0.keep K103q
    have f103_1 : Fld Z T103.heap b80 "com/example/composure/composure/generate/SplitMix64" "state" "J" (.long ((((p0 + (-7046029254386353131 : Int64)) + (-7046029254386353131 : Int64)) + (-7046029254386353131 : Int64)) + (-7046029254386353131 : Int64))) := f102_1.keep K103q (ninS ne_b80_b102 nin0)
    have f103_2 : Exa Z T103.heap b92 "com/example/composure/composure/generate/SplitMix64" := f102_2.keep K103q
    have f103_3 : Fld Z T103.heap b92 "com/example/composure/composure/generate/SplitMix64" "state" "J" (.long ((p0 + ((3 : Int32).toInt64 * (-7046029254386353131 : Int64))) + (-7046029254386353131 : Int64))) := f102_3.keep K103q (ninS ne_b92_b102 nin0)
    have Z103 : n0 ≤ T103.heap.size := Nat.le_trans Z102 K103q.1
    refine own_go (fun _ k => st103.trans k) ?_
    have k106 : ∀ t, Steps p.tables e below (T103.setTop (mkF m 135 #[.val (.long p0), .second, .val (.int p1), .val (.long (-7046029254386353131 : Int64)), .second, .val (.int (3 : Int32)), .val (.ref b80), .val (.long (own_mix ((((p0 + (-7046029254386353131 : Int64)) + (-7046029254386353131 : Int64)) + (-7046029254386353131 : Int64)) + (-7046029254386353131 : Int64)))), .second, .val (.ref b92), .val (.int (1 : Int32)), .val (.long (own_ref (3 : Int32))), .second, .val (.long (own_ref ((3 : Int32) + (1 : Int32)))), .second, .val (.ref b102), .unset, .unset] [(.ref b102)])) t → Steps p.tables e below (T103.setTop (mkF m 131 #[.val (.long p0), .second, .val (.int p1), .val (.long (-7046029254386353131 : Int64)), .second, .val (.int (3 : Int32)), .val (.ref b80), .val (.long (own_mix ((((p0 + (-7046029254386353131 : Int64)) + (-7046029254386353131 : Int64)) + (-7046029254386353131 : Int64)) + (-7046029254386353131 : Int64)))), .second, .val (.ref b92), .val (.int (1 : Int32)), .val (.long (own_ref (3 : Int32))), .second, .val (.long (own_ref ((3 : Int32) + (1 : Int32)))), .second, .unset, .unset, .unset] [(.ref b102)])) t := fun t k => by
      refine XS.astore X103.here hx rfl (hb hby at_131) rfl rfl (l' := #[.val (.long p0), .second, .val (.int p1), .val (.long (-7046029254386353131 : Int64)), .second, .val (.int (3 : Int32)), .val (.ref b80), .val (.long (own_mix ((((p0 + (-7046029254386353131 : Int64)) + (-7046029254386353131 : Int64)) + (-7046029254386353131 : Int64)) + (-7046029254386353131 : Int64)))), .second, .val (.ref b92), .val (.int (1 : Int32)), .val (.long (own_ref (3 : Int32))), .second, .val (.long (own_ref ((3 : Int32) + (1 : Int32)))), .second, .val (.ref b102), .unset, .unset]) rfl ?_
      show Steps p.tables e below (T103.setTop (mkF m 133 #[.val (.long p0), .second, .val (.int p1), .val (.long (-7046029254386353131 : Int64)), .second, .val (.int (3 : Int32)), .val (.ref b80), .val (.long (own_mix ((((p0 + (-7046029254386353131 : Int64)) + (-7046029254386353131 : Int64)) + (-7046029254386353131 : Int64)) + (-7046029254386353131 : Int64)))), .second, .val (.ref b92), .val (.int (1 : Int32)), .val (.long (own_ref (3 : Int32))), .second, .val (.long (own_ref ((3 : Int32) + (1 : Int32)))), .second, .val (.ref b102), .unset, .unset] [])) _
      refine XS.aload X103.here hx rfl (hb hby at_133) rfl rfl ?_
      show Steps p.tables e below (T103.setTop (mkF m 135 #[.val (.long p0), .second, .val (.int p1), .val (.long (-7046029254386353131 : Int64)), .second, .val (.int (3 : Int32)), .val (.ref b80), .val (.long (own_mix ((((p0 + (-7046029254386353131 : Int64)) + (-7046029254386353131 : Int64)) + (-7046029254386353131 : Int64)) + (-7046029254386353131 : Int64)))), .second, .val (.ref b92), .val (.int (1 : Int32)), .val (.long (own_ref (3 : Int32))), .second, .val (.long (own_ref ((3 : Int32) + (1 : Int32)))), .second, .val (.ref b102), .unset, .unset] [(.ref b102)])) _
      exact k
    refine own_go k106 ?_
    clear k106
    obtain ⟨cq105, kq105, q105a, q105b, q105c⟩ := isOf hZ rfl p103_0
    obtain ⟨_, _, ⟨T105, L105, k105, n105⟩, -, X105, ⟨Lc105, hQ105, l105, y105, z105⟩, st105⟩ := X103.virtualBack hx (y := (⟨"com/example/composure/composure/generate/SplitMix64", "next", "()J"⟩ : MethodName)) (z := (⟨"com/example/composure/composure/generate/SplitMix64", "next", "()J"⟩ : MethodName)) hown (mvT hZ (hw _ (List.mem_of_getElem? (i := 12) rfl))) (mvT hZ (hw _ (List.mem_of_getElem? (i := 13) rfl))) (notFace_of_selects (args := #[]) (mvT hZ (hw _ (List.mem_of_getElem? (i := 15) rfl)))) (mvT hZ (hw _ (List.mem_of_getElem? (i := 15) rfl))) (mvT hZ (hw _ (List.mem_of_getElem? (i := 14) rfl))) (by decide) (backOf (W := 0) (own_rm_next l Z a0 hw [] b102 ((1234567 : Int64) + ((3 : Int32).toInt64 * (-7046029254386353131 : Int64))) T103.heap n0 Z103 p103_1 p103_0 g_b102) hZ (hw _ (List.mem_of_getElem? (i := 16) rfl)) (hw _ (List.mem_of_getElem? (i := 3) rfl)) (by decide) (by decide)) q105a q105c (g := (mkF m 135 #[.val (.long p0), .second, .val (.int p1), .val (.long (-7046029254386353131 : Int64)), .second, .val (.int (3 : Int32)), .val (.ref b80), .val (.long (own_mix ((((p0 + (-7046029254386353131 : Int64)) + (-7046029254386353131 : Int64)) + (-7046029254386353131 : Int64)) + (-7046029254386353131 : Int64)))), .second, .val (.ref b92), .val (.int (1 : Int32)), .val (.long (own_ref (3 : Int32))), .second, .val (.long (own_ref ((3 : Int32) + (1 : Int32)))), .second, .val (.ref b102), .unset, .unset] [(.ref b102)])) rfl (by rw [hml]; rfl) (Steps.refl _) (argsL := []) (rest := []) (lenOf own_pd_2829J rfl) rfl (by show 2 * 0 + _ ≤ _; exact Nat.le_of_eq rfl) (hb hby at_135) (fun _ _ => ⟨rfl, rfl, (by decide : 3 + 0 ≤ _), (by decide : 3 + 0 ≤ _)⟩)
    dsimp only [Pt.U, Pt.locs, Pt.cells, Pt.slots] at X105 l105 y105 z105 st105 hQ105
    subst l105 y105 z105
    obtain ⟨rfl, N105q, K105q, p105_0, p105_1⟩ := hQ105
    have N105 := Fr.app N103 N105q
    have f105_0 : Exa Z T105.heap b80 "com/example/composure/composure/generate/SplitMix64" := f103_0.keep K105q
    have f105_1 : Fld Z T105.heap b80 "com/example/composure/composure/generate/SplitMix64" "state" "J" (.long ((((p0 + (-7046029254386353131 : Int64)) + (-7046029254386353131 : Int64)) + (-7046029254386353131 : Int64)) + (-7046029254386353131 : Int64))) := f103_1.keep K105q (ninS ne_b80_b102 nin0)
    have f105_2 : Exa Z T105.heap b92 "com/example/composure/composure/generate/SplitMix64" := f103_2.keep K105q
    have f105_3 : Fld Z T105.heap b92 "com/example/composure/composure/generate/SplitMix64" "state" "J" (.long ((p0 + ((3 : Int32).toInt64 * (-7046029254386353131 : Int64))) + (-7046029254386353131 : Int64))) := f103_3.keep K105q (ninS ne_b92_b102 nin0)
    have Z105 : n0 ≤ T105.heap.size := Nat.le_trans Z103 K105q.1
    refine own_go (fun _ k => st105.trans k) ?_
    have k108 : ∀ t, Steps p.tables e below (T105.setTop (mkF m 153 #[.val (.long p0), .second, .val (.int p1), .val (.long (-7046029254386353131 : Int64)), .second, .val (.int (3 : Int32)), .val (.ref b80), .val (.long (own_mix ((((p0 + (-7046029254386353131 : Int64)) + (-7046029254386353131 : Int64)) + (-7046029254386353131 : Int64)) + (-7046029254386353131 : Int64)))), .second, .val (.ref b92), .val (.int (1 : Int32)), .val (.long (own_ref (3 : Int32))), .second, .val (.long (own_ref ((3 : Int32) + (1 : Int32)))), .second, .val (.ref b102), .val (.int (1 : Int32)), .unset] [(.ref b102)])) t → Steps p.tables e below (T105.setTop (mkF m 138 #[.val (.long p0), .second, .val (.int p1), .val (.long (-7046029254386353131 : Int64)), .second, .val (.int (3 : Int32)), .val (.ref b80), .val (.long (own_mix ((((p0 + (-7046029254386353131 : Int64)) + (-7046029254386353131 : Int64)) + (-7046029254386353131 : Int64)) + (-7046029254386353131 : Int64)))), .second, .val (.ref b92), .val (.int (1 : Int32)), .val (.long (own_ref (3 : Int32))), .second, .val (.long (own_ref ((3 : Int32) + (1 : Int32)))), .second, .val (.ref b102), .unset, .unset] [(.long (own_mix (((1234567 : Int64) + ((3 : Int32).toInt64 * (-7046029254386353131 : Int64))) + (-7046029254386353131 : Int64))))])) t := fun t k => by
      refine XS.lload X105.here hx rfl (hb hby at_138) rfl ?_
      show Steps p.tables e below (T105.setTop (mkF m 140 #[.val (.long p0), .second, .val (.int p1), .val (.long (-7046029254386353131 : Int64)), .second, .val (.int (3 : Int32)), .val (.ref b80), .val (.long (own_mix ((((p0 + (-7046029254386353131 : Int64)) + (-7046029254386353131 : Int64)) + (-7046029254386353131 : Int64)) + (-7046029254386353131 : Int64)))), .second, .val (.ref b92), .val (.int (1 : Int32)), .val (.long (own_ref (3 : Int32))), .second, .val (.long (own_ref ((3 : Int32) + (1 : Int32)))), .second, .val (.ref b102), .unset, .unset] [(.long (own_ref (3 : Int32))), (.long (own_mix (((1234567 : Int64) + ((3 : Int32).toInt64 * (-7046029254386353131 : Int64))) + (-7046029254386353131 : Int64))))])) _
      refine XS.lcmp X105.here hx rfl (hb hby at_140) rfl ?_
      show Steps p.tables e below (T105.setTop (mkF m 141 #[.val (.long p0), .second, .val (.int p1), .val (.long (-7046029254386353131 : Int64)), .second, .val (.int (3 : Int32)), .val (.ref b80), .val (.long (own_mix ((((p0 + (-7046029254386353131 : Int64)) + (-7046029254386353131 : Int64)) + (-7046029254386353131 : Int64)) + (-7046029254386353131 : Int64)))), .second, .val (.ref b92), .val (.int (1 : Int32)), .val (.long (own_ref (3 : Int32))), .second, .val (.long (own_ref ((3 : Int32) + (1 : Int32)))), .second, .val (.ref b102), .unset, .unset] [(.int (lcmpW (own_mix (((1234567 : Int64) + ((3 : Int32).toInt64 * (-7046029254386353131 : Int64))) + (-7046029254386353131 : Int64))) (own_ref (3 : Int32))))])) _
      refine XS.ifNo X105.here hx rfl (hb hby at_141) rfl ((if0 _ _).trans (teq ((lw_eq _ _).mpr (by decide +kernel))).2) ?_
      show Steps p.tables e below (T105.setTop (mkF m 144 #[.val (.long p0), .second, .val (.int p1), .val (.long (-7046029254386353131 : Int64)), .second, .val (.int (3 : Int32)), .val (.ref b80), .val (.long (own_mix ((((p0 + (-7046029254386353131 : Int64)) + (-7046029254386353131 : Int64)) + (-7046029254386353131 : Int64)) + (-7046029254386353131 : Int64)))), .second, .val (.ref b92), .val (.int (1 : Int32)), .val (.long (own_ref (3 : Int32))), .second, .val (.long (own_ref ((3 : Int32) + (1 : Int32)))), .second, .val (.ref b102), .unset, .unset] [])) _
      refine XS.iconst X105.here hx rfl (hb hby at_144) ?_
      show Steps p.tables e below (T105.setTop (mkF m 145 #[.val (.long p0), .second, .val (.int p1), .val (.long (-7046029254386353131 : Int64)), .second, .val (.int (3 : Int32)), .val (.ref b80), .val (.long (own_mix ((((p0 + (-7046029254386353131 : Int64)) + (-7046029254386353131 : Int64)) + (-7046029254386353131 : Int64)) + (-7046029254386353131 : Int64)))), .second, .val (.ref b92), .val (.int (1 : Int32)), .val (.long (own_ref (3 : Int32))), .second, .val (.long (own_ref ((3 : Int32) + (1 : Int32)))), .second, .val (.ref b102), .unset, .unset] [(.int (1 : Int32))])) _
      refine XS.goto X105.here hx rfl (pc0 := 145) (pc' := 149) rfl (hb hby at_145) (by decide) (by decide) ?_
      show Steps p.tables e below (T105.setTop (mkF m 149 #[.val (.long p0), .second, .val (.int p1), .val (.long (-7046029254386353131 : Int64)), .second, .val (.int (3 : Int32)), .val (.ref b80), .val (.long (own_mix ((((p0 + (-7046029254386353131 : Int64)) + (-7046029254386353131 : Int64)) + (-7046029254386353131 : Int64)) + (-7046029254386353131 : Int64)))), .second, .val (.ref b92), .val (.int (1 : Int32)), .val (.long (own_ref (3 : Int32))), .second, .val (.long (own_ref ((3 : Int32) + (1 : Int32)))), .second, .val (.ref b102), .unset, .unset] [(.int (1 : Int32))])) _
      refine XS.istore X105.here hx rfl (hb hby at_149) rfl (l' := #[.val (.long p0), .second, .val (.int p1), .val (.long (-7046029254386353131 : Int64)), .second, .val (.int (3 : Int32)), .val (.ref b80), .val (.long (own_mix ((((p0 + (-7046029254386353131 : Int64)) + (-7046029254386353131 : Int64)) + (-7046029254386353131 : Int64)) + (-7046029254386353131 : Int64)))), .second, .val (.ref b92), .val (.int (1 : Int32)), .val (.long (own_ref (3 : Int32))), .second, .val (.long (own_ref ((3 : Int32) + (1 : Int32)))), .second, .val (.ref b102), .val (.int (1 : Int32)), .unset]) rfl ?_
      show Steps p.tables e below (T105.setTop (mkF m 151 #[.val (.long p0), .second, .val (.int p1), .val (.long (-7046029254386353131 : Int64)), .second, .val (.int (3 : Int32)), .val (.ref b80), .val (.long (own_mix ((((p0 + (-7046029254386353131 : Int64)) + (-7046029254386353131 : Int64)) + (-7046029254386353131 : Int64)) + (-7046029254386353131 : Int64)))), .second, .val (.ref b92), .val (.int (1 : Int32)), .val (.long (own_ref (3 : Int32))), .second, .val (.long (own_ref ((3 : Int32) + (1 : Int32)))), .second, .val (.ref b102), .val (.int (1 : Int32)), .unset] [])) _
      refine XS.aload X105.here hx rfl (hb hby at_151) rfl rfl ?_
      show Steps p.tables e below (T105.setTop (mkF m 153 #[.val (.long p0), .second, .val (.int p1), .val (.long (-7046029254386353131 : Int64)), .second, .val (.int (3 : Int32)), .val (.ref b80), .val (.long (own_mix ((((p0 + (-7046029254386353131 : Int64)) + (-7046029254386353131 : Int64)) + (-7046029254386353131 : Int64)) + (-7046029254386353131 : Int64)))), .second, .val (.ref b92), .val (.int (1 : Int32)), .val (.long (own_ref (3 : Int32))), .second, .val (.long (own_ref ((3 : Int32) + (1 : Int32)))), .second, .val (.ref b102), .val (.int (1 : Int32)), .unset] [(.ref b102)])) _
      exact k
    refine own_go k108 ?_
    clear k108
    obtain ⟨cq107, kq107, q107a, q107b, q107c⟩ := isOf hZ rfl p105_0
    obtain ⟨_, _, ⟨T107, L107, k107, n107⟩, -, X107, ⟨Lc107, hQ107, l107, y107, z107⟩, st107⟩ := X105.virtualBack hx (y := (⟨"com/example/composure/composure/generate/SplitMix64", "next", "()J"⟩ : MethodName)) (z := (⟨"com/example/composure/composure/generate/SplitMix64", "next", "()J"⟩ : MethodName)) hown (mvT hZ (hw _ (List.mem_of_getElem? (i := 12) rfl))) (mvT hZ (hw _ (List.mem_of_getElem? (i := 13) rfl))) (notFace_of_selects (args := #[]) (mvT hZ (hw _ (List.mem_of_getElem? (i := 15) rfl)))) (mvT hZ (hw _ (List.mem_of_getElem? (i := 15) rfl))) (mvT hZ (hw _ (List.mem_of_getElem? (i := 14) rfl))) (by decide) (backOf (W := 0) (own_rm_next l Z a0 hw [] b102 (((1234567 : Int64) + ((3 : Int32).toInt64 * (-7046029254386353131 : Int64))) + (-7046029254386353131 : Int64)) T105.heap n0 Z105 p105_1 p105_0 g_b102) hZ (hw _ (List.mem_of_getElem? (i := 16) rfl)) (hw _ (List.mem_of_getElem? (i := 3) rfl)) (by decide) (by decide)) q107a q107c (g := (mkF m 153 #[.val (.long p0), .second, .val (.int p1), .val (.long (-7046029254386353131 : Int64)), .second, .val (.int (3 : Int32)), .val (.ref b80), .val (.long (own_mix ((((p0 + (-7046029254386353131 : Int64)) + (-7046029254386353131 : Int64)) + (-7046029254386353131 : Int64)) + (-7046029254386353131 : Int64)))), .second, .val (.ref b92), .val (.int (1 : Int32)), .val (.long (own_ref (3 : Int32))), .second, .val (.long (own_ref ((3 : Int32) + (1 : Int32)))), .second, .val (.ref b102), .val (.int (1 : Int32)), .unset] [(.ref b102)])) rfl (by rw [hml]; rfl) (Steps.refl _) (argsL := []) (rest := []) (lenOf own_pd_2829J rfl) rfl (by show 2 * 0 + _ ≤ _; exact Nat.le_of_eq rfl) (hb hby at_153) (fun _ _ => ⟨rfl, rfl, (by decide : 3 + 0 ≤ _), (by decide : 3 + 0 ≤ _)⟩)
    dsimp only [Pt.U, Pt.locs, Pt.cells, Pt.slots] at X107 l107 y107 z107 st107 hQ107
    subst l107 y107 z107
    obtain ⟨rfl, N107q, K107q, p107_0, p107_1⟩ := hQ107
    have N107 := Fr.app N105 N107q
    have f107_0 : Exa Z T107.heap b80 "com/example/composure/composure/generate/SplitMix64" := f105_0.keep K107q
    have f107_1 : Fld Z T107.heap b80 "com/example/composure/composure/generate/SplitMix64" "state" "J" (.long ((((p0 + (-7046029254386353131 : Int64)) + (-7046029254386353131 : Int64)) + (-7046029254386353131 : Int64)) + (-7046029254386353131 : Int64))) := f105_1.keep K107q (ninS ne_b80_b102 nin0)
    have f107_2 : Exa Z T107.heap b92 "com/example/composure/composure/generate/SplitMix64" := f105_2.keep K107q
    have f107_3 : Fld Z T107.heap b92 "com/example/composure/composure/generate/SplitMix64" "state" "J" (.long ((p0 + ((3 : Int32).toInt64 * (-7046029254386353131 : Int64))) + (-7046029254386353131 : Int64))) := f105_3.keep K107q (ninS ne_b92_b102 nin0)
    have Z107 : n0 ≤ T107.heap.size := Nat.le_trans Z105 K107q.1
    refine own_go (fun _ k => st107.trans k) ?_
    have k109 : ∀ t, Steps p.tables e below (T107.setTop (mkF m 189 #[.val (.long p0), .second, .val (.int p1), .val (.long (-7046029254386353131 : Int64)), .second, .val (.int (3 : Int32)), .val (.ref b80), .val (.long (own_mix ((((p0 + (-7046029254386353131 : Int64)) + (-7046029254386353131 : Int64)) + (-7046029254386353131 : Int64)) + (-7046029254386353131 : Int64)))), .second, .val (.ref b92), .val (.int (1 : Int32)), .val (.long (own_ref (3 : Int32))), .second, .val (.long (own_ref ((3 : Int32) + (1 : Int32)))), .second, .val (.ref b102), .val (.int (1 : Int32)), .val (.int (1 : Int32))] [(.int (1 : Int32))])) t → Steps p.tables e below (T107.setTop (mkF m 156 #[.val (.long p0), .second, .val (.int p1), .val (.long (-7046029254386353131 : Int64)), .second, .val (.int (3 : Int32)), .val (.ref b80), .val (.long (own_mix ((((p0 + (-7046029254386353131 : Int64)) + (-7046029254386353131 : Int64)) + (-7046029254386353131 : Int64)) + (-7046029254386353131 : Int64)))), .second, .val (.ref b92), .val (.int (1 : Int32)), .val (.long (own_ref (3 : Int32))), .second, .val (.long (own_ref ((3 : Int32) + (1 : Int32)))), .second, .val (.ref b102), .val (.int (1 : Int32)), .unset] [(.long (own_mix ((((1234567 : Int64) + ((3 : Int32).toInt64 * (-7046029254386353131 : Int64))) + (-7046029254386353131 : Int64)) + (-7046029254386353131 : Int64))))])) t := fun t k => by
      refine XS.lload X107.here hx rfl (hb hby at_156) rfl ?_
      show Steps p.tables e below (T107.setTop (mkF m 158 #[.val (.long p0), .second, .val (.int p1), .val (.long (-7046029254386353131 : Int64)), .second, .val (.int (3 : Int32)), .val (.ref b80), .val (.long (own_mix ((((p0 + (-7046029254386353131 : Int64)) + (-7046029254386353131 : Int64)) + (-7046029254386353131 : Int64)) + (-7046029254386353131 : Int64)))), .second, .val (.ref b92), .val (.int (1 : Int32)), .val (.long (own_ref (3 : Int32))), .second, .val (.long (own_ref ((3 : Int32) + (1 : Int32)))), .second, .val (.ref b102), .val (.int (1 : Int32)), .unset] [(.long (own_ref ((3 : Int32) + (1 : Int32)))), (.long (own_mix ((((1234567 : Int64) + ((3 : Int32).toInt64 * (-7046029254386353131 : Int64))) + (-7046029254386353131 : Int64)) + (-7046029254386353131 : Int64))))])) _
      refine XS.lcmp X107.here hx rfl (hb hby at_158) rfl ?_
      show Steps p.tables e below (T107.setTop (mkF m 159 #[.val (.long p0), .second, .val (.int p1), .val (.long (-7046029254386353131 : Int64)), .second, .val (.int (3 : Int32)), .val (.ref b80), .val (.long (own_mix ((((p0 + (-7046029254386353131 : Int64)) + (-7046029254386353131 : Int64)) + (-7046029254386353131 : Int64)) + (-7046029254386353131 : Int64)))), .second, .val (.ref b92), .val (.int (1 : Int32)), .val (.long (own_ref (3 : Int32))), .second, .val (.long (own_ref ((3 : Int32) + (1 : Int32)))), .second, .val (.ref b102), .val (.int (1 : Int32)), .unset] [(.int (lcmpW (own_mix ((((1234567 : Int64) + ((3 : Int32).toInt64 * (-7046029254386353131 : Int64))) + (-7046029254386353131 : Int64)) + (-7046029254386353131 : Int64))) (own_ref ((3 : Int32) + (1 : Int32)))))])) _
      refine XS.ifNo X107.here hx rfl (hb hby at_159) rfl ((if0 _ _).trans (teq ((lw_eq _ _).mpr (by decide +kernel))).2) ?_
      show Steps p.tables e below (T107.setTop (mkF m 162 #[.val (.long p0), .second, .val (.int p1), .val (.long (-7046029254386353131 : Int64)), .second, .val (.int (3 : Int32)), .val (.ref b80), .val (.long (own_mix ((((p0 + (-7046029254386353131 : Int64)) + (-7046029254386353131 : Int64)) + (-7046029254386353131 : Int64)) + (-7046029254386353131 : Int64)))), .second, .val (.ref b92), .val (.int (1 : Int32)), .val (.long (own_ref (3 : Int32))), .second, .val (.long (own_ref ((3 : Int32) + (1 : Int32)))), .second, .val (.ref b102), .val (.int (1 : Int32)), .unset] [])) _
      refine XS.iconst X107.here hx rfl (hb hby at_162) ?_
      show Steps p.tables e below (T107.setTop (mkF m 163 #[.val (.long p0), .second, .val (.int p1), .val (.long (-7046029254386353131 : Int64)), .second, .val (.int (3 : Int32)), .val (.ref b80), .val (.long (own_mix ((((p0 + (-7046029254386353131 : Int64)) + (-7046029254386353131 : Int64)) + (-7046029254386353131 : Int64)) + (-7046029254386353131 : Int64)))), .second, .val (.ref b92), .val (.int (1 : Int32)), .val (.long (own_ref (3 : Int32))), .second, .val (.long (own_ref ((3 : Int32) + (1 : Int32)))), .second, .val (.ref b102), .val (.int (1 : Int32)), .unset] [(.int (1 : Int32))])) _
      refine XS.goto X107.here hx rfl (pc0 := 163) (pc' := 167) rfl (hb hby at_163) (by decide) (by decide) ?_
      show Steps p.tables e below (T107.setTop (mkF m 167 #[.val (.long p0), .second, .val (.int p1), .val (.long (-7046029254386353131 : Int64)), .second, .val (.int (3 : Int32)), .val (.ref b80), .val (.long (own_mix ((((p0 + (-7046029254386353131 : Int64)) + (-7046029254386353131 : Int64)) + (-7046029254386353131 : Int64)) + (-7046029254386353131 : Int64)))), .second, .val (.ref b92), .val (.int (1 : Int32)), .val (.long (own_ref (3 : Int32))), .second, .val (.long (own_ref ((3 : Int32) + (1 : Int32)))), .second, .val (.ref b102), .val (.int (1 : Int32)), .unset] [(.int (1 : Int32))])) _
      refine XS.istore X107.here hx rfl (hb hby at_167) rfl (l' := #[.val (.long p0), .second, .val (.int p1), .val (.long (-7046029254386353131 : Int64)), .second, .val (.int (3 : Int32)), .val (.ref b80), .val (.long (own_mix ((((p0 + (-7046029254386353131 : Int64)) + (-7046029254386353131 : Int64)) + (-7046029254386353131 : Int64)) + (-7046029254386353131 : Int64)))), .second, .val (.ref b92), .val (.int (1 : Int32)), .val (.long (own_ref (3 : Int32))), .second, .val (.long (own_ref ((3 : Int32) + (1 : Int32)))), .second, .val (.ref b102), .val (.int (1 : Int32)), .val (.int (1 : Int32))]) rfl ?_
      show Steps p.tables e below (T107.setTop (mkF m 169 #[.val (.long p0), .second, .val (.int p1), .val (.long (-7046029254386353131 : Int64)), .second, .val (.int (3 : Int32)), .val (.ref b80), .val (.long (own_mix ((((p0 + (-7046029254386353131 : Int64)) + (-7046029254386353131 : Int64)) + (-7046029254386353131 : Int64)) + (-7046029254386353131 : Int64)))), .second, .val (.ref b92), .val (.int (1 : Int32)), .val (.long (own_ref (3 : Int32))), .second, .val (.long (own_ref ((3 : Int32) + (1 : Int32)))), .second, .val (.ref b102), .val (.int (1 : Int32)), .val (.int (1 : Int32))] [])) _
      refine XS.iload X107.here hx rfl (hb hby at_169) rfl ?_
      show Steps p.tables e below (T107.setTop (mkF m 171 #[.val (.long p0), .second, .val (.int p1), .val (.long (-7046029254386353131 : Int64)), .second, .val (.int (3 : Int32)), .val (.ref b80), .val (.long (own_mix ((((p0 + (-7046029254386353131 : Int64)) + (-7046029254386353131 : Int64)) + (-7046029254386353131 : Int64)) + (-7046029254386353131 : Int64)))), .second, .val (.ref b92), .val (.int (1 : Int32)), .val (.long (own_ref (3 : Int32))), .second, .val (.long (own_ref ((3 : Int32) + (1 : Int32)))), .second, .val (.ref b102), .val (.int (1 : Int32)), .val (.int (1 : Int32))] [(.int (1 : Int32))])) _
      refine XS.ifNo X107.here hx rfl (hb hby at_171) rfl ((if0 _ _).trans (feq (by decide : ¬ ((1 : Int32) = (0 : Int32)))).1) ?_
      show Steps p.tables e below (T107.setTop (mkF m 174 #[.val (.long p0), .second, .val (.int p1), .val (.long (-7046029254386353131 : Int64)), .second, .val (.int (3 : Int32)), .val (.ref b80), .val (.long (own_mix ((((p0 + (-7046029254386353131 : Int64)) + (-7046029254386353131 : Int64)) + (-7046029254386353131 : Int64)) + (-7046029254386353131 : Int64)))), .second, .val (.ref b92), .val (.int (1 : Int32)), .val (.long (own_ref (3 : Int32))), .second, .val (.long (own_ref ((3 : Int32) + (1 : Int32)))), .second, .val (.ref b102), .val (.int (1 : Int32)), .val (.int (1 : Int32))] [])) _
      refine XS.iload X107.here hx rfl (hb hby at_174) rfl ?_
      show Steps p.tables e below (T107.setTop (mkF m 176 #[.val (.long p0), .second, .val (.int p1), .val (.long (-7046029254386353131 : Int64)), .second, .val (.int (3 : Int32)), .val (.ref b80), .val (.long (own_mix ((((p0 + (-7046029254386353131 : Int64)) + (-7046029254386353131 : Int64)) + (-7046029254386353131 : Int64)) + (-7046029254386353131 : Int64)))), .second, .val (.ref b92), .val (.int (1 : Int32)), .val (.long (own_ref (3 : Int32))), .second, .val (.long (own_ref ((3 : Int32) + (1 : Int32)))), .second, .val (.ref b102), .val (.int (1 : Int32)), .val (.int (1 : Int32))] [(.int (1 : Int32))])) _
      refine XS.ifNo X107.here hx rfl (hb hby at_176) rfl ((if0 _ _).trans (feq (by decide : ¬ ((1 : Int32) = (0 : Int32)))).1) ?_
      show Steps p.tables e below (T107.setTop (mkF m 179 #[.val (.long p0), .second, .val (.int p1), .val (.long (-7046029254386353131 : Int64)), .second, .val (.int (3 : Int32)), .val (.ref b80), .val (.long (own_mix ((((p0 + (-7046029254386353131 : Int64)) + (-7046029254386353131 : Int64)) + (-7046029254386353131 : Int64)) + (-7046029254386353131 : Int64)))), .second, .val (.ref b92), .val (.int (1 : Int32)), .val (.long (own_ref (3 : Int32))), .second, .val (.long (own_ref ((3 : Int32) + (1 : Int32)))), .second, .val (.ref b102), .val (.int (1 : Int32)), .val (.int (1 : Int32))] [])) _
      refine XS.iload X107.here hx rfl (hb hby at_179) rfl ?_
      show Steps p.tables e below (T107.setTop (mkF m 181 #[.val (.long p0), .second, .val (.int p1), .val (.long (-7046029254386353131 : Int64)), .second, .val (.int (3 : Int32)), .val (.ref b80), .val (.long (own_mix ((((p0 + (-7046029254386353131 : Int64)) + (-7046029254386353131 : Int64)) + (-7046029254386353131 : Int64)) + (-7046029254386353131 : Int64)))), .second, .val (.ref b92), .val (.int (1 : Int32)), .val (.long (own_ref (3 : Int32))), .second, .val (.long (own_ref ((3 : Int32) + (1 : Int32)))), .second, .val (.ref b102), .val (.int (1 : Int32)), .val (.int (1 : Int32))] [(.int (1 : Int32))])) _
      refine XS.ifNo X107.here hx rfl (hb hby at_181) rfl ((if0 _ _).trans (feq (by decide : ¬ ((1 : Int32) = (0 : Int32)))).1) ?_
      show Steps p.tables e below (T107.setTop (mkF m 184 #[.val (.long p0), .second, .val (.int p1), .val (.long (-7046029254386353131 : Int64)), .second, .val (.int (3 : Int32)), .val (.ref b80), .val (.long (own_mix ((((p0 + (-7046029254386353131 : Int64)) + (-7046029254386353131 : Int64)) + (-7046029254386353131 : Int64)) + (-7046029254386353131 : Int64)))), .second, .val (.ref b92), .val (.int (1 : Int32)), .val (.long (own_ref (3 : Int32))), .second, .val (.long (own_ref ((3 : Int32) + (1 : Int32)))), .second, .val (.ref b102), .val (.int (1 : Int32)), .val (.int (1 : Int32))] [])) _
      refine XS.iconst X107.here hx rfl (hb hby at_184) ?_
      show Steps p.tables e below (T107.setTop (mkF m 185 #[.val (.long p0), .second, .val (.int p1), .val (.long (-7046029254386353131 : Int64)), .second, .val (.int (3 : Int32)), .val (.ref b80), .val (.long (own_mix ((((p0 + (-7046029254386353131 : Int64)) + (-7046029254386353131 : Int64)) + (-7046029254386353131 : Int64)) + (-7046029254386353131 : Int64)))), .second, .val (.ref b92), .val (.int (1 : Int32)), .val (.long (own_ref (3 : Int32))), .second, .val (.long (own_ref ((3 : Int32) + (1 : Int32)))), .second, .val (.ref b102), .val (.int (1 : Int32)), .val (.int (1 : Int32))] [(.int (1 : Int32))])) _
      refine XS.goto X107.here hx rfl (pc0 := 185) (pc' := 189) rfl (hb hby at_185) (by decide) (by decide) ?_
      show Steps p.tables e below (T107.setTop (mkF m 189 #[.val (.long p0), .second, .val (.int p1), .val (.long (-7046029254386353131 : Int64)), .second, .val (.int (3 : Int32)), .val (.ref b80), .val (.long (own_mix ((((p0 + (-7046029254386353131 : Int64)) + (-7046029254386353131 : Int64)) + (-7046029254386353131 : Int64)) + (-7046029254386353131 : Int64)))), .second, .val (.ref b92), .val (.int (1 : Int32)), .val (.long (own_ref (3 : Int32))), .second, .val (.long (own_ref ((3 : Int32) + (1 : Int32)))), .second, .val (.ref b102), .val (.int (1 : Int32)), .val (.int (1 : Int32))] [(.int (1 : Int32))])) _
      exact k
    refine own_go k109 ?_
    clear k109
    obtain ⟨fs, hr, hrun, hended, hW, hsame⟩ := X107.leave (v := some (.int (nar .boolean (1 : Int32)))) (fun h => by rw [Bd.returns] at h; cases h)
    refine ⟨_, _, retN X107 hx (t := .boolean) Bd.returns (by simp) (hb hby at_189) hr, hPf _ _ ⟨hrun, hended, _, _, rfl, ?_, ⟨_, rfl⟩, hW, hsame.mono (by decide) (by decide)⟩⟩
    show own_Q_law Z p0 p1 h0 n0 _ T107.heap _
    exact ⟨rfl, N107⟩
set_option maxRecDepth 65536 in
set_option maxHeartbeats 40000000 in
theorem own_comes {Post : Tables → Env → Array Value → State → Outcome → State → Prop} (hpost : ∀ tb e args s v u, (limb_1_1.after args s (.returned v) u = true ∧ limb_1_2.after args s (.returned v) u = true ∧ True) → FrameEnd s (.returned v) u (Jvm.fieldLocs frame_1_writes args s ++ Jvm.arrayLocs frame_1_arrays args s ++ Jvm.staticLocs frame_1_statics s) 16 128 → Post tb e args s (.returned v) u) :
    ArmFor flags0 classFile x code maxLocals ret World_1 tables_1 room_1 Calls_1 rest_1 Pre_1 Post := by
  intro l hfl _ _ p e ha hc hk s m args below hf hA hF happ hP
  obtain ⟨hcalls, hrest, hpre⟩ := hP
  obtain ⟨-, -, -, hnamed, -, -, -, hat⟩ := (Spec.applies_iff hf).mp happ
  obtain ⟨hg, hn⟩ := and_e (Cond.before_iff.mp (show (Jvm.Cond.and given_1 narrow_1).before args s = true from hpre))
  obtain ⟨hg1a, hg1b⟩ := and_e hg
  obtain ⟨hg2a, hg2b⟩ := and_e hg1b
  obtain ⟨w0, w1, rfl⟩ : ∃ w0 w1 : Value, args = #[w0, w1] := by
    have hs : args.size = 2 := by simpa [Cond.value, given_1] using hg1a
    obtain ⟨L⟩ := args
    match L, hs with
    | [w0, w1], _ => exact ⟨w0, w1, rfl⟩
  have hw := fun d (hd : d ∈ tables_1) => atoms_spec (ws := Jvm.Cond.code x code maxLocals ret :: tables_1) hat d (List.mem_cons_of_mem _ hd)
  have hfit : Fit s := fun {y c} hc i hi => by
    obtain ⟨ha, rfl⟩ := Array.getElem?_eq_some_iff.mp hc
    have q := List.all_eq_true.mp ((Array.all_eq_true_iff_forall_mem.mp hF) _ (Array.getElem_mem ha)) i (List.mem_range.mpr hi)
    simpa [Array.getElem?_eq_getElem hi] using q
  obtain ⟨i0, ei0⟩ := isL_v hg2a
  obtain rfl : w0 = (.long i0) := Option.some.inj ei0
  obtain ⟨i1, ei1⟩ := is_v hg2b
  obtain rfl : w1 = (.int i1) := Option.some.inj ei1
  obtain ⟨n, o, h1, h2, h3, _, L, rfl, ⟨rfl, N⟩, hq⟩ := own_rm_law l s _ hw tables_1 i0 i1 s.heap s.heap.size (Nat.le_refl _) p e ha hc hk s m _ below hf ((Spec.applies_iff_loose hf).mp happ).1 ⟨rfl, State.Warmed39.refl s, rfl⟩ trivial
  refine ⟨n, _, h1, h2, h3, hpost _ _ _ _ _ _ ⟨Cond.after_iff.mpr rfl, Cond.after_iff.mpr (eq_i res_at (Term.int_eval (1)) rfl), trivial⟩ ⟨hq.1, hq.2.1, (hq.2.2.sift fun y hy => Or.inr (N y hy)).mono (by decide) (by decide)⟩⟩
theorem main_1_1 : Claimed_1_1 := own_comes fun _ _ _ _ _ _ h hF => ⟨h.1, hF⟩
theorem main_1_2 : Claimed_1_2 := own_comes fun _ _ _ _ _ _ h hF => ⟨h.2.1, hF⟩
end Jvm.Pilot.@@N@@
namespace Jvm.Pilot.@@N@@
open Jvm Jvm.ClassFile Sem Op Lib Jvm.Free Jvm.Stand Jvm.Pilot.@@N@@.Jvm.D
/-! MADE BY PROGRAM (witnessworld.py) out of the Statement's table words and the real class files: 9 classes; the members and pool entries that the words name. The judged class is class 1, her method 2. -/
namespace start1
open Jvm.ClassFile
def u (s : String) : CpInfo := .utf8 (stringToUtf16 s)
/-- a pool by its gaps: so many unusable entries, then the entry; so many at the end -/
def gap : Nat → List CpInfo → List CpInfo
  | 0, r => r
  | n + 1, r => .unusable :: gap n r
def poolList (es : List (Nat × CpInfo)) (last : Nat) : List CpInfo := es.foldr (fun e r => gap e.1 (e.2 :: r)) (gap last [])
def pool (es : List (Nat × CpInfo)) (last : Nat) : Array CpInfo := ⟨poolList es last⟩
def fileOf (pool : Array CpInfo) (this : Nat) (attrs : Array Attribute := #[]) (ms : Array MethodInfo := #[]) (fl : Nat := 33) (sup : Nat := 0) (ifs : Array Nat := #[]) (fds : Array FieldInfo := #[]) : ClassFile where
  minorVersion := 0
  majorVersion := 65
  constantPool := pool
  accessFlags := fl
  thisClass := this
  superClass := sup
  interfaces := ifs
  fields := fds
  methods := ms
  attributes := attrs
def plain (name : String) (sup : Option ClassId) : Class where
  name := name
  kind := .ordinary
  loader := none
  accessFlags := 33
  super := sup
  interfaces := #[]
  cf := none
  fields := #[]
  methods := #[]
  instanceTypes := #[]
  staticTypes := #[]
  resolved := #[]
  callSites := []
  init := .initialized
  statics := none
  mirror := none

def pool0 : Array CpInfo := pool [(5, u "<init>"), (0, u "()V"), (1, .class_ 10), (1, u "java/lang/Object")] 113

def k0c0 : Code := { maxStack := 0, maxLocals := 1, code := object_method_1_code, exceptionTable := #[], attributes := #[] }
def k0m0 : Method := { name := "<init>", desc := "()V", sig := { parameters := [], returnType := none }, accessFlags := 1, code := some k0c0 }
/-- java/lang/Object -/
def k0 : Class := { plain "java/lang/Object" none with
  accessFlags := 33
  interfaces := #[]
  cf := some (fileOf pool0 8 #[] #[{ accessFlags := 1, nameIndex := 5, descriptorIndex := 6, attributes := #[] }] 33 0 #[] #[])
  fields := #[]
  methods := #[k0m0]
  instanceTypes := #[]
  staticTypes := #[]
  resolved := Array.replicate 124 none
  statics := none }

def pool1 : Array CpInfo := pool [(2, .class_ 4), (1, u "java/lang/Object"), (0, u "<init>"), (0, u "()V"), (0, .long 6457827717110365317), (1, .long 3203168211198807973), (1, .long 9817491932198370423), (1, .long 4593380528125082431), (1, .long 16408922859458223821), (1, .long 11400714819323198485), (1, .class_ 20), (0, u "com/example/composure/composure/generate/SplitMix64"), (0, .methodref 19 22), (0, .nameAndType 5 23), (0, u "(J)V"), (0, .methodref 19 25), (0, .nameAndType 26 27), (0, u "next"), (0, u "()J"), (0, .methodref 29 30), (0, .class_ 31), (0, .nameAndType 32 33), (0, u "com/example/composure/composure/generate/SplitMix64NextPinLaw"), (0, u "ref"), (0, u "(I)J"), (0, .long 1234567), (4, u "law"), (0, u "(JI)Z")] 2

def k1m0 : Method := { name := "<init>", desc := "()V", sig := { parameters := [], returnType := none }, accessFlags := 1, code := none }
def k1c1 : Code := { maxStack := 2, maxLocals := 1, code := method_2_code, exceptionTable := #[], attributes := #[] }
def k1m1 : Method := { name := "ref", desc := "(I)J", sig := { parameters := [.int], returnType := some .long }, accessFlags := 10, code := some k1c1 }
def k1c2 : Code := { maxStack := 8, maxLocals := 18, code := code, exceptionTable := #[], attributes := #[] }
def k1m2 : Method := { name := "law", desc := "(JI)Z", sig := { parameters := [.long, .int], returnType := some .boolean }, accessFlags := 9, code := some k1c2 }
/-- com/example/composure/composure/generate/SplitMix64NextPinLaw -/
def k1 : Class := { plain "com/example/composure/composure/generate/SplitMix64NextPinLaw" (some 0) with
  accessFlags := 49
  interfaces := #[]
  cf := some (fileOf pool1 29 #[] #[{ accessFlags := 1, nameIndex := 5, descriptorIndex := 6, attributes := #[] }, { accessFlags := 10, nameIndex := 32, descriptorIndex := 33, attributes := #[] }, { accessFlags := 9, nameIndex := 39, descriptorIndex := 40, attributes := #[] }] 49 2 #[] #[])
  fields := #[]
  methods := #[k1m0, k1m1, k1m2]
  instanceTypes := #[]
  staticTypes := #[]
  resolved := Array.replicate 43 none
  statics := none }

def pool2 : Array CpInfo := pool [(1, .methodref 2 3), (0, .class_ 4), (0, .nameAndType 5 6), (0, u "java/lang/Object"), (0, u "<init>"), (0, u "()V"), (0, .fieldref 8 9), (0, .class_ 10), (0, .nameAndType 11 12), (0, u "com/example/composure/composure/generate/SplitMix64"), (0, u "state"), (0, u "J"), (0, .long 11400714819323198485), (1, .long 13787848793156543929), (1, .long 10723151780598845931), (9, u "next"), (0, u "()J"), (4, u "STEP"), (1, u "(J)V")] 7

def k2c0 : Code := { maxStack := 3, maxLocals := 3, code := prog_3_method_1_code, exceptionTable := #[], attributes := #[] }
def k2m0 : Method := { name := "<init>", desc := "(J)V", sig := { parameters := [.long], returnType := none }, accessFlags := 0, code := some k2c0 }
def k2c1 : Code := { maxStack := 5, maxLocals := 3, code := prog_3_method_2_code, exceptionTable := #[], attributes := #[] }
def k2m1 : Method := { name := "next", desc := "()J", sig := { parameters := [], returnType := some .long }, accessFlags := 0, code := some k2c1 }
/-- com/example/composure/composure/generate/SplitMix64 -/
def k2 : Class := { plain "com/example/composure/composure/generate/SplitMix64" (some 0) with
  accessFlags := 48
  interfaces := #[]
  cf := some (fileOf pool2 8 #[] #[{ accessFlags := 0, nameIndex := 5, descriptorIndex := 35, attributes := #[] }, { accessFlags := 0, nameIndex := 27, descriptorIndex := 28, attributes := #[] }] 48 2 #[] #[{ accessFlags := 26, nameIndex := 33, descriptorIndex := 12, attributes := #[] }, { accessFlags := 2, nameIndex := 11, descriptorIndex := 12, attributes := #[] }])
  fields := #[{ name := "STEP", type := .long, accessFlags := 26, slot := 0, constantValue := 0 }, { name := "state", type := .long, accessFlags := 2, slot := 0, constantValue := 0 }]
  methods := #[k2m0, k2m1]
  instanceTypes := #[.long]
  staticTypes := #[.long]
  resolved := Array.replicate 43 none
  statics := none }

def pool3 : Array CpInfo := pool [(1, u "java/lang/Cloneable"), (0, .class_ 1), (0, u "java/lang/Object"), (0, .class_ 3)] 3

/-- java/lang/Cloneable -/
def k3 : Class := { plain "java/lang/Cloneable" (some 0) with
  accessFlags := 1537
  interfaces := #[]
  cf := some (fileOf pool3 2 #[] #[] 1537 4 #[] #[])
  fields := #[]
  methods := #[]
  instanceTypes := #[]
  staticTypes := #[]
  resolved := Array.replicate 8 none
  statics := none }

def pool4 : Array CpInfo := pool [(1, u "java/io/Serializable"), (0, .class_ 1), (0, u "java/lang/Object"), (0, .class_ 3)] 3

/-- java/io/Serializable -/
def k4 : Class := { plain "java/io/Serializable" (some 0) with
  accessFlags := 1537
  interfaces := #[]
  cf := some (fileOf pool4 2 #[] #[] 1537 4 #[] #[])
  fields := #[]
  methods := #[]
  instanceTypes := #[]
  staticTypes := #[]
  resolved := Array.replicate 8 none
  statics := none }

/-- the primitive byte -/
def k5 : Class := { plain "byte" none with kind := .primitive 'B', accessFlags := 0x411 }
/-- [B -/
def k6 : Class := { plain "[B" (some 0) with kind := .array 5 .byte, interfaces := #[3, 4], accessFlags := 1041 }

/-- the primitive int -/
def k7 : Class := { plain "int" none with kind := .primitive 'I', accessFlags := 0x411 }
/-- [I -/
def k8 : Class := { plain "[I" (some 0) with kind := .array 7 .int, interfaces := #[3, 4], accessFlags := 1041 }

def heap : Heap := #[]
def classes : Array Class := #[k0, k1, k2, k3, k4, k5, k6, k7, k8]
def interned : List (Array UInt16 × Addr) := []
def slotsUsed : Nat := 0
def theMethod : MethodId := ⟨1, 2⟩
def args0 : Array Value := #[.long 5, .int 5]
def aboutOver (below : List Frame) : State where
  vm := { classes := classes, interned := interned.toArray }
  heap := heap
  slotsUsed := slotsUsed
  threads := #[{ frames := .invoking theMethod args0 :: below }]
def below0 : List Frame := [.native { method := ⟨0, 0⟩, args := #[] }]
def about1 : State := aboutOver below0
def p0 : Program := .bare "" "" ""
def e0 : Env := launch0.env 0 0 0
theorem w_frames : about1.frames = Frame.invoking theMethod args0 :: below0 := rfl
set_option maxRecDepth 65536 in
theorem w_args : argsFit about1.vm theMethod args0 = true := by decide +kernel
set_option maxRecDepth 65536 in
theorem w_heap : heapFits about1 = true := by decide +kernel
set_option maxRecDepth 65536 in
theorem w_runnable : about1.curStatus? = some .runnable := by decide +kernel
set_option maxRecDepth 65536 in
theorem w_alone : about1.alone = true := by decide +kernel
set_option maxRecDepth 65536 in
theorem w_named : about1.methodNamed? x = some theMethod := by decide +kernel
set_option maxRecDepth 65536 in
theorem w_hears : about1.hears theMethod below0 = true := by decide +kernel
set_option maxRecDepth 65536 in
theorem w_ripe : about1.ripe theMethod args0 below0 = true := by decide +kernel
theorem w_running : about1.status = .running := rfl
set_option maxRecDepth 65536 in
theorem w_room : about1.hasRoom e0.platform room_1 = true :=
  launch0.hasRoom_least _ room_1 (by decide +kernel) (by decide +kernel) (by decide +kernel) (by decide +kernel) (by decide +kernel) (by decide +kernel)
theorem allAtoms_all (ts : List Jvm.Cond) (a : Array Jvm.Value) (st : Jvm.State) : (allAtoms ts).before a st = ts.all (fun c => c.before a st) := by
  induction ts with
  | nil => rfl
  | cons c t ih =>
    show (Jvm.Cond.and c (allAtoms t)).before a st = _
    rw [Jvm.Cond.before_and, ih, List.all_cons]
def words1 : List Jvm.Cond := Jvm.Cond.code x code maxLocals ret :: tables_1
/-- a 'code' word, met by the world's own term for the bytes: nothing is compared byte by byte -/
theorem code_word {y : MethodName} {bytes : ByteArray} {mx : Nat} {rt : Option FieldType} {a : Array Value} {s : State} {m : MethodId} {meth : Method} {c : Code} (h1 : s.methodNamed? y = some m) (h2 : s.vm.method? m = some meth) (h3 : meth.code = some c) (h4 : c.code = bytes)
    (h5 : (c.maxLocals == mx && c.exceptionTable.isEmpty && decide (c.maxStack ≤ mostOperands) && decide (meth.sig.returnType = rt) && !meth.locks && decide (parseMethodDescriptor y.desc = some meth.sig)) = true) : (Jvm.Cond.code y bytes mx rt).before a s = true := by
  simp only [Bool.and_eq_true, beq_iff_eq, Bool.not_eq_true', decide_eq_true_eq] at h5
  obtain ⟨⟨⟨⟨⟨g1, g2⟩, g3⟩, g4⟩, g5⟩, g6⟩ := h5
  simp [Cond.before, Cond.holds, Cond.value, h1, h2, h3, h4, g1, g2, g3, g4, g5, g6]
def isCode : Jvm.Cond → Bool
  | .code _ _ _ _ => true
  | _ => false
theorem all_split {L : List Jvm.Cond} {P : Jvm.Cond → Bool} (h1 : L.all (fun c => isCode c || P c) = true) (h2 : ∀ c ∈ L.filter isCode, P c = true) : L.all P = true := by
  refine List.all_eq_true.mpr fun c hc => ?_
  have h := List.all_eq_true.mp h1 c hc
  rcases Bool.eq_false_or_eq_true (isCode c) with hi | hi
  · exact h2 c (List.mem_filter.mpr ⟨hc, hi⟩)
  · simpa [hi] using h
set_option maxRecDepth 65536 in
theorem w_c0 : (Jvm.Cond.code x code maxLocals ret).before args0 about1 = true := code_word (m := ⟨1, 2⟩) (meth := k1m2) (c := k1c2) (by decide +kernel) rfl rfl rfl (by decide +kernel)
set_option maxRecDepth 65536 in
theorem w_c1 : (Jvm.Cond.code ({ cls := "com/example/composure/composure/generate/SplitMix64", name := "<init>", desc := "(J)V" } : Jvm.MethodName) prog_3_method_1_code (3 : Nat) (Option.none : Option Jvm.ClassFile.FieldType)).before args0 about1 = true := code_word (m := ⟨2, 0⟩) (meth := k2m0) (c := k2c0) (by decide +kernel) rfl rfl rfl (by decide +kernel)
set_option maxRecDepth 65536 in
theorem w_c2 : (Jvm.Cond.code ({ cls := "java/lang/Object", name := "<init>", desc := "()V" } : Jvm.MethodName) object_method_1_code (1 : Nat) (Option.none : Option Jvm.ClassFile.FieldType)).before args0 about1 = true := code_word (m := ⟨0, 0⟩) (meth := k0m0) (c := k0c0) (by decide +kernel) rfl rfl rfl (by decide +kernel)
set_option maxRecDepth 65536 in
theorem w_c3 : (Jvm.Cond.code ({ cls := "com/example/composure/composure/generate/SplitMix64", name := "next", desc := "()J" } : Jvm.MethodName) prog_3_method_2_code (3 : Nat) (Option.some Jvm.ClassFile.FieldType.long)).before args0 about1 = true := code_word (m := ⟨2, 1⟩) (meth := k2m1) (c := k2c1) (by decide +kernel) rfl rfl rfl (by decide +kernel)
set_option maxRecDepth 65536 in
theorem w_c4 : (Jvm.Cond.code ({ cls := "com/example/composure/composure/generate/SplitMix64NextPinLaw", name := "ref", desc := "(I)J" } : Jvm.MethodName) method_2_code (1 : Nat) (Option.some Jvm.ClassFile.FieldType.long)).before args0 about1 = true := code_word (m := ⟨1, 1⟩) (meth := k1m1) (c := k1c1) (by decide +kernel) rfl rfl rfl (by decide +kernel)
def codes1 : List Jvm.Cond := [Jvm.Cond.code x code maxLocals ret, Jvm.Cond.code ({ cls := "com/example/composure/composure/generate/SplitMix64", name := "<init>", desc := "(J)V" } : Jvm.MethodName) prog_3_method_1_code (3 : Nat) (Option.none : Option Jvm.ClassFile.FieldType), Jvm.Cond.code ({ cls := "java/lang/Object", name := "<init>", desc := "()V" } : Jvm.MethodName) object_method_1_code (1 : Nat) (Option.none : Option Jvm.ClassFile.FieldType), Jvm.Cond.code ({ cls := "com/example/composure/composure/generate/SplitMix64", name := "next", desc := "()J" } : Jvm.MethodName) prog_3_method_2_code (3 : Nat) (Option.some Jvm.ClassFile.FieldType.long), Jvm.Cond.code ({ cls := "com/example/composure/composure/generate/SplitMix64NextPinLaw", name := "ref", desc := "(I)J" } : Jvm.MethodName) method_2_code (1 : Nat) (Option.some Jvm.ClassFile.FieldType.long)]
set_option maxRecDepth 65536 in
theorem codes_eq : words1.filter isCode = codes1 := rfl
theorem w_codes : ∀ c ∈ words1.filter isCode, c.before args0 about1 = true := by
  rw [codes_eq]
  intro c hc
  simp only [codes1, List.mem_cons, List.not_mem_nil, or_false] at hc
  rcases hc with rfl | rfl | rfl | rfl | rfl
  · exact w_c0
  · exact w_c1
  · exact w_c2
  · exact w_c3
  · exact w_c4
set_option maxRecDepth 65536 in
theorem w_t1 : (words1.take 24).all (fun c => isCode c || c.before args0 about1) = true := by decide +kernel
set_option maxRecDepth 65536 in
theorem w_t2 : (words1.drop 24).all (fun c => isCode c || c.before args0 about1) = true := by decide +kernel
theorem w_tables : (allAtoms (Jvm.Cond.code x code maxLocals ret :: tables_1)).before args0 about1 = true := by
  rw [allAtoms_all]
  show words1.all (fun c => c.before args0 about1) = true
  refine all_split ?_ w_codes
  rw [← List.take_append_drop 24 words1, List.all_append, w_t1, w_t2]
  rfl
set_option maxRecDepth 65536 in
theorem w_case : (Jvm.Cond.and given_1 narrow_1).before args0 about1 = true := by decide +kernel
theorem w_applies : (headSpec (Jvm.Cond.code x code maxLocals ret :: tables_1) room_1).applies x e0.platform about1 = true :=
  (Spec.applies_iff w_frames).mpr ⟨w_running, w_runnable, w_alone, w_named, w_hears, w_ripe, w_room, w_tables⟩
theorem atStart : AtStart classFile x code maxLocals ret World_1 tables_1 room_1 Calls_1 rest_1 Pre_1 launch0 p0 e0 about1 theMethod args0 below0 :=
  ⟨lists_1, trivial, launch0.admits_env _ _ _, launch0.least_env, fairChoices_fair.cas, fairChoices_fair.clock, w_frames, w_args, w_heap, w_applies, trivial, trivial, w_case⟩
end start1
theorem witness_1 : WitnessClaimed_1 := ⟨start1.p0, start1.e0, start1.about1, start1.theMethod, start1.args0, start1.below0, start1.atStart⟩
end Jvm.Pilot.@@N@@
