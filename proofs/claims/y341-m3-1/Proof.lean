import JvmDerived
import JvmDerived.Pilot.@@N@@Statement
import JvmDerived.Pilot.@@N@@Code
set_option linter.unusedVariables false
set_option linter.unusedSimpArgs false
namespace Jvm.Pilot.@@N@@
open Jvm Jvm.ClassFile Sem Op Lib Jvm.Free Jvm.Stand Jvm.LawKit Jvm.RoadKit Bundle Jvm.Pilot.@@N@@.Jvm.D
theorem own_go {α β : Sort _} {A B : α → Prop} {P : α → β → Prop} (k : ∀ t, A t → B t) (h : ∃ t o, A t ∧ P t o) : ∃ t o, B t ∧ P t o := by
  obtain ⟨t, o, h1, h2⟩ := h
  exact ⟨t, o, k t h1, h2⟩
theorem own_abs {α β : Sort _} {A : α → Prop} {P : α → β → Prop} (h : ∀ P' : α → β → Prop, (∀ t o, P t o → P' t o) → ∃ t o, A t ∧ P' t o) : ∃ t o, A t ∧ P t o := h P fun _ _ q => q
theorem own_cat1 {v : Value} (h : v.isRef = true) : v.category = 1 := by rcases ref_cases h with rfl | ⟨_, rfl⟩ <;> rfl
theorem own_slot1 {v : Value} (h : v.isRef = true) : Slot.val v = .unset ∨ ∃ w, Slot.val v = .val w ∧ w.category = 1 := Or.inr ⟨v, rfl, own_cat1 h⟩
theorem own_nar {C : String} {w : Value} (h : w.isRef = true) : narrow (.object C) w = w := by rcases ref_cases h with rfl | ⟨_, rfl⟩ <;> rfl
theorem own_len (x : Int32) : (6 : Int32) + (x &&& 3) = 6 ∨ (6 : Int32) + (x &&& 3) = 7 ∨ (6 : Int32) + (x &&& 3) = 8 ∨ (6 : Int32) + (x &&& 3) = 9 := by
  have e := c_mask x 3 2 (by decide) (by decide)
  have q : (x &&& 3).toInt = (0 : Int32).toInt ∨ (x &&& 3).toInt = (1 : Int32).toInt ∨ (x &&& 3).toInt = (2 : Int32).toInt ∨ (x &&& 3).toInt = (3 : Int32).toInt := by
    show _ = 0 ∨ _ = 1 ∨ _ = 2 ∨ _ = 3
    rw [e]; have : ((2 ^ 2 : Nat) : Int) = 4 := rfl
    omega
  rcases q with q | q | q | q <;> rw [Int32.toInt_inj.mp q] <;> decide
theorem own_id (w : Int32) (h : 0 ≤ w.toInt ∧ w.toInt < 65536) (b4 b5 : Int32) (h4 : b4 = nar .byte ((w.toUInt32 >>> ((8 : Int32) &&& 31).toUInt32).toInt32).toInt8.toInt32) (h5 : b5 = nar .byte w.toInt8.toInt32) :
    ((b4 &&& (255 : Int32)) <<< ((8 : Int32) &&& 31)) ||| (b5 &&& (255 : Int32)) = w := by
  have p8 : ((2 ^ 8 : Nat) : Int) = 256 := rfl
  have m : ∀ y : Int32, (y &&& 255).toInt = y.toInt % 256 := fun y => c_mask y 255 8 (by decide) (by decide)
  have u := c_iushr w 8 8 (by decide) (by decide)
  rw [p8] at u
  have i4 := c_i2b ((w.toUInt32 >>> ((8 : Int32) &&& 31).toUInt32).toInt32)
  have j4 := c_i2b ((w.toUInt32 >>> ((8 : Int32) &&& 31).toUInt32).toInt32).toInt8.toInt32
  have i5 := c_i2b w
  have j5 := c_i2b w.toInt8.toInt32
  have e4 : b4 = ((w.toUInt32 >>> ((8 : Int32) &&& 31).toUInt32).toInt32).toInt8.toInt32.toInt8.toInt32 := h4
  have e5 : b5 = w.toInt8.toInt32.toInt8.toInt32 := h5
  rw [← e4] at j4
  rw [← e5] at j5
  have m4 := m b4
  have m5 := m b5
  have s := c_ishl (b4 &&& 255) 8 8 (by decide)
  rw [p8] at s
  have r := rng32 ((b4 &&& 255) <<< ((8 : Int32) &&& 31))
  have o := c_or ((b4 &&& 255) <<< ((8 : Int32) &&& 31)) (b5 &&& 255) 8 (by decide) 256 p8.symm (by omega) (by omega) (by omega)
  have rr := rng32 (((b4 &&& 255) <<< ((8 : Int32) &&& 31)) ||| (b5 &&& 255))
  refine Int32.toInt_inj.mp ?_
  omega
theorem own_r16 (x : Int32) : 0 ≤ (x &&& 65535).toInt ∧ (x &&& 65535).toInt < 65536 := by
  have := c_mask x 65535 16 (by decide) (by decide)
  have p8 : ((2 ^ 16 : Nat) : Int) = 65536 := rfl
  rw [p8] at this; omega
theorem own_d_prog_3_method_6_code_0 : decode prog_3_method_6_code 0 = .ok (.aload_n 0, 1) := by decide +kernel
theorem own_d_prog_3_method_6_code_1 : decode prog_3_method_6_code 1 = .ok (.iconst 4, 1) := by decide +kernel
theorem own_d_prog_3_method_6_code_2 : decode prog_3_method_6_code 2 = .ok (.baload, 1) := by decide +kernel
theorem own_d_prog_3_method_6_code_3 : decode prog_3_method_6_code 3 = .ok (.sipush 255, 3) := by decide +kernel
theorem own_d_prog_3_method_6_code_6 : decode prog_3_method_6_code 6 = .ok (.iand, 1) := by decide +kernel
theorem own_d_prog_3_method_6_code_7 : decode prog_3_method_6_code 7 = .ok (.bipush 8, 2) := by decide +kernel
theorem own_d_prog_3_method_6_code_9 : decode prog_3_method_6_code 9 = .ok (.ishl, 1) := by decide +kernel
theorem own_d_prog_3_method_6_code_10 : decode prog_3_method_6_code 10 = .ok (.aload_n 0, 1) := by decide +kernel
theorem own_d_prog_3_method_6_code_11 : decode prog_3_method_6_code 11 = .ok (.iconst 5, 1) := by decide +kernel
theorem own_d_prog_3_method_6_code_12 : decode prog_3_method_6_code 12 = .ok (.baload, 1) := by decide +kernel
theorem own_d_prog_3_method_6_code_13 : decode prog_3_method_6_code 13 = .ok (.sipush 255, 3) := by decide +kernel
theorem own_d_prog_3_method_6_code_16 : decode prog_3_method_6_code 16 = .ok (.iand, 1) := by decide +kernel
theorem own_d_prog_3_method_6_code_17 : decode prog_3_method_6_code 17 = .ok (.ior, 1) := by decide +kernel
theorem own_d_prog_3_method_6_code_18 : decode prog_3_method_6_code 18 = .ok (.ireturn, 1) := by decide +kernel
theorem own_ef_idcode (m : MethodId) (x0 : Addr) : entryFrame m #[(.ref x0)] 1 = mkF m 0 #[.val (.ref x0)] [] := by first | (simp [entryFrame, mkF, argsToLocals, Value.category]; done) | rfl
def own_Q_idcode (Z : State) (pa : Addr) (ck : ClassId) (zl : Int32) (vl : List Value) (w4 w5 : Int32) (h0 : Heap) (n0 : Nat) (v : Option Value) (h : Heap) (L : List Loc) : Prop := v = some (.int (((w4 &&& (255 : Int32)) <<< ((8 : Int32) &&& 31)) ||| (w5 &&& (255 : Int32)))) ∧ Fr n0 L ∧ h = h0
theorem own_pn_com_example_feeder_feeder_adapters_FrameFormat : plainName "com/example/feeder/feeder/adapters/FrameFormat" = true := by first | (simp [plainName, overriddenIn]; done) | decide +kernel
set_option maxRecDepth 65536 in
set_option maxHeartbeats 40000000 in
theorem own_rm_idcode (l : Launch) (Z : State) (a0 : Array Value) (hw : ∀ d ∈ tables_1, d.before a0 Z = true) (ws : List Jvm.Cond) (pa : Addr) (ck : ClassId) (zl : Int32) (vl : List Value) (w4 w5 : Int32) (h0 : Heap) (n0 : Nat) (Z0 : n0 ≤ h0.size) (V0 : Arv Z h0 pa ck .byte zl vl (.int (0 : Int32))) (hb4 : ¬ (4 : Int32) < 0 ∧ (4 : Int32) < zl) (hv4 : vl.getD (4 : Int32).toNatClampNeg (.int (0 : Int32)) = .int w4) (hb5 : ¬ (5 : Int32) < 0 ∧ (5 : Int32) < zl) (hv5 : vl.getD (5 : Int32).toNatClampNeg (.int (0 : Int32)) = .int w5) :
    MetFree l (⟨"com/example/feeder/feeder/adapters/FrameFormat", "idcode", "([B)I"⟩ : MethodName) (head1 (Jvm.Cond.code (⟨"com/example/feeder/feeder/adapters/FrameFormat", "idcode", "([B)I"⟩ : MethodName) prog_3_method_6_code 1 (some .int) :: ws) ({ frames := 0, cells := 0, slots := 0, locals := 0 } : Room)) (fun a U => a = #[(.ref pa)] ∧ Z.Warmed39 U.vm ∧ U.heap = h0) (fun _ _ _ _ _ => True) (fun _ U o U' => ∃ v L, o = .returned v ∧ own_Q_idcode Z pa ck zl vl w4 w5 h0 n0 v U'.heap L ∧ FrameEnd U o U' L ({ frames := 0, cells := 0, slots := 0, locals := 0 } : Room).cells ({ frames := 0, cells := 0, slots := 0, locals := 0 } : Room).slots) := by
  refine MetFree.of_bodySF (plainFor_of_name own_pn_com_example_feeder_feeder_adapters_FrameFormat) hisR ?_
  intro p e s m args below meth c s₁ Bd hml0 hP hKq_
  obtain ⟨rfl, hZ, hh⟩ := hP
  have hx := Bd.exec
  have hby := Bd.bytes
  have hml : c.maxLocals = 1 := hml0
  have hown : s.vm.findClass "com/example/feeder/feeder/adapters/FrameFormat" = some m.cls := findClass_of_methodNamed Bd.named
  have hnm := (name_of_methodNamed Bd.named Bd.method).1
  have X0 : Stand p l e ({ frames := 0, cells := 0, slots := 0, locals := 0 } : Room) s m #[(.ref pa)] below meth c s₁ [] 0 0 := Stand.of_body Bd
  have e0 : s₁.heap = h0 := by rw [← hh, Bd.state]; rfl
  have N0 := Fr.nil n0
  have pre0 : ∀ t, Steps p.tables e below (s₁.setTop (mkF m 0 #[.val (.ref pa)] [])) t → Steps p.tables e below (s₁.setTop (entryFrame m #[(.ref pa)] 1)) t := fun t k => castTop (own_ef_idcode m pa) k
  refine own_go pre0 ?_
  refine own_abs ?_
  intro Pf hPf
  have k1 : ∀ t, Steps p.tables e below (s₁.setTop (mkF m 2 #[.val (.ref pa)] [(.int (4 : Int32)), (.ref pa)])) t → Steps p.tables e below (s₁.setTop (mkF m 0 #[.val (.ref pa)] [])) t := fun t k => by
    refine XS.aloadN X0.here hx rfl (hb hby own_d_prog_3_method_6_code_0) rfl rfl ?_
    show Steps p.tables e below (s₁.setTop (mkF m 1 #[.val (.ref pa)] [(.ref pa)])) _
    refine XS.iconst X0.here hx rfl (hb hby own_d_prog_3_method_6_code_1) ?_
    show Steps p.tables e below (s₁.setTop (mkF m 2 #[.val (.ref pa)] [(.int (4 : Int32)), (.ref pa)])) _
    exact k
  refine own_go k1 ?_
  clear k1
  obtain ⟨cl2, Ar2, -, S2, -, H2, -⟩ := id (V0)
  have hi2 : ¬ ((4 : Int32) < 0 ∨ cl2.slots.size ≤ ((4 : Int32)).toNatClampNeg) := inb_of S2 hb4
  have hv2 : cl2.slots[((4 : Int32)).toNatClampNeg]? = some (.int w4) := H2.at hi2 hv4
  have k3 : ∀ t, Steps p.tables e below (s₁.setTop (mkF m 12 #[.val (.ref pa)] [(.int (5 : Int32)), (.ref pa), (.int ((w4 &&& (255 : Int32)) <<< ((8 : Int32) &&& 31)))])) t → Steps p.tables e below (s₁.setTop (mkF m 2 #[.val (.ref pa)] [(.int (4 : Int32)), (.ref pa)])) t := fun t k => by
    refine X0.baloadBytes hx (j := (4 : Int32)) (v := (.int w4)) (by rw [e0]; exact Ar2.1) (State.isArrayOf_alike hZ.alike Ar2.2.1) Ar2.2.2 hi2 hv2 (g := (mkF m 2 #[.val (.ref pa)] [(.int (4 : Int32)), (.ref pa)])) rfl rfl (hb hby own_d_prog_3_method_6_code_2) _ ?_
    show Steps p.tables e below (s₁.setTop (mkF m 3 #[.val (.ref pa)] [(.int w4)])) _
    refine XS.sipush X0.here hx rfl (hb hby own_d_prog_3_method_6_code_3) ?_
    show Steps p.tables e below (s₁.setTop (mkF m 6 #[.val (.ref pa)] [(.int (255 : Int32)), (.int w4)])) _
    refine XS.iand X0.here hx rfl (hb hby own_d_prog_3_method_6_code_6) rfl ?_
    show Steps p.tables e below (s₁.setTop (mkF m 7 #[.val (.ref pa)] [(.int (w4 &&& (255 : Int32)))])) _
    refine XS.bipush X0.here hx rfl (hb hby own_d_prog_3_method_6_code_7) ?_
    show Steps p.tables e below (s₁.setTop (mkF m 9 #[.val (.ref pa)] [(.int (8 : Int32)), (.int (w4 &&& (255 : Int32)))])) _
    refine XS.ishl X0.here hx rfl (hb hby own_d_prog_3_method_6_code_9) rfl ?_
    show Steps p.tables e below (s₁.setTop (mkF m 10 #[.val (.ref pa)] [(.int ((w4 &&& (255 : Int32)) <<< ((8 : Int32) &&& 31)))])) _
    refine XS.aloadN X0.here hx rfl (hb hby own_d_prog_3_method_6_code_10) rfl rfl ?_
    show Steps p.tables e below (s₁.setTop (mkF m 11 #[.val (.ref pa)] [(.ref pa), (.int ((w4 &&& (255 : Int32)) <<< ((8 : Int32) &&& 31)))])) _
    refine XS.iconst X0.here hx rfl (hb hby own_d_prog_3_method_6_code_11) ?_
    show Steps p.tables e below (s₁.setTop (mkF m 12 #[.val (.ref pa)] [(.int (5 : Int32)), (.ref pa), (.int ((w4 &&& (255 : Int32)) <<< ((8 : Int32) &&& 31)))])) _
    exact k
  refine own_go k3 ?_
  clear k3
  obtain ⟨cl4, Ar4, -, S4, -, H4, -⟩ := id (V0)
  have hi4 : ¬ ((5 : Int32) < 0 ∨ cl4.slots.size ≤ ((5 : Int32)).toNatClampNeg) := inb_of S4 hb5
  have hv4 : cl4.slots[((5 : Int32)).toNatClampNeg]? = some (.int w5) := H4.at hi4 hv5
  have k5 : ∀ t, Steps p.tables e below (s₁.setTop (mkF m 18 #[.val (.ref pa)] [(.int (((w4 &&& (255 : Int32)) <<< ((8 : Int32) &&& 31)) ||| (w5 &&& (255 : Int32))))])) t → Steps p.tables e below (s₁.setTop (mkF m 12 #[.val (.ref pa)] [(.int (5 : Int32)), (.ref pa), (.int ((w4 &&& (255 : Int32)) <<< ((8 : Int32) &&& 31)))])) t := fun t k => by
    refine X0.baloadBytes hx (j := (5 : Int32)) (v := (.int w5)) (by rw [e0]; exact Ar4.1) (State.isArrayOf_alike hZ.alike Ar4.2.1) Ar4.2.2 hi4 hv4 (g := (mkF m 12 #[.val (.ref pa)] [(.int (5 : Int32)), (.ref pa), (.int ((w4 &&& (255 : Int32)) <<< ((8 : Int32) &&& 31)))])) rfl rfl (hb hby own_d_prog_3_method_6_code_12) _ ?_
    show Steps p.tables e below (s₁.setTop (mkF m 13 #[.val (.ref pa)] [(.int w5), (.int ((w4 &&& (255 : Int32)) <<< ((8 : Int32) &&& 31)))])) _
    refine XS.sipush X0.here hx rfl (hb hby own_d_prog_3_method_6_code_13) ?_
    show Steps p.tables e below (s₁.setTop (mkF m 16 #[.val (.ref pa)] [(.int (255 : Int32)), (.int w5), (.int ((w4 &&& (255 : Int32)) <<< ((8 : Int32) &&& 31)))])) _
    refine XS.iand X0.here hx rfl (hb hby own_d_prog_3_method_6_code_16) rfl ?_
    show Steps p.tables e below (s₁.setTop (mkF m 17 #[.val (.ref pa)] [(.int (w5 &&& (255 : Int32))), (.int ((w4 &&& (255 : Int32)) <<< ((8 : Int32) &&& 31)))])) _
    refine XS.ior X0.here hx rfl (hb hby own_d_prog_3_method_6_code_17) rfl ?_
    show Steps p.tables e below (s₁.setTop (mkF m 18 #[.val (.ref pa)] [(.int (((w4 &&& (255 : Int32)) <<< ((8 : Int32) &&& 31)) ||| (w5 &&& (255 : Int32))))])) _
    exact k
  refine own_go k5 ?_
  clear k5
  obtain ⟨fs, hr, hrun, hended, hW, hsame⟩ := X0.leave (v := some (.int (((w4 &&& (255 : Int32)) <<< ((8 : Int32) &&& 31)) ||| (w5 &&& (255 : Int32))))) (fun h => by rw [Bd.returns] at h; cases h)
  refine ⟨_, _, retOut X0 hx Bd.returns rfl (Or.inl ⟨rfl, Or.inl rfl, _, rfl⟩) (hb hby own_d_prog_3_method_6_code_18) hr, hPf _ _ ⟨hrun, hended, _, _, rfl, ?_, ⟨_, rfl⟩, hW, hsame.mono (by decide) (by decide)⟩⟩
  show own_Q_idcode Z pa ck zl vl w4 w5 h0 n0 _ s₁.heap _
  rw [e0]
  exact ⟨rfl, N0, rfl⟩
theorem own_pd_285bB29I : parseMethodDescriptor "([B)I" = some ⟨[(.array .byte)], some .int⟩ := by decide +kernel
theorem own_ef_law (m : MethodId) (x0 : Int32) (x1 : Int32) (x2 : Int32) (x3 : Int32) : entryFrame m #[(.int x0), (.int x1), (.int x2), (.int x3)] maxLocals = mkF m 0 #[.val (.int x0), .val (.int x1), .val (.int x2), .val (.int x3), .unset, .unset, .unset] [] := by first | (simp [entryFrame, mkF, argsToLocals, Value.category, maxLocals]; done) | rfl
def own_Q_law (Z : State) (p0 : Int32) (p1 : Int32) (p2 : Int32) (p3 : Int32)  (h0 : Heap) (n0 : Nat) (v : Option Value) (h : Heap) (L : List Loc) : Prop := v = some (.int 1) ∧ Fr n0 L
theorem own_pn_com_example_feeder_feeder_adapters_FrameFormatIdcodePinLaw : plainName "com/example/feeder/feeder/adapters/FrameFormatIdcodePinLaw" = true := by first | (simp [plainName, overriddenIn]; done) | decide +kernel
set_option maxRecDepth 65536 in
set_option maxHeartbeats 40000000 in
theorem own_rm_law (l : Launch) (Z : State) (a0 : Array Value) (hw : ∀ d ∈ tables_1, d.before a0 Z = true) (ws : List Jvm.Cond) (p0 : Int32) (p1 : Int32) (p2 : Int32) (p3 : Int32)  (h0 : Heap) (n0 : Nat) (Z0 : n0 ≤ h0.size) :
    MetFree l x (head1 (Jvm.Cond.code x code maxLocals ret :: ws) room_1) (fun a U => a = #[(.int p0), (.int p1), (.int p2), (.int p3)] ∧ Z.Warmed39 U.vm ∧ U.heap = h0) (fun _ _ _ _ _ => True) (fun _ U o U' => ∃ v L, o = .returned v ∧ own_Q_law Z p0 p1 p2 p3 h0 n0 v U'.heap L ∧ FrameEnd U o U' L room_1.cells room_1.slots) := by
  refine MetFree.of_bodySF (plainFor_of_name own_pn_com_example_feeder_feeder_adapters_FrameFormatIdcodePinLaw) hisR ?_
  intro p e s m args below meth c s₁ Bd hml0 hP hKq_
  obtain ⟨rfl, hZ, hh⟩ := hP
  have hx := Bd.exec
  have hby := Bd.bytes
  have hml : c.maxLocals = 7 := hml0
  have hown : s.vm.findClass "com/example/feeder/feeder/adapters/FrameFormatIdcodePinLaw" = some m.cls := findClass_of_methodNamed Bd.named
  have hnm := (name_of_methodNamed Bd.named Bd.method).1
  have X0 : Stand p l e room_1 s m #[(.int p0), (.int p1), (.int p2), (.int p3)] below meth c s₁ [] 0 0 := Stand.of_body Bd
  have e0 : s₁.heap = h0 := by rw [← hh, Bd.state]; rfl
  have N0 := Fr.nil n0
  have pre0 : ∀ t, Steps p.tables e below (s₁.setTop (mkF m 0 #[.val (.int p0), .val (.int p1), .val (.int p2), .val (.int p3), .unset, .unset, .unset] [])) t → Steps p.tables e below (s₁.setTop (entryFrame m #[(.int p0), (.int p1), (.int p2), (.int p3)] maxLocals)) t := fun t k => castTop (own_ef_law m p0 p1 p2 p3) k
  refine own_go pre0 ?_
  refine own_abs ?_
  intro Pf hPf
  have k1 : ∀ t, Steps p.tables e below (s₁.setTop (mkF m 14 #[.val (.int p0), .val (.int p1), .val (.int p2), .val (.int p3), .val (.int (p0 &&& (65535 : Int32))), .val (.int ((6 : Int32) + (p3 &&& (3 : Int32)))), .unset] [])) t → Steps p.tables e below (s₁.setTop (mkF m 0 #[.val (.int p0), .val (.int p1), .val (.int p2), .val (.int p3), .unset, .unset, .unset] [])) t := fun t k => by
    refine XS.iloadN X0.here hx rfl (hb hby at_0) rfl ?_
    show Steps p.tables e below (s₁.setTop (mkF m 1 #[.val (.int p0), .val (.int p1), .val (.int p2), .val (.int p3), .unset, .unset, .unset] [(.int p0)])) _
    refine X0.ldcInt hx hown (mvT hZ (hw _ (List.mem_of_getElem? (i := 0) rfl))) (g := (mkF m 1 #[.val (.int p0), .val (.int p1), .val (.int p2), .val (.int p3), .unset, .unset, .unset] [(.int p0)])) rfl (hb hby at_1) _ ?_
    show Steps p.tables e below (s₁.setTop (mkF m 3 #[.val (.int p0), .val (.int p1), .val (.int p2), .val (.int p3), .unset, .unset, .unset] [(.int (65535 : Int32)), (.int p0)])) _
    refine XS.iand X0.here hx rfl (hb hby at_3) rfl ?_
    show Steps p.tables e below (s₁.setTop (mkF m 4 #[.val (.int p0), .val (.int p1), .val (.int p2), .val (.int p3), .unset, .unset, .unset] [(.int (p0 &&& (65535 : Int32)))])) _
    refine XS.istore X0.here hx rfl (hb hby at_4) rfl (l' := #[.val (.int p0), .val (.int p1), .val (.int p2), .val (.int p3), .val (.int (p0 &&& (65535 : Int32))), .unset, .unset]) rfl ?_
    show Steps p.tables e below (s₁.setTop (mkF m 6 #[.val (.int p0), .val (.int p1), .val (.int p2), .val (.int p3), .val (.int (p0 &&& (65535 : Int32))), .unset, .unset] [])) _
    refine XS.bipush X0.here hx rfl (hb hby at_6) ?_
    show Steps p.tables e below (s₁.setTop (mkF m 8 #[.val (.int p0), .val (.int p1), .val (.int p2), .val (.int p3), .val (.int (p0 &&& (65535 : Int32))), .unset, .unset] [(.int (6 : Int32))])) _
    refine XS.iloadN X0.here hx rfl (hb hby at_8) rfl ?_
    show Steps p.tables e below (s₁.setTop (mkF m 9 #[.val (.int p0), .val (.int p1), .val (.int p2), .val (.int p3), .val (.int (p0 &&& (65535 : Int32))), .unset, .unset] [(.int p3), (.int (6 : Int32))])) _
    refine XS.iconst X0.here hx rfl (hb hby at_9) ?_
    show Steps p.tables e below (s₁.setTop (mkF m 10 #[.val (.int p0), .val (.int p1), .val (.int p2), .val (.int p3), .val (.int (p0 &&& (65535 : Int32))), .unset, .unset] [(.int (3 : Int32)), (.int p3), (.int (6 : Int32))])) _
    refine XS.iand X0.here hx rfl (hb hby at_10) rfl ?_
    show Steps p.tables e below (s₁.setTop (mkF m 11 #[.val (.int p0), .val (.int p1), .val (.int p2), .val (.int p3), .val (.int (p0 &&& (65535 : Int32))), .unset, .unset] [(.int (p3 &&& (3 : Int32))), (.int (6 : Int32))])) _
    refine XS.iadd X0.here hx rfl (hb hby at_11) rfl ?_
    show Steps p.tables e below (s₁.setTop (mkF m 12 #[.val (.int p0), .val (.int p1), .val (.int p2), .val (.int p3), .val (.int (p0 &&& (65535 : Int32))), .unset, .unset] [(.int ((6 : Int32) + (p3 &&& (3 : Int32))))])) _
    refine XS.istore X0.here hx rfl (hb hby at_12) rfl (l' := #[.val (.int p0), .val (.int p1), .val (.int p2), .val (.int p3), .val (.int (p0 &&& (65535 : Int32))), .val (.int ((6 : Int32) + (p3 &&& (3 : Int32)))), .unset]) rfl ?_
    show Steps p.tables e below (s₁.setTop (mkF m 14 #[.val (.int p0), .val (.int p1), .val (.int p2), .val (.int p3), .val (.int (p0 &&& (65535 : Int32))), .val (.int ((6 : Int32) + (p3 &&& (3 : Int32)))), .unset] [])) _
    exact k
  refine own_go k1 ?_
  clear k1
  obtain ⟨want, h_want⟩ : ∃ z, z = (p0 &&& (65535 : Int32)) := ⟨_, rfl⟩
  rw [← h_want]
  have rw0 : 0 ≤ want.toInt ∧ want.toInt < 65536 := by rw [h_want]; exact own_r16 _
  obtain ⟨ln, h_ln⟩ : ∃ z, z = ((6 : Int32) + (p3 &&& (3 : Int32))) := ⟨_, rfl⟩
  rw [← h_ln]
  have hl : ln = 6 ∨ ln = 7 ∨ ln = 8 ∨ ln = 9 := by rw [h_ln]; exact own_len _
  rcases hl with hl | hl | hl | hl
  · subst hl
    have k2 : ∀ t, Steps p.tables e below (s₁.setTop (mkF m 16 #[.val (.int p0), .val (.int p1), .val (.int p2), .val (.int p3), .val (.int want), .val (.int (6 : Int32)), .unset] [(.int (6 : Int32))])) t → Steps p.tables e below (s₁.setTop (mkF m 14 #[.val (.int p0), .val (.int p1), .val (.int p2), .val (.int p3), .val (.int want), .val (.int (6 : Int32)), .unset] [])) t := fun t k => by
      refine XS.iload X0.here hx rfl (hb hby at_14) rfl ?_
      show Steps p.tables e below (s₁.setTop (mkF m 16 #[.val (.int p0), .val (.int p1), .val (.int p2), .val (.int p3), .val (.int want), .val (.int (6 : Int32)), .unset] [(.int (6 : Int32))])) _
      exact k
    refine own_go k2 ?_
    clear k2
    obtain ⟨T3, h3, k3, X3, e3, E3, A3, st3⟩ := newP X0 hx hZ (hw _ (List.mem_of_getElem? (i := 1) rfl)) e0 (g := (mkF m 16 #[.val (.int p0), .val (.int p1), .val (.int p2), .val (.int p3), .val (.int want), .val (.int (6 : Int32)), .unset] [(.int (6 : Int32))])) rfl (hb hby at_16) rfl (by decide) (cap := 6) (by decide) (by decide) (by decide) (by decide)
    obtain ⟨b3, g3⟩ : ∃ z, z = h0.size := ⟨_, rfl⟩
    rw [← g3] at A3 st3
    refine own_go st3 ?_
    have g_b3 : n0 ≤ b3 := Nat.le_trans Z0 (Nat.le_of_eq g3.symm)
    have Z3 : n0 ≤ h3.size := Nat.le_trans Z0 E3.1
    have V3 : Arv Z h3 b3 k3 .byte (6 : Int32) [(.int (0 : Int32)), (.int (0 : Int32)), (.int (0 : Int32)), (.int (0 : Int32)), (.int (0 : Int32)), (.int (0 : Int32))] (.int (0 : Int32)) := (Arv.new A3 (by decide)).pad (pad_rep [] (.int (0 : Int32)) 6)
    have k4 : ∀ t, Steps p.tables e below (T3.setTop (mkF m 28 #[.val (.int p0), .val (.int p1), .val (.int p2), .val (.int p3), .val (.int want), .val (.int (6 : Int32)), .val (.ref b3)] [(.int ((p1.toUInt32 >>> ((24 : Int32) &&& 31).toUInt32).toInt32).toInt8.toInt32), (.int (0 : Int32)), (.ref b3)])) t → Steps p.tables e below (T3.setTop (mkF m 18 #[.val (.int p0), .val (.int p1), .val (.int p2), .val (.int p3), .val (.int want), .val (.int (6 : Int32)), .unset] [(.ref b3)])) t := fun t k => by
      refine XS.astore X3.here hx rfl (hb hby at_18) rfl rfl (l' := #[.val (.int p0), .val (.int p1), .val (.int p2), .val (.int p3), .val (.int want), .val (.int (6 : Int32)), .val (.ref b3)]) rfl ?_
      show Steps p.tables e below (T3.setTop (mkF m 20 #[.val (.int p0), .val (.int p1), .val (.int p2), .val (.int p3), .val (.int want), .val (.int (6 : Int32)), .val (.ref b3)] [])) _
      refine XS.aload X3.here hx rfl (hb hby at_20) rfl rfl ?_
      show Steps p.tables e below (T3.setTop (mkF m 22 #[.val (.int p0), .val (.int p1), .val (.int p2), .val (.int p3), .val (.int want), .val (.int (6 : Int32)), .val (.ref b3)] [(.ref b3)])) _
      refine XS.iconst X3.here hx rfl (hb hby at_22) ?_
      show Steps p.tables e below (T3.setTop (mkF m 23 #[.val (.int p0), .val (.int p1), .val (.int p2), .val (.int p3), .val (.int want), .val (.int (6 : Int32)), .val (.ref b3)] [(.int (0 : Int32)), (.ref b3)])) _
      refine XS.iloadN X3.here hx rfl (hb hby at_23) rfl ?_
      show Steps p.tables e below (T3.setTop (mkF m 24 #[.val (.int p0), .val (.int p1), .val (.int p2), .val (.int p3), .val (.int want), .val (.int (6 : Int32)), .val (.ref b3)] [(.int p1), (.int (0 : Int32)), (.ref b3)])) _
      refine XS.bipush X3.here hx rfl (hb hby at_24) ?_
      show Steps p.tables e below (T3.setTop (mkF m 26 #[.val (.int p0), .val (.int p1), .val (.int p2), .val (.int p3), .val (.int want), .val (.int (6 : Int32)), .val (.ref b3)] [(.int (24 : Int32)), (.int p1), (.int (0 : Int32)), (.ref b3)])) _
      refine XS.iushr X3.here hx rfl (hb hby at_26) rfl ?_
      show Steps p.tables e below (T3.setTop (mkF m 27 #[.val (.int p0), .val (.int p1), .val (.int p2), .val (.int p3), .val (.int want), .val (.int (6 : Int32)), .val (.ref b3)] [(.int ((p1.toUInt32 >>> ((24 : Int32) &&& 31).toUInt32).toInt32)), (.int (0 : Int32)), (.ref b3)])) _
      refine XS.i2b X3.here hx rfl (hb hby at_27) rfl ?_
      show Steps p.tables e below (T3.setTop (mkF m 28 #[.val (.int p0), .val (.int p1), .val (.int p2), .val (.int p3), .val (.int want), .val (.int (6 : Int32)), .val (.ref b3)] [(.int ((p1.toUInt32 >>> ((24 : Int32) &&& 31).toUInt32).toInt32).toInt8.toInt32), (.int (0 : Int32)), (.ref b3)])) _
      exact k
    refine own_go k4 ?_
    clear k4
    obtain ⟨cl5, Ar5, q5, S5, N5, H5, G5⟩ := id (V3)
    have hi5 : ¬ ((0 : Int32) < 0 ∨ cl5.slots.size ≤ ((0 : Int32)).toNatClampNeg) := inb_of S5 ⟨by decide, by decide⟩
    obtain ⟨T6, h6, X6, e6, W6, st6⟩ := stB X3 hx hZ e3 Ar5 (j := (0 : Int32)) hi5 (g := (mkF m 28 #[.val (.int p0), .val (.int p1), .val (.int p2), .val (.int p3), .val (.int want), .val (.int (6 : Int32)), .val (.ref b3)] [(.int ((p1.toUInt32 >>> ((24 : Int32) &&& 31).toUInt32).toInt32).toInt8.toInt32), (.int (0 : Int32)), (.ref b3)])) rfl rfl (hb hby at_28)
    refine own_go st6 ?_
    have V6 : Arv Z h6 b3 k3 .byte (6 : Int32) [(.int (nar .byte ((p1.toUInt32 >>> ((24 : Int32) &&& 31).toUInt32).toInt32).toInt8.toInt32)), (.int (0 : Int32)), (.int (0 : Int32)), (.int (0 : Int32)), (.int (0 : Int32)), (.int (0 : Int32))] (.int (0 : Int32)) := Arv.set Ar5 q5 S5 N5 H5 G5 (fits_nar_byte _) W6 0 rfl (Nat.le_of_ble_eq_true rfl)
    have f6_0 : Arv Z h6 b3 k3 .byte (6 : Int32) [(.int (nar .byte ((p1.toUInt32 >>> ((24 : Int32) &&& 31).toUInt32).toInt32).toInt8.toInt32)), (.int (0 : Int32)), (.int (0 : Int32)), (.int (0 : Int32)), (.int (0 : Int32)), (.int (0 : Int32))] (.int (0 : Int32)) := V6
    have N6 := Fr.snoc X6 N0 g_b3
    have Z6 : n0 ≤ h6.size := Nat.le_trans Z3 (Keep.of_wr W6).1
    have k7 : ∀ t, Steps p.tables e below (T6.setTop (mkF m 37 #[.val (.int p0), .val (.int p1), .val (.int p2), .val (.int p3), .val (.int want), .val (.int (6 : Int32)), .val (.ref b3)] [(.int ((p1.toUInt32 >>> ((16 : Int32) &&& 31).toUInt32).toInt32).toInt8.toInt32), (.int (1 : Int32)), (.ref b3)])) t → Steps p.tables e below (T6.setTop (mkF m 29 #[.val (.int p0), .val (.int p1), .val (.int p2), .val (.int p3), .val (.int want), .val (.int (6 : Int32)), .val (.ref b3)] [])) t := fun t k => by
      refine XS.aload X6.here hx rfl (hb hby at_29) rfl rfl ?_
      show Steps p.tables e below (T6.setTop (mkF m 31 #[.val (.int p0), .val (.int p1), .val (.int p2), .val (.int p3), .val (.int want), .val (.int (6 : Int32)), .val (.ref b3)] [(.ref b3)])) _
      refine XS.iconst X6.here hx rfl (hb hby at_31) ?_
      show Steps p.tables e below (T6.setTop (mkF m 32 #[.val (.int p0), .val (.int p1), .val (.int p2), .val (.int p3), .val (.int want), .val (.int (6 : Int32)), .val (.ref b3)] [(.int (1 : Int32)), (.ref b3)])) _
      refine XS.iloadN X6.here hx rfl (hb hby at_32) rfl ?_
      show Steps p.tables e below (T6.setTop (mkF m 33 #[.val (.int p0), .val (.int p1), .val (.int p2), .val (.int p3), .val (.int want), .val (.int (6 : Int32)), .val (.ref b3)] [(.int p1), (.int (1 : Int32)), (.ref b3)])) _
      refine XS.bipush X6.here hx rfl (hb hby at_33) ?_
      show Steps p.tables e below (T6.setTop (mkF m 35 #[.val (.int p0), .val (.int p1), .val (.int p2), .val (.int p3), .val (.int want), .val (.int (6 : Int32)), .val (.ref b3)] [(.int (16 : Int32)), (.int p1), (.int (1 : Int32)), (.ref b3)])) _
      refine XS.iushr X6.here hx rfl (hb hby at_35) rfl ?_
      show Steps p.tables e below (T6.setTop (mkF m 36 #[.val (.int p0), .val (.int p1), .val (.int p2), .val (.int p3), .val (.int want), .val (.int (6 : Int32)), .val (.ref b3)] [(.int ((p1.toUInt32 >>> ((16 : Int32) &&& 31).toUInt32).toInt32)), (.int (1 : Int32)), (.ref b3)])) _
      refine XS.i2b X6.here hx rfl (hb hby at_36) rfl ?_
      show Steps p.tables e below (T6.setTop (mkF m 37 #[.val (.int p0), .val (.int p1), .val (.int p2), .val (.int p3), .val (.int want), .val (.int (6 : Int32)), .val (.ref b3)] [(.int ((p1.toUInt32 >>> ((16 : Int32) &&& 31).toUInt32).toInt32).toInt8.toInt32), (.int (1 : Int32)), (.ref b3)])) _
      exact k
    refine own_go k7 ?_
    clear k7
    obtain ⟨cl8, Ar8, q8, S8, N8, H8, G8⟩ := id (f6_0)
    have hi8 : ¬ ((1 : Int32) < 0 ∨ cl8.slots.size ≤ ((1 : Int32)).toNatClampNeg) := inb_of S8 ⟨by decide, by decide⟩
    obtain ⟨T9, h9, X9, e9, W9, st9⟩ := stB X6 hx hZ e6 Ar8 (j := (1 : Int32)) hi8 (g := (mkF m 37 #[.val (.int p0), .val (.int p1), .val (.int p2), .val (.int p3), .val (.int want), .val (.int (6 : Int32)), .val (.ref b3)] [(.int ((p1.toUInt32 >>> ((16 : Int32) &&& 31).toUInt32).toInt32).toInt8.toInt32), (.int (1 : Int32)), (.ref b3)])) rfl rfl (hb hby at_37)
    refine own_go st9 ?_
    have V9 : Arv Z h9 b3 k3 .byte (6 : Int32) [(.int (nar .byte ((p1.toUInt32 >>> ((24 : Int32) &&& 31).toUInt32).toInt32).toInt8.toInt32)), (.int (nar .byte ((p1.toUInt32 >>> ((16 : Int32) &&& 31).toUInt32).toInt32).toInt8.toInt32)), (.int (0 : Int32)), (.int (0 : Int32)), (.int (0 : Int32)), (.int (0 : Int32))] (.int (0 : Int32)) := Arv.set Ar8 q8 S8 N8 H8 G8 (fits_nar_byte _) W9 1 rfl (Nat.le_of_ble_eq_true rfl)
    have f9_0 : Arv Z h9 b3 k3 .byte (6 : Int32) [(.int (nar .byte ((p1.toUInt32 >>> ((24 : Int32) &&& 31).toUInt32).toInt32).toInt8.toInt32)), (.int (nar .byte ((p1.toUInt32 >>> ((16 : Int32) &&& 31).toUInt32).toInt32).toInt8.toInt32)), (.int (0 : Int32)), (.int (0 : Int32)), (.int (0 : Int32)), (.int (0 : Int32))] (.int (0 : Int32)) := V9
    have N9 := Fr.snoc X9 N6 g_b3
    have Z9 : n0 ≤ h9.size := Nat.le_trans Z6 (Keep.of_wr W9).1
    have k10 : ∀ t, Steps p.tables e below (T9.setTop (mkF m 46 #[.val (.int p0), .val (.int p1), .val (.int p2), .val (.int p3), .val (.int want), .val (.int (6 : Int32)), .val (.ref b3)] [(.int ((p1.toUInt32 >>> ((8 : Int32) &&& 31).toUInt32).toInt32).toInt8.toInt32), (.int (2 : Int32)), (.ref b3)])) t → Steps p.tables e below (T9.setTop (mkF m 38 #[.val (.int p0), .val (.int p1), .val (.int p2), .val (.int p3), .val (.int want), .val (.int (6 : Int32)), .val (.ref b3)] [])) t := fun t k => by
      refine XS.aload X9.here hx rfl (hb hby at_38) rfl rfl ?_
      show Steps p.tables e below (T9.setTop (mkF m 40 #[.val (.int p0), .val (.int p1), .val (.int p2), .val (.int p3), .val (.int want), .val (.int (6 : Int32)), .val (.ref b3)] [(.ref b3)])) _
      refine XS.iconst X9.here hx rfl (hb hby at_40) ?_
      show Steps p.tables e below (T9.setTop (mkF m 41 #[.val (.int p0), .val (.int p1), .val (.int p2), .val (.int p3), .val (.int want), .val (.int (6 : Int32)), .val (.ref b3)] [(.int (2 : Int32)), (.ref b3)])) _
      refine XS.iloadN X9.here hx rfl (hb hby at_41) rfl ?_
      show Steps p.tables e below (T9.setTop (mkF m 42 #[.val (.int p0), .val (.int p1), .val (.int p2), .val (.int p3), .val (.int want), .val (.int (6 : Int32)), .val (.ref b3)] [(.int p1), (.int (2 : Int32)), (.ref b3)])) _
      refine XS.bipush X9.here hx rfl (hb hby at_42) ?_
      show Steps p.tables e below (T9.setTop (mkF m 44 #[.val (.int p0), .val (.int p1), .val (.int p2), .val (.int p3), .val (.int want), .val (.int (6 : Int32)), .val (.ref b3)] [(.int (8 : Int32)), (.int p1), (.int (2 : Int32)), (.ref b3)])) _
      refine XS.iushr X9.here hx rfl (hb hby at_44) rfl ?_
      show Steps p.tables e below (T9.setTop (mkF m 45 #[.val (.int p0), .val (.int p1), .val (.int p2), .val (.int p3), .val (.int want), .val (.int (6 : Int32)), .val (.ref b3)] [(.int ((p1.toUInt32 >>> ((8 : Int32) &&& 31).toUInt32).toInt32)), (.int (2 : Int32)), (.ref b3)])) _
      refine XS.i2b X9.here hx rfl (hb hby at_45) rfl ?_
      show Steps p.tables e below (T9.setTop (mkF m 46 #[.val (.int p0), .val (.int p1), .val (.int p2), .val (.int p3), .val (.int want), .val (.int (6 : Int32)), .val (.ref b3)] [(.int ((p1.toUInt32 >>> ((8 : Int32) &&& 31).toUInt32).toInt32).toInt8.toInt32), (.int (2 : Int32)), (.ref b3)])) _
      exact k
    refine own_go k10 ?_
    clear k10
    obtain ⟨cl11, Ar11, q11, S11, N11, H11, G11⟩ := id (f9_0)
    have hi11 : ¬ ((2 : Int32) < 0 ∨ cl11.slots.size ≤ ((2 : Int32)).toNatClampNeg) := inb_of S11 ⟨by decide, by decide⟩
    obtain ⟨T12, h12, X12, e12, W12, st12⟩ := stB X9 hx hZ e9 Ar11 (j := (2 : Int32)) hi11 (g := (mkF m 46 #[.val (.int p0), .val (.int p1), .val (.int p2), .val (.int p3), .val (.int want), .val (.int (6 : Int32)), .val (.ref b3)] [(.int ((p1.toUInt32 >>> ((8 : Int32) &&& 31).toUInt32).toInt32).toInt8.toInt32), (.int (2 : Int32)), (.ref b3)])) rfl rfl (hb hby at_46)
    refine own_go st12 ?_
    have V12 : Arv Z h12 b3 k3 .byte (6 : Int32) [(.int (nar .byte ((p1.toUInt32 >>> ((24 : Int32) &&& 31).toUInt32).toInt32).toInt8.toInt32)), (.int (nar .byte ((p1.toUInt32 >>> ((16 : Int32) &&& 31).toUInt32).toInt32).toInt8.toInt32)), (.int (nar .byte ((p1.toUInt32 >>> ((8 : Int32) &&& 31).toUInt32).toInt32).toInt8.toInt32)), (.int (0 : Int32)), (.int (0 : Int32)), (.int (0 : Int32))] (.int (0 : Int32)) := Arv.set Ar11 q11 S11 N11 H11 G11 (fits_nar_byte _) W12 2 rfl (Nat.le_of_ble_eq_true rfl)
    have f12_0 : Arv Z h12 b3 k3 .byte (6 : Int32) [(.int (nar .byte ((p1.toUInt32 >>> ((24 : Int32) &&& 31).toUInt32).toInt32).toInt8.toInt32)), (.int (nar .byte ((p1.toUInt32 >>> ((16 : Int32) &&& 31).toUInt32).toInt32).toInt8.toInt32)), (.int (nar .byte ((p1.toUInt32 >>> ((8 : Int32) &&& 31).toUInt32).toInt32).toInt8.toInt32)), (.int (0 : Int32)), (.int (0 : Int32)), (.int (0 : Int32))] (.int (0 : Int32)) := V12
    have N12 := Fr.snoc X12 N9 g_b3
    have Z12 : n0 ≤ h12.size := Nat.le_trans Z9 (Keep.of_wr W12).1
    have k13 : ∀ t, Steps p.tables e below (T12.setTop (mkF m 52 #[.val (.int p0), .val (.int p1), .val (.int p2), .val (.int p3), .val (.int want), .val (.int (6 : Int32)), .val (.ref b3)] [(.int p1.toInt8.toInt32), (.int (3 : Int32)), (.ref b3)])) t → Steps p.tables e below (T12.setTop (mkF m 47 #[.val (.int p0), .val (.int p1), .val (.int p2), .val (.int p3), .val (.int want), .val (.int (6 : Int32)), .val (.ref b3)] [])) t := fun t k => by
      refine XS.aload X12.here hx rfl (hb hby at_47) rfl rfl ?_
      show Steps p.tables e below (T12.setTop (mkF m 49 #[.val (.int p0), .val (.int p1), .val (.int p2), .val (.int p3), .val (.int want), .val (.int (6 : Int32)), .val (.ref b3)] [(.ref b3)])) _
      refine XS.iconst X12.here hx rfl (hb hby at_49) ?_
      show Steps p.tables e below (T12.setTop (mkF m 50 #[.val (.int p0), .val (.int p1), .val (.int p2), .val (.int p3), .val (.int want), .val (.int (6 : Int32)), .val (.ref b3)] [(.int (3 : Int32)), (.ref b3)])) _
      refine XS.iloadN X12.here hx rfl (hb hby at_50) rfl ?_
      show Steps p.tables e below (T12.setTop (mkF m 51 #[.val (.int p0), .val (.int p1), .val (.int p2), .val (.int p3), .val (.int want), .val (.int (6 : Int32)), .val (.ref b3)] [(.int p1), (.int (3 : Int32)), (.ref b3)])) _
      refine XS.i2b X12.here hx rfl (hb hby at_51) rfl ?_
      show Steps p.tables e below (T12.setTop (mkF m 52 #[.val (.int p0), .val (.int p1), .val (.int p2), .val (.int p3), .val (.int want), .val (.int (6 : Int32)), .val (.ref b3)] [(.int p1.toInt8.toInt32), (.int (3 : Int32)), (.ref b3)])) _
      exact k
    refine own_go k13 ?_
    clear k13
    obtain ⟨cl14, Ar14, q14, S14, N14, H14, G14⟩ := id (f12_0)
    have hi14 : ¬ ((3 : Int32) < 0 ∨ cl14.slots.size ≤ ((3 : Int32)).toNatClampNeg) := inb_of S14 ⟨by decide, by decide⟩
    obtain ⟨T15, h15, X15, e15, W15, st15⟩ := stB X12 hx hZ e12 Ar14 (j := (3 : Int32)) hi14 (g := (mkF m 52 #[.val (.int p0), .val (.int p1), .val (.int p2), .val (.int p3), .val (.int want), .val (.int (6 : Int32)), .val (.ref b3)] [(.int p1.toInt8.toInt32), (.int (3 : Int32)), (.ref b3)])) rfl rfl (hb hby at_52)
    refine own_go st15 ?_
    have V15 : Arv Z h15 b3 k3 .byte (6 : Int32) [(.int (nar .byte ((p1.toUInt32 >>> ((24 : Int32) &&& 31).toUInt32).toInt32).toInt8.toInt32)), (.int (nar .byte ((p1.toUInt32 >>> ((16 : Int32) &&& 31).toUInt32).toInt32).toInt8.toInt32)), (.int (nar .byte ((p1.toUInt32 >>> ((8 : Int32) &&& 31).toUInt32).toInt32).toInt8.toInt32)), (.int (nar .byte p1.toInt8.toInt32)), (.int (0 : Int32)), (.int (0 : Int32))] (.int (0 : Int32)) := Arv.set Ar14 q14 S14 N14 H14 G14 (fits_nar_byte _) W15 3 rfl (Nat.le_of_ble_eq_true rfl)
    have f15_0 : Arv Z h15 b3 k3 .byte (6 : Int32) [(.int (nar .byte ((p1.toUInt32 >>> ((24 : Int32) &&& 31).toUInt32).toInt32).toInt8.toInt32)), (.int (nar .byte ((p1.toUInt32 >>> ((16 : Int32) &&& 31).toUInt32).toInt32).toInt8.toInt32)), (.int (nar .byte ((p1.toUInt32 >>> ((8 : Int32) &&& 31).toUInt32).toInt32).toInt8.toInt32)), (.int (nar .byte p1.toInt8.toInt32)), (.int (0 : Int32)), (.int (0 : Int32))] (.int (0 : Int32)) := V15
    have N15 := Fr.snoc X15 N12 g_b3
    have Z15 : n0 ≤ h15.size := Nat.le_trans Z12 (Keep.of_wr W15).1
    have k16 : ∀ t, Steps p.tables e below (T15.setTop (mkF m 62 #[.val (.int p0), .val (.int p1), .val (.int p2), .val (.int p3), .val (.int want), .val (.int (6 : Int32)), .val (.ref b3)] [(.int ((want.toUInt32 >>> ((8 : Int32) &&& 31).toUInt32).toInt32).toInt8.toInt32), (.int (4 : Int32)), (.ref b3)])) t → Steps p.tables e below (T15.setTop (mkF m 53 #[.val (.int p0), .val (.int p1), .val (.int p2), .val (.int p3), .val (.int want), .val (.int (6 : Int32)), .val (.ref b3)] [])) t := fun t k => by
      refine XS.aload X15.here hx rfl (hb hby at_53) rfl rfl ?_
      show Steps p.tables e below (T15.setTop (mkF m 55 #[.val (.int p0), .val (.int p1), .val (.int p2), .val (.int p3), .val (.int want), .val (.int (6 : Int32)), .val (.ref b3)] [(.ref b3)])) _
      refine XS.iconst X15.here hx rfl (hb hby at_55) ?_
      show Steps p.tables e below (T15.setTop (mkF m 56 #[.val (.int p0), .val (.int p1), .val (.int p2), .val (.int p3), .val (.int want), .val (.int (6 : Int32)), .val (.ref b3)] [(.int (4 : Int32)), (.ref b3)])) _
      refine XS.iload X15.here hx rfl (hb hby at_56) rfl ?_
      show Steps p.tables e below (T15.setTop (mkF m 58 #[.val (.int p0), .val (.int p1), .val (.int p2), .val (.int p3), .val (.int want), .val (.int (6 : Int32)), .val (.ref b3)] [(.int want), (.int (4 : Int32)), (.ref b3)])) _
      refine XS.bipush X15.here hx rfl (hb hby at_58) ?_
      show Steps p.tables e below (T15.setTop (mkF m 60 #[.val (.int p0), .val (.int p1), .val (.int p2), .val (.int p3), .val (.int want), .val (.int (6 : Int32)), .val (.ref b3)] [(.int (8 : Int32)), (.int want), (.int (4 : Int32)), (.ref b3)])) _
      refine XS.iushr X15.here hx rfl (hb hby at_60) rfl ?_
      show Steps p.tables e below (T15.setTop (mkF m 61 #[.val (.int p0), .val (.int p1), .val (.int p2), .val (.int p3), .val (.int want), .val (.int (6 : Int32)), .val (.ref b3)] [(.int ((want.toUInt32 >>> ((8 : Int32) &&& 31).toUInt32).toInt32)), (.int (4 : Int32)), (.ref b3)])) _
      refine XS.i2b X15.here hx rfl (hb hby at_61) rfl ?_
      show Steps p.tables e below (T15.setTop (mkF m 62 #[.val (.int p0), .val (.int p1), .val (.int p2), .val (.int p3), .val (.int want), .val (.int (6 : Int32)), .val (.ref b3)] [(.int ((want.toUInt32 >>> ((8 : Int32) &&& 31).toUInt32).toInt32).toInt8.toInt32), (.int (4 : Int32)), (.ref b3)])) _
      exact k
    refine own_go k16 ?_
    clear k16
    obtain ⟨cl17, Ar17, q17, S17, N17, H17, G17⟩ := id (f15_0)
    have hi17 : ¬ ((4 : Int32) < 0 ∨ cl17.slots.size ≤ ((4 : Int32)).toNatClampNeg) := inb_of S17 ⟨by decide, by decide⟩
    obtain ⟨T18, h18, X18, e18, W18, st18⟩ := stB X15 hx hZ e15 Ar17 (j := (4 : Int32)) hi17 (g := (mkF m 62 #[.val (.int p0), .val (.int p1), .val (.int p2), .val (.int p3), .val (.int want), .val (.int (6 : Int32)), .val (.ref b3)] [(.int ((want.toUInt32 >>> ((8 : Int32) &&& 31).toUInt32).toInt32).toInt8.toInt32), (.int (4 : Int32)), (.ref b3)])) rfl rfl (hb hby at_62)
    refine own_go st18 ?_
    have V18 : Arv Z h18 b3 k3 .byte (6 : Int32) [(.int (nar .byte ((p1.toUInt32 >>> ((24 : Int32) &&& 31).toUInt32).toInt32).toInt8.toInt32)), (.int (nar .byte ((p1.toUInt32 >>> ((16 : Int32) &&& 31).toUInt32).toInt32).toInt8.toInt32)), (.int (nar .byte ((p1.toUInt32 >>> ((8 : Int32) &&& 31).toUInt32).toInt32).toInt8.toInt32)), (.int (nar .byte p1.toInt8.toInt32)), (.int (nar .byte ((want.toUInt32 >>> ((8 : Int32) &&& 31).toUInt32).toInt32).toInt8.toInt32)), (.int (0 : Int32))] (.int (0 : Int32)) := Arv.set Ar17 q17 S17 N17 H17 G17 (fits_nar_byte _) W18 4 rfl (Nat.le_of_ble_eq_true rfl)
    have f18_0 : Arv Z h18 b3 k3 .byte (6 : Int32) [(.int (nar .byte ((p1.toUInt32 >>> ((24 : Int32) &&& 31).toUInt32).toInt32).toInt8.toInt32)), (.int (nar .byte ((p1.toUInt32 >>> ((16 : Int32) &&& 31).toUInt32).toInt32).toInt8.toInt32)), (.int (nar .byte ((p1.toUInt32 >>> ((8 : Int32) &&& 31).toUInt32).toInt32).toInt8.toInt32)), (.int (nar .byte p1.toInt8.toInt32)), (.int (nar .byte ((want.toUInt32 >>> ((8 : Int32) &&& 31).toUInt32).toInt32).toInt8.toInt32)), (.int (0 : Int32))] (.int (0 : Int32)) := V18
    have N18 := Fr.snoc X18 N15 g_b3
    have Z18 : n0 ≤ h18.size := Nat.le_trans Z15 (Keep.of_wr W18).1
    have k19 : ∀ t, Steps p.tables e below (T18.setTop (mkF m 69 #[.val (.int p0), .val (.int p1), .val (.int p2), .val (.int p3), .val (.int want), .val (.int (6 : Int32)), .val (.ref b3)] [(.int want.toInt8.toInt32), (.int (5 : Int32)), (.ref b3)])) t → Steps p.tables e below (T18.setTop (mkF m 63 #[.val (.int p0), .val (.int p1), .val (.int p2), .val (.int p3), .val (.int want), .val (.int (6 : Int32)), .val (.ref b3)] [])) t := fun t k => by
      refine XS.aload X18.here hx rfl (hb hby at_63) rfl rfl ?_
      show Steps p.tables e below (T18.setTop (mkF m 65 #[.val (.int p0), .val (.int p1), .val (.int p2), .val (.int p3), .val (.int want), .val (.int (6 : Int32)), .val (.ref b3)] [(.ref b3)])) _
      refine XS.iconst X18.here hx rfl (hb hby at_65) ?_
      show Steps p.tables e below (T18.setTop (mkF m 66 #[.val (.int p0), .val (.int p1), .val (.int p2), .val (.int p3), .val (.int want), .val (.int (6 : Int32)), .val (.ref b3)] [(.int (5 : Int32)), (.ref b3)])) _
      refine XS.iload X18.here hx rfl (hb hby at_66) rfl ?_
      show Steps p.tables e below (T18.setTop (mkF m 68 #[.val (.int p0), .val (.int p1), .val (.int p2), .val (.int p3), .val (.int want), .val (.int (6 : Int32)), .val (.ref b3)] [(.int want), (.int (5 : Int32)), (.ref b3)])) _
      refine XS.i2b X18.here hx rfl (hb hby at_68) rfl ?_
      show Steps p.tables e below (T18.setTop (mkF m 69 #[.val (.int p0), .val (.int p1), .val (.int p2), .val (.int p3), .val (.int want), .val (.int (6 : Int32)), .val (.ref b3)] [(.int want.toInt8.toInt32), (.int (5 : Int32)), (.ref b3)])) _
      exact k
    refine own_go k19 ?_
    clear k19
    obtain ⟨cl20, Ar20, q20, S20, N20, H20, G20⟩ := id (f18_0)
    have hi20 : ¬ ((5 : Int32) < 0 ∨ cl20.slots.size ≤ ((5 : Int32)).toNatClampNeg) := inb_of S20 ⟨by decide, by decide⟩
    obtain ⟨T21, h21, X21, e21, W21, st21⟩ := stB X18 hx hZ e18 Ar20 (j := (5 : Int32)) hi20 (g := (mkF m 69 #[.val (.int p0), .val (.int p1), .val (.int p2), .val (.int p3), .val (.int want), .val (.int (6 : Int32)), .val (.ref b3)] [(.int want.toInt8.toInt32), (.int (5 : Int32)), (.ref b3)])) rfl rfl (hb hby at_69)
    refine own_go st21 ?_
    have V21 : Arv Z h21 b3 k3 .byte (6 : Int32) [(.int (nar .byte ((p1.toUInt32 >>> ((24 : Int32) &&& 31).toUInt32).toInt32).toInt8.toInt32)), (.int (nar .byte ((p1.toUInt32 >>> ((16 : Int32) &&& 31).toUInt32).toInt32).toInt8.toInt32)), (.int (nar .byte ((p1.toUInt32 >>> ((8 : Int32) &&& 31).toUInt32).toInt32).toInt8.toInt32)), (.int (nar .byte p1.toInt8.toInt32)), (.int (nar .byte ((want.toUInt32 >>> ((8 : Int32) &&& 31).toUInt32).toInt32).toInt8.toInt32)), (.int (nar .byte want.toInt8.toInt32))] (.int (0 : Int32)) := Arv.set Ar20 q20 S20 N20 H20 G20 (fits_nar_byte _) W21 5 rfl (Nat.le_of_ble_eq_true rfl)
    have f21_0 : Arv Z h21 b3 k3 .byte (6 : Int32) [(.int (nar .byte ((p1.toUInt32 >>> ((24 : Int32) &&& 31).toUInt32).toInt32).toInt8.toInt32)), (.int (nar .byte ((p1.toUInt32 >>> ((16 : Int32) &&& 31).toUInt32).toInt32).toInt8.toInt32)), (.int (nar .byte ((p1.toUInt32 >>> ((8 : Int32) &&& 31).toUInt32).toInt32).toInt8.toInt32)), (.int (nar .byte p1.toInt8.toInt32)), (.int (nar .byte ((want.toUInt32 >>> ((8 : Int32) &&& 31).toUInt32).toInt32).toInt8.toInt32)), (.int (nar .byte want.toInt8.toInt32))] (.int (0 : Int32)) := V21
    have N21 := Fr.snoc X21 N18 g_b3
    have Z21 : n0 ≤ h21.size := Nat.le_trans Z18 (Keep.of_wr W21).1
    have k23 : ∀ t, Steps p.tables e below (T21.setTop (mkF m 120 #[.val (.int p0), .val (.int p1), .val (.int p2), .val (.int p3), .val (.int want), .val (.int (6 : Int32)), .val (.ref b3)] [(.ref b3)])) t → Steps p.tables e below (T21.setTop (mkF m 70 #[.val (.int p0), .val (.int p1), .val (.int p2), .val (.int p3), .val (.int want), .val (.int (6 : Int32)), .val (.ref b3)] [])) t := fun t k => by
      refine XS.iload X21.here hx rfl (hb hby at_70) rfl ?_
      show Steps p.tables e below (T21.setTop (mkF m 72 #[.val (.int p0), .val (.int p1), .val (.int p2), .val (.int p3), .val (.int want), .val (.int (6 : Int32)), .val (.ref b3)] [(.int (6 : Int32))])) _
      refine XS.bipush X21.here hx rfl (hb hby at_72) ?_
      show Steps p.tables e below (T21.setTop (mkF m 74 #[.val (.int p0), .val (.int p1), .val (.int p2), .val (.int p3), .val (.int want), .val (.int (6 : Int32)), .val (.ref b3)] [(.int (6 : Int32)), (.int (6 : Int32))])) _
      refine XS.icmpYes X21.here hx rfl (pc0 := 74) (pc' := 84) rfl (hb hby at_74) rfl (flt (by decide : ¬ ((6 : Int32) < (6 : Int32)))).2.2.2 (by decide) (by decide) ?_
      show Steps p.tables e below (T21.setTop (mkF m 84 #[.val (.int p0), .val (.int p1), .val (.int p2), .val (.int p3), .val (.int want), .val (.int (6 : Int32)), .val (.ref b3)] [])) _
      refine XS.iload X21.here hx rfl (hb hby at_84) rfl ?_
      show Steps p.tables e below (T21.setTop (mkF m 86 #[.val (.int p0), .val (.int p1), .val (.int p2), .val (.int p3), .val (.int want), .val (.int (6 : Int32)), .val (.ref b3)] [(.int (6 : Int32))])) _
      refine XS.bipush X21.here hx rfl (hb hby at_86) ?_
      show Steps p.tables e below (T21.setTop (mkF m 88 #[.val (.int p0), .val (.int p1), .val (.int p2), .val (.int p3), .val (.int want), .val (.int (6 : Int32)), .val (.ref b3)] [(.int (7 : Int32)), (.int (6 : Int32))])) _
      refine XS.icmpYes X21.here hx rfl (pc0 := 88) (pc' := 101) rfl (hb hby at_88) rfl (flt (by decide : ¬ ((7 : Int32) < (6 : Int32)))).2.2.2 (by decide) (by decide) ?_
      show Steps p.tables e below (T21.setTop (mkF m 101 #[.val (.int p0), .val (.int p1), .val (.int p2), .val (.int p3), .val (.int want), .val (.int (6 : Int32)), .val (.ref b3)] [])) _
      refine XS.iload X21.here hx rfl (hb hby at_101) rfl ?_
      show Steps p.tables e below (T21.setTop (mkF m 103 #[.val (.int p0), .val (.int p1), .val (.int p2), .val (.int p3), .val (.int want), .val (.int (6 : Int32)), .val (.ref b3)] [(.int (6 : Int32))])) _
      refine XS.bipush X21.here hx rfl (hb hby at_103) ?_
      show Steps p.tables e below (T21.setTop (mkF m 105 #[.val (.int p0), .val (.int p1), .val (.int p2), .val (.int p3), .val (.int want), .val (.int (6 : Int32)), .val (.ref b3)] [(.int (8 : Int32)), (.int (6 : Int32))])) _
      refine XS.icmpYes X21.here hx rfl (pc0 := 105) (pc' := 118) rfl (hb hby at_105) rfl (flt (by decide : ¬ ((8 : Int32) < (6 : Int32)))).2.2.2 (by decide) (by decide) ?_
      show Steps p.tables e below (T21.setTop (mkF m 118 #[.val (.int p0), .val (.int p1), .val (.int p2), .val (.int p3), .val (.int want), .val (.int (6 : Int32)), .val (.ref b3)] [])) _
      refine XS.aload X21.here hx rfl (hb hby at_118) rfl rfl ?_
      show Steps p.tables e below (T21.setTop (mkF m 120 #[.val (.int p0), .val (.int p1), .val (.int p2), .val (.int p3), .val (.int want), .val (.int (6 : Int32)), .val (.ref b3)] [(.ref b3)])) _
      exact k
    refine own_go k23 ?_
    clear k23
    obtain ⟨_, _, ⟨T22, L22, k22, n22⟩, -, X22, ⟨Lc22, hQ22, l22, y22, z22⟩, st22⟩ := Jvm.LawKit.callS X21 hx (y := (⟨"com/example/feeder/feeder/adapters/FrameFormat", "idcode", "([B)I"⟩ : MethodName)) hown (mvT hZ (hw _ (List.mem_of_getElem? (i := 2) rfl))) (mvT hZ (hw _ (List.mem_of_getElem? (i := 3) rfl))) (mvT hZ (hw _ (List.mem_of_getElem? (i := 4) rfl))) (mvT hZ (hw _ (List.mem_of_getElem? (i := 5) rfl))) (by decide) (backOf (W := 0) (own_rm_idcode l Z a0 hw [] b3 k3 (6 : Int32) [(.int (nar .byte ((p1.toUInt32 >>> ((24 : Int32) &&& 31).toUInt32).toInt32).toInt8.toInt32)), (.int (nar .byte ((p1.toUInt32 >>> ((16 : Int32) &&& 31).toUInt32).toInt32).toInt8.toInt32)), (.int (nar .byte ((p1.toUInt32 >>> ((8 : Int32) &&& 31).toUInt32).toInt32).toInt8.toInt32)), (.int (nar .byte p1.toInt8.toInt32)), (.int (nar .byte ((want.toUInt32 >>> ((8 : Int32) &&& 31).toUInt32).toInt32).toInt8.toInt32)), (.int (nar .byte want.toInt8.toInt32))] (nar .byte ((want.toUInt32 >>> ((8 : Int32) &&& 31).toUInt32).toInt32).toInt8.toInt32) (nar .byte want.toInt8.toInt32) h21 n0 Z21 f21_0 ⟨by decide, by decide⟩ rfl ⟨by decide, by decide⟩ rfl) hZ (hw _ (List.mem_of_getElem? (i := 5) rfl)) (hw _ (List.mem_of_getElem? (i := 4) rfl)) (by decide) (by decide)) (g := (mkF m 120 #[.val (.int p0), .val (.int p1), .val (.int p2), .val (.int p3), .val (.int want), .val (.int (6 : Int32)), .val (.ref b3)] [(.ref b3)])) rfl (by rw [hml]; rfl) (argsL := [(.ref b3)]) (rest := []) (lenOf own_pd_285bB29I rfl) rfl (by show 2 * 0 + _ ≤ _; exact Nat.le_of_eq rfl) (hb hby at_120) (fun _ _ => ⟨rfl, e21, (by decide : 1 + 0 ≤ _), (by decide : 6 + 0 ≤ _)⟩)
    dsimp only [Pt.U, Pt.locs, Pt.cells, Pt.slots] at X22 l22 y22 z22 st22 hQ22
    subst l22 y22 z22
    obtain ⟨rfl, N22q, eh22⟩ := hQ22
    have N22 := Fr.app N21 N22q
    refine own_go st22 ?_
    have k24 : ∀ t, Steps p.tables e below (T22.setTop (mkF m 133 #[.val (.int p0), .val (.int p1), .val (.int p2), .val (.int p3), .val (.int want), .val (.int (6 : Int32)), .val (.ref b3)] [(.int (1 : Int32))])) t → Steps p.tables e below (T22.setTop (mkF m 123 #[.val (.int p0), .val (.int p1), .val (.int p2), .val (.int p3), .val (.int want), .val (.int (6 : Int32)), .val (.ref b3)] [(.int ((((nar .byte ((want.toUInt32 >>> ((8 : Int32) &&& 31).toUInt32).toInt32).toInt8.toInt32) &&& (255 : Int32)) <<< ((8 : Int32) &&& 31)) ||| ((nar .byte want.toInt8.toInt32) &&& (255 : Int32))))])) t := fun t k => by
      refine XS.iload X22.here hx rfl (hb hby at_123) rfl ?_
      show Steps p.tables e below (T22.setTop (mkF m 125 #[.val (.int p0), .val (.int p1), .val (.int p2), .val (.int p3), .val (.int want), .val (.int (6 : Int32)), .val (.ref b3)] [(.int want), (.int ((((nar .byte ((want.toUInt32 >>> ((8 : Int32) &&& 31).toUInt32).toInt32).toInt8.toInt32) &&& (255 : Int32)) <<< ((8 : Int32) &&& 31)) ||| ((nar .byte want.toInt8.toInt32) &&& (255 : Int32))))])) _
      refine XS.icmpNo X22.here hx rfl (hb hby at_125) rfl (teq (own_id want rw0 _ _ rfl rfl)).2 ?_
      show Steps p.tables e below (T22.setTop (mkF m 128 #[.val (.int p0), .val (.int p1), .val (.int p2), .val (.int p3), .val (.int want), .val (.int (6 : Int32)), .val (.ref b3)] [])) _
      refine XS.iconst X22.here hx rfl (hb hby at_128) ?_
      show Steps p.tables e below (T22.setTop (mkF m 129 #[.val (.int p0), .val (.int p1), .val (.int p2), .val (.int p3), .val (.int want), .val (.int (6 : Int32)), .val (.ref b3)] [(.int (1 : Int32))])) _
      refine XS.goto X22.here hx rfl (pc0 := 129) (pc' := 133) rfl (hb hby at_129) (by decide) (by decide) ?_
      show Steps p.tables e below (T22.setTop (mkF m 133 #[.val (.int p0), .val (.int p1), .val (.int p2), .val (.int p3), .val (.int want), .val (.int (6 : Int32)), .val (.ref b3)] [(.int (1 : Int32))])) _
      exact k
    refine own_go k24 ?_
    clear k24
    obtain ⟨fs, hr, hrun, hended, hW, hsame⟩ := X22.leave (v := some (.int (nar .boolean (1 : Int32)))) (fun h => by rw [Bd.returns] at h; cases h)
    refine ⟨_, _, retN X22 hx (t := .boolean) Bd.returns (by simp) (hb hby at_133) hr, hPf _ _ ⟨hrun, hended, _, _, rfl, ?_, ⟨_, rfl⟩, hW, hsame.mono (by decide) (by decide)⟩⟩
    show own_Q_law Z p0 p1 p2 p3 h0 n0 _ T22.heap _
    rw [eh22]
    exact ⟨rfl, N22⟩
  · subst hl
    have k25 : ∀ t, Steps p.tables e below (s₁.setTop (mkF m 16 #[.val (.int p0), .val (.int p1), .val (.int p2), .val (.int p3), .val (.int want), .val (.int (7 : Int32)), .unset] [(.int (7 : Int32))])) t → Steps p.tables e below (s₁.setTop (mkF m 14 #[.val (.int p0), .val (.int p1), .val (.int p2), .val (.int p3), .val (.int want), .val (.int (7 : Int32)), .unset] [])) t := fun t k => by
      refine XS.iload X0.here hx rfl (hb hby at_14) rfl ?_
      show Steps p.tables e below (s₁.setTop (mkF m 16 #[.val (.int p0), .val (.int p1), .val (.int p2), .val (.int p3), .val (.int want), .val (.int (7 : Int32)), .unset] [(.int (7 : Int32))])) _
      exact k
    refine own_go k25 ?_
    clear k25
    obtain ⟨T26, h26, k26, X26, e26, E26, A26, st26⟩ := newP X0 hx hZ (hw _ (List.mem_of_getElem? (i := 1) rfl)) e0 (g := (mkF m 16 #[.val (.int p0), .val (.int p1), .val (.int p2), .val (.int p3), .val (.int want), .val (.int (7 : Int32)), .unset] [(.int (7 : Int32))])) rfl (hb hby at_16) rfl (by decide) (cap := 7) (by decide) (by decide) (by decide) (by decide)
    obtain ⟨b26, g26⟩ : ∃ z, z = h0.size := ⟨_, rfl⟩
    rw [← g26] at A26 st26
    refine own_go st26 ?_
    have g_b26 : n0 ≤ b26 := Nat.le_trans Z0 (Nat.le_of_eq g26.symm)
    have Z26 : n0 ≤ h26.size := Nat.le_trans Z0 E26.1
    have V26 : Arv Z h26 b26 k26 .byte (7 : Int32) [(.int (0 : Int32)), (.int (0 : Int32)), (.int (0 : Int32)), (.int (0 : Int32)), (.int (0 : Int32)), (.int (0 : Int32)), (.int (0 : Int32))] (.int (0 : Int32)) := (Arv.new A26 (by decide)).pad (pad_rep [] (.int (0 : Int32)) 7)
    have k27 : ∀ t, Steps p.tables e below (T26.setTop (mkF m 28 #[.val (.int p0), .val (.int p1), .val (.int p2), .val (.int p3), .val (.int want), .val (.int (7 : Int32)), .val (.ref b26)] [(.int ((p1.toUInt32 >>> ((24 : Int32) &&& 31).toUInt32).toInt32).toInt8.toInt32), (.int (0 : Int32)), (.ref b26)])) t → Steps p.tables e below (T26.setTop (mkF m 18 #[.val (.int p0), .val (.int p1), .val (.int p2), .val (.int p3), .val (.int want), .val (.int (7 : Int32)), .unset] [(.ref b26)])) t := fun t k => by
      refine XS.astore X26.here hx rfl (hb hby at_18) rfl rfl (l' := #[.val (.int p0), .val (.int p1), .val (.int p2), .val (.int p3), .val (.int want), .val (.int (7 : Int32)), .val (.ref b26)]) rfl ?_
      show Steps p.tables e below (T26.setTop (mkF m 20 #[.val (.int p0), .val (.int p1), .val (.int p2), .val (.int p3), .val (.int want), .val (.int (7 : Int32)), .val (.ref b26)] [])) _
      refine XS.aload X26.here hx rfl (hb hby at_20) rfl rfl ?_
      show Steps p.tables e below (T26.setTop (mkF m 22 #[.val (.int p0), .val (.int p1), .val (.int p2), .val (.int p3), .val (.int want), .val (.int (7 : Int32)), .val (.ref b26)] [(.ref b26)])) _
      refine XS.iconst X26.here hx rfl (hb hby at_22) ?_
      show Steps p.tables e below (T26.setTop (mkF m 23 #[.val (.int p0), .val (.int p1), .val (.int p2), .val (.int p3), .val (.int want), .val (.int (7 : Int32)), .val (.ref b26)] [(.int (0 : Int32)), (.ref b26)])) _
      refine XS.iloadN X26.here hx rfl (hb hby at_23) rfl ?_
      show Steps p.tables e below (T26.setTop (mkF m 24 #[.val (.int p0), .val (.int p1), .val (.int p2), .val (.int p3), .val (.int want), .val (.int (7 : Int32)), .val (.ref b26)] [(.int p1), (.int (0 : Int32)), (.ref b26)])) _
      refine XS.bipush X26.here hx rfl (hb hby at_24) ?_
      show Steps p.tables e below (T26.setTop (mkF m 26 #[.val (.int p0), .val (.int p1), .val (.int p2), .val (.int p3), .val (.int want), .val (.int (7 : Int32)), .val (.ref b26)] [(.int (24 : Int32)), (.int p1), (.int (0 : Int32)), (.ref b26)])) _
      refine XS.iushr X26.here hx rfl (hb hby at_26) rfl ?_
      show Steps p.tables e below (T26.setTop (mkF m 27 #[.val (.int p0), .val (.int p1), .val (.int p2), .val (.int p3), .val (.int want), .val (.int (7 : Int32)), .val (.ref b26)] [(.int ((p1.toUInt32 >>> ((24 : Int32) &&& 31).toUInt32).toInt32)), (.int (0 : Int32)), (.ref b26)])) _
      refine XS.i2b X26.here hx rfl (hb hby at_27) rfl ?_
      show Steps p.tables e below (T26.setTop (mkF m 28 #[.val (.int p0), .val (.int p1), .val (.int p2), .val (.int p3), .val (.int want), .val (.int (7 : Int32)), .val (.ref b26)] [(.int ((p1.toUInt32 >>> ((24 : Int32) &&& 31).toUInt32).toInt32).toInt8.toInt32), (.int (0 : Int32)), (.ref b26)])) _
      exact k
    refine own_go k27 ?_
    clear k27
    obtain ⟨cl28, Ar28, q28, S28, N28, H28, G28⟩ := id (V26)
    have hi28 : ¬ ((0 : Int32) < 0 ∨ cl28.slots.size ≤ ((0 : Int32)).toNatClampNeg) := inb_of S28 ⟨by decide, by decide⟩
    obtain ⟨T29, h29, X29, e29, W29, st29⟩ := stB X26 hx hZ e26 Ar28 (j := (0 : Int32)) hi28 (g := (mkF m 28 #[.val (.int p0), .val (.int p1), .val (.int p2), .val (.int p3), .val (.int want), .val (.int (7 : Int32)), .val (.ref b26)] [(.int ((p1.toUInt32 >>> ((24 : Int32) &&& 31).toUInt32).toInt32).toInt8.toInt32), (.int (0 : Int32)), (.ref b26)])) rfl rfl (hb hby at_28)
    refine own_go st29 ?_
    have V29 : Arv Z h29 b26 k26 .byte (7 : Int32) [(.int (nar .byte ((p1.toUInt32 >>> ((24 : Int32) &&& 31).toUInt32).toInt32).toInt8.toInt32)), (.int (0 : Int32)), (.int (0 : Int32)), (.int (0 : Int32)), (.int (0 : Int32)), (.int (0 : Int32)), (.int (0 : Int32))] (.int (0 : Int32)) := Arv.set Ar28 q28 S28 N28 H28 G28 (fits_nar_byte _) W29 0 rfl (Nat.le_of_ble_eq_true rfl)
    have f29_0 : Arv Z h29 b26 k26 .byte (7 : Int32) [(.int (nar .byte ((p1.toUInt32 >>> ((24 : Int32) &&& 31).toUInt32).toInt32).toInt8.toInt32)), (.int (0 : Int32)), (.int (0 : Int32)), (.int (0 : Int32)), (.int (0 : Int32)), (.int (0 : Int32)), (.int (0 : Int32))] (.int (0 : Int32)) := V29
    have N29 := Fr.snoc X29 N0 g_b26
    have Z29 : n0 ≤ h29.size := Nat.le_trans Z26 (Keep.of_wr W29).1
    have k30 : ∀ t, Steps p.tables e below (T29.setTop (mkF m 37 #[.val (.int p0), .val (.int p1), .val (.int p2), .val (.int p3), .val (.int want), .val (.int (7 : Int32)), .val (.ref b26)] [(.int ((p1.toUInt32 >>> ((16 : Int32) &&& 31).toUInt32).toInt32).toInt8.toInt32), (.int (1 : Int32)), (.ref b26)])) t → Steps p.tables e below (T29.setTop (mkF m 29 #[.val (.int p0), .val (.int p1), .val (.int p2), .val (.int p3), .val (.int want), .val (.int (7 : Int32)), .val (.ref b26)] [])) t := fun t k => by
      refine XS.aload X29.here hx rfl (hb hby at_29) rfl rfl ?_
      show Steps p.tables e below (T29.setTop (mkF m 31 #[.val (.int p0), .val (.int p1), .val (.int p2), .val (.int p3), .val (.int want), .val (.int (7 : Int32)), .val (.ref b26)] [(.ref b26)])) _
      refine XS.iconst X29.here hx rfl (hb hby at_31) ?_
      show Steps p.tables e below (T29.setTop (mkF m 32 #[.val (.int p0), .val (.int p1), .val (.int p2), .val (.int p3), .val (.int want), .val (.int (7 : Int32)), .val (.ref b26)] [(.int (1 : Int32)), (.ref b26)])) _
      refine XS.iloadN X29.here hx rfl (hb hby at_32) rfl ?_
      show Steps p.tables e below (T29.setTop (mkF m 33 #[.val (.int p0), .val (.int p1), .val (.int p2), .val (.int p3), .val (.int want), .val (.int (7 : Int32)), .val (.ref b26)] [(.int p1), (.int (1 : Int32)), (.ref b26)])) _
      refine XS.bipush X29.here hx rfl (hb hby at_33) ?_
      show Steps p.tables e below (T29.setTop (mkF m 35 #[.val (.int p0), .val (.int p1), .val (.int p2), .val (.int p3), .val (.int want), .val (.int (7 : Int32)), .val (.ref b26)] [(.int (16 : Int32)), (.int p1), (.int (1 : Int32)), (.ref b26)])) _
      refine XS.iushr X29.here hx rfl (hb hby at_35) rfl ?_
      show Steps p.tables e below (T29.setTop (mkF m 36 #[.val (.int p0), .val (.int p1), .val (.int p2), .val (.int p3), .val (.int want), .val (.int (7 : Int32)), .val (.ref b26)] [(.int ((p1.toUInt32 >>> ((16 : Int32) &&& 31).toUInt32).toInt32)), (.int (1 : Int32)), (.ref b26)])) _
      refine XS.i2b X29.here hx rfl (hb hby at_36) rfl ?_
      show Steps p.tables e below (T29.setTop (mkF m 37 #[.val (.int p0), .val (.int p1), .val (.int p2), .val (.int p3), .val (.int want), .val (.int (7 : Int32)), .val (.ref b26)] [(.int ((p1.toUInt32 >>> ((16 : Int32) &&& 31).toUInt32).toInt32).toInt8.toInt32), (.int (1 : Int32)), (.ref b26)])) _
      exact k
    refine own_go k30 ?_
    clear k30
    obtain ⟨cl31, Ar31, q31, S31, N31, H31, G31⟩ := id (f29_0)
    have hi31 : ¬ ((1 : Int32) < 0 ∨ cl31.slots.size ≤ ((1 : Int32)).toNatClampNeg) := inb_of S31 ⟨by decide, by decide⟩
    obtain ⟨T32, h32, X32, e32, W32, st32⟩ := stB X29 hx hZ e29 Ar31 (j := (1 : Int32)) hi31 (g := (mkF m 37 #[.val (.int p0), .val (.int p1), .val (.int p2), .val (.int p3), .val (.int want), .val (.int (7 : Int32)), .val (.ref b26)] [(.int ((p1.toUInt32 >>> ((16 : Int32) &&& 31).toUInt32).toInt32).toInt8.toInt32), (.int (1 : Int32)), (.ref b26)])) rfl rfl (hb hby at_37)
    refine own_go st32 ?_
    have V32 : Arv Z h32 b26 k26 .byte (7 : Int32) [(.int (nar .byte ((p1.toUInt32 >>> ((24 : Int32) &&& 31).toUInt32).toInt32).toInt8.toInt32)), (.int (nar .byte ((p1.toUInt32 >>> ((16 : Int32) &&& 31).toUInt32).toInt32).toInt8.toInt32)), (.int (0 : Int32)), (.int (0 : Int32)), (.int (0 : Int32)), (.int (0 : Int32)), (.int (0 : Int32))] (.int (0 : Int32)) := Arv.set Ar31 q31 S31 N31 H31 G31 (fits_nar_byte _) W32 1 rfl (Nat.le_of_ble_eq_true rfl)
    have f32_0 : Arv Z h32 b26 k26 .byte (7 : Int32) [(.int (nar .byte ((p1.toUInt32 >>> ((24 : Int32) &&& 31).toUInt32).toInt32).toInt8.toInt32)), (.int (nar .byte ((p1.toUInt32 >>> ((16 : Int32) &&& 31).toUInt32).toInt32).toInt8.toInt32)), (.int (0 : Int32)), (.int (0 : Int32)), (.int (0 : Int32)), (.int (0 : Int32)), (.int (0 : Int32))] (.int (0 : Int32)) := V32
    have N32 := Fr.snoc X32 N29 g_b26
    have Z32 : n0 ≤ h32.size := Nat.le_trans Z29 (Keep.of_wr W32).1
    have k33 : ∀ t, Steps p.tables e below (T32.setTop (mkF m 46 #[.val (.int p0), .val (.int p1), .val (.int p2), .val (.int p3), .val (.int want), .val (.int (7 : Int32)), .val (.ref b26)] [(.int ((p1.toUInt32 >>> ((8 : Int32) &&& 31).toUInt32).toInt32).toInt8.toInt32), (.int (2 : Int32)), (.ref b26)])) t → Steps p.tables e below (T32.setTop (mkF m 38 #[.val (.int p0), .val (.int p1), .val (.int p2), .val (.int p3), .val (.int want), .val (.int (7 : Int32)), .val (.ref b26)] [])) t := fun t k => by
      refine XS.aload X32.here hx rfl (hb hby at_38) rfl rfl ?_
      show Steps p.tables e below (T32.setTop (mkF m 40 #[.val (.int p0), .val (.int p1), .val (.int p2), .val (.int p3), .val (.int want), .val (.int (7 : Int32)), .val (.ref b26)] [(.ref b26)])) _
      refine XS.iconst X32.here hx rfl (hb hby at_40) ?_
      show Steps p.tables e below (T32.setTop (mkF m 41 #[.val (.int p0), .val (.int p1), .val (.int p2), .val (.int p3), .val (.int want), .val (.int (7 : Int32)), .val (.ref b26)] [(.int (2 : Int32)), (.ref b26)])) _
      refine XS.iloadN X32.here hx rfl (hb hby at_41) rfl ?_
      show Steps p.tables e below (T32.setTop (mkF m 42 #[.val (.int p0), .val (.int p1), .val (.int p2), .val (.int p3), .val (.int want), .val (.int (7 : Int32)), .val (.ref b26)] [(.int p1), (.int (2 : Int32)), (.ref b26)])) _
      refine XS.bipush X32.here hx rfl (hb hby at_42) ?_
      show Steps p.tables e below (T32.setTop (mkF m 44 #[.val (.int p0), .val (.int p1), .val (.int p2), .val (.int p3), .val (.int want), .val (.int (7 : Int32)), .val (.ref b26)] [(.int (8 : Int32)), (.int p1), (.int (2 : Int32)), (.ref b26)])) _
      refine XS.iushr X32.here hx rfl (hb hby at_44) rfl ?_
      show Steps p.tables e below (T32.setTop (mkF m 45 #[.val (.int p0), .val (.int p1), .val (.int p2), .val (.int p3), .val (.int want), .val (.int (7 : Int32)), .val (.ref b26)] [(.int ((p1.toUInt32 >>> ((8 : Int32) &&& 31).toUInt32).toInt32)), (.int (2 : Int32)), (.ref b26)])) _
      refine XS.i2b X32.here hx rfl (hb hby at_45) rfl ?_
      show Steps p.tables e below (T32.setTop (mkF m 46 #[.val (.int p0), .val (.int p1), .val (.int p2), .val (.int p3), .val (.int want), .val (.int (7 : Int32)), .val (.ref b26)] [(.int ((p1.toUInt32 >>> ((8 : Int32) &&& 31).toUInt32).toInt32).toInt8.toInt32), (.int (2 : Int32)), (.ref b26)])) _
      exact k
    refine own_go k33 ?_
    clear k33
    obtain ⟨cl34, Ar34, q34, S34, N34, H34, G34⟩ := id (f32_0)
    have hi34 : ¬ ((2 : Int32) < 0 ∨ cl34.slots.size ≤ ((2 : Int32)).toNatClampNeg) := inb_of S34 ⟨by decide, by decide⟩
    obtain ⟨T35, h35, X35, e35, W35, st35⟩ := stB X32 hx hZ e32 Ar34 (j := (2 : Int32)) hi34 (g := (mkF m 46 #[.val (.int p0), .val (.int p1), .val (.int p2), .val (.int p3), .val (.int want), .val (.int (7 : Int32)), .val (.ref b26)] [(.int ((p1.toUInt32 >>> ((8 : Int32) &&& 31).toUInt32).toInt32).toInt8.toInt32), (.int (2 : Int32)), (.ref b26)])) rfl rfl (hb hby at_46)
    refine own_go st35 ?_
    have V35 : Arv Z h35 b26 k26 .byte (7 : Int32) [(.int (nar .byte ((p1.toUInt32 >>> ((24 : Int32) &&& 31).toUInt32).toInt32).toInt8.toInt32)), (.int (nar .byte ((p1.toUInt32 >>> ((16 : Int32) &&& 31).toUInt32).toInt32).toInt8.toInt32)), (.int (nar .byte ((p1.toUInt32 >>> ((8 : Int32) &&& 31).toUInt32).toInt32).toInt8.toInt32)), (.int (0 : Int32)), (.int (0 : Int32)), (.int (0 : Int32)), (.int (0 : Int32))] (.int (0 : Int32)) := Arv.set Ar34 q34 S34 N34 H34 G34 (fits_nar_byte _) W35 2 rfl (Nat.le_of_ble_eq_true rfl)
    have f35_0 : Arv Z h35 b26 k26 .byte (7 : Int32) [(.int (nar .byte ((p1.toUInt32 >>> ((24 : Int32) &&& 31).toUInt32).toInt32).toInt8.toInt32)), (.int (nar .byte ((p1.toUInt32 >>> ((16 : Int32) &&& 31).toUInt32).toInt32).toInt8.toInt32)), (.int (nar .byte ((p1.toUInt32 >>> ((8 : Int32) &&& 31).toUInt32).toInt32).toInt8.toInt32)), (.int (0 : Int32)), (.int (0 : Int32)), (.int (0 : Int32)), (.int (0 : Int32))] (.int (0 : Int32)) := V35
    have N35 := Fr.snoc X35 N32 g_b26
    have Z35 : n0 ≤ h35.size := Nat.le_trans Z32 (Keep.of_wr W35).1
    have k36 : ∀ t, Steps p.tables e below (T35.setTop (mkF m 52 #[.val (.int p0), .val (.int p1), .val (.int p2), .val (.int p3), .val (.int want), .val (.int (7 : Int32)), .val (.ref b26)] [(.int p1.toInt8.toInt32), (.int (3 : Int32)), (.ref b26)])) t → Steps p.tables e below (T35.setTop (mkF m 47 #[.val (.int p0), .val (.int p1), .val (.int p2), .val (.int p3), .val (.int want), .val (.int (7 : Int32)), .val (.ref b26)] [])) t := fun t k => by
      refine XS.aload X35.here hx rfl (hb hby at_47) rfl rfl ?_
      show Steps p.tables e below (T35.setTop (mkF m 49 #[.val (.int p0), .val (.int p1), .val (.int p2), .val (.int p3), .val (.int want), .val (.int (7 : Int32)), .val (.ref b26)] [(.ref b26)])) _
      refine XS.iconst X35.here hx rfl (hb hby at_49) ?_
      show Steps p.tables e below (T35.setTop (mkF m 50 #[.val (.int p0), .val (.int p1), .val (.int p2), .val (.int p3), .val (.int want), .val (.int (7 : Int32)), .val (.ref b26)] [(.int (3 : Int32)), (.ref b26)])) _
      refine XS.iloadN X35.here hx rfl (hb hby at_50) rfl ?_
      show Steps p.tables e below (T35.setTop (mkF m 51 #[.val (.int p0), .val (.int p1), .val (.int p2), .val (.int p3), .val (.int want), .val (.int (7 : Int32)), .val (.ref b26)] [(.int p1), (.int (3 : Int32)), (.ref b26)])) _
      refine XS.i2b X35.here hx rfl (hb hby at_51) rfl ?_
      show Steps p.tables e below (T35.setTop (mkF m 52 #[.val (.int p0), .val (.int p1), .val (.int p2), .val (.int p3), .val (.int want), .val (.int (7 : Int32)), .val (.ref b26)] [(.int p1.toInt8.toInt32), (.int (3 : Int32)), (.ref b26)])) _
      exact k
    refine own_go k36 ?_
    clear k36
    obtain ⟨cl37, Ar37, q37, S37, N37, H37, G37⟩ := id (f35_0)
    have hi37 : ¬ ((3 : Int32) < 0 ∨ cl37.slots.size ≤ ((3 : Int32)).toNatClampNeg) := inb_of S37 ⟨by decide, by decide⟩
    obtain ⟨T38, h38, X38, e38, W38, st38⟩ := stB X35 hx hZ e35 Ar37 (j := (3 : Int32)) hi37 (g := (mkF m 52 #[.val (.int p0), .val (.int p1), .val (.int p2), .val (.int p3), .val (.int want), .val (.int (7 : Int32)), .val (.ref b26)] [(.int p1.toInt8.toInt32), (.int (3 : Int32)), (.ref b26)])) rfl rfl (hb hby at_52)
    refine own_go st38 ?_
    have V38 : Arv Z h38 b26 k26 .byte (7 : Int32) [(.int (nar .byte ((p1.toUInt32 >>> ((24 : Int32) &&& 31).toUInt32).toInt32).toInt8.toInt32)), (.int (nar .byte ((p1.toUInt32 >>> ((16 : Int32) &&& 31).toUInt32).toInt32).toInt8.toInt32)), (.int (nar .byte ((p1.toUInt32 >>> ((8 : Int32) &&& 31).toUInt32).toInt32).toInt8.toInt32)), (.int (nar .byte p1.toInt8.toInt32)), (.int (0 : Int32)), (.int (0 : Int32)), (.int (0 : Int32))] (.int (0 : Int32)) := Arv.set Ar37 q37 S37 N37 H37 G37 (fits_nar_byte _) W38 3 rfl (Nat.le_of_ble_eq_true rfl)
    have f38_0 : Arv Z h38 b26 k26 .byte (7 : Int32) [(.int (nar .byte ((p1.toUInt32 >>> ((24 : Int32) &&& 31).toUInt32).toInt32).toInt8.toInt32)), (.int (nar .byte ((p1.toUInt32 >>> ((16 : Int32) &&& 31).toUInt32).toInt32).toInt8.toInt32)), (.int (nar .byte ((p1.toUInt32 >>> ((8 : Int32) &&& 31).toUInt32).toInt32).toInt8.toInt32)), (.int (nar .byte p1.toInt8.toInt32)), (.int (0 : Int32)), (.int (0 : Int32)), (.int (0 : Int32))] (.int (0 : Int32)) := V38
    have N38 := Fr.snoc X38 N35 g_b26
    have Z38 : n0 ≤ h38.size := Nat.le_trans Z35 (Keep.of_wr W38).1
    have k39 : ∀ t, Steps p.tables e below (T38.setTop (mkF m 62 #[.val (.int p0), .val (.int p1), .val (.int p2), .val (.int p3), .val (.int want), .val (.int (7 : Int32)), .val (.ref b26)] [(.int ((want.toUInt32 >>> ((8 : Int32) &&& 31).toUInt32).toInt32).toInt8.toInt32), (.int (4 : Int32)), (.ref b26)])) t → Steps p.tables e below (T38.setTop (mkF m 53 #[.val (.int p0), .val (.int p1), .val (.int p2), .val (.int p3), .val (.int want), .val (.int (7 : Int32)), .val (.ref b26)] [])) t := fun t k => by
      refine XS.aload X38.here hx rfl (hb hby at_53) rfl rfl ?_
      show Steps p.tables e below (T38.setTop (mkF m 55 #[.val (.int p0), .val (.int p1), .val (.int p2), .val (.int p3), .val (.int want), .val (.int (7 : Int32)), .val (.ref b26)] [(.ref b26)])) _
      refine XS.iconst X38.here hx rfl (hb hby at_55) ?_
      show Steps p.tables e below (T38.setTop (mkF m 56 #[.val (.int p0), .val (.int p1), .val (.int p2), .val (.int p3), .val (.int want), .val (.int (7 : Int32)), .val (.ref b26)] [(.int (4 : Int32)), (.ref b26)])) _
      refine XS.iload X38.here hx rfl (hb hby at_56) rfl ?_
      show Steps p.tables e below (T38.setTop (mkF m 58 #[.val (.int p0), .val (.int p1), .val (.int p2), .val (.int p3), .val (.int want), .val (.int (7 : Int32)), .val (.ref b26)] [(.int want), (.int (4 : Int32)), (.ref b26)])) _
      refine XS.bipush X38.here hx rfl (hb hby at_58) ?_
      show Steps p.tables e below (T38.setTop (mkF m 60 #[.val (.int p0), .val (.int p1), .val (.int p2), .val (.int p3), .val (.int want), .val (.int (7 : Int32)), .val (.ref b26)] [(.int (8 : Int32)), (.int want), (.int (4 : Int32)), (.ref b26)])) _
      refine XS.iushr X38.here hx rfl (hb hby at_60) rfl ?_
      show Steps p.tables e below (T38.setTop (mkF m 61 #[.val (.int p0), .val (.int p1), .val (.int p2), .val (.int p3), .val (.int want), .val (.int (7 : Int32)), .val (.ref b26)] [(.int ((want.toUInt32 >>> ((8 : Int32) &&& 31).toUInt32).toInt32)), (.int (4 : Int32)), (.ref b26)])) _
      refine XS.i2b X38.here hx rfl (hb hby at_61) rfl ?_
      show Steps p.tables e below (T38.setTop (mkF m 62 #[.val (.int p0), .val (.int p1), .val (.int p2), .val (.int p3), .val (.int want), .val (.int (7 : Int32)), .val (.ref b26)] [(.int ((want.toUInt32 >>> ((8 : Int32) &&& 31).toUInt32).toInt32).toInt8.toInt32), (.int (4 : Int32)), (.ref b26)])) _
      exact k
    refine own_go k39 ?_
    clear k39
    obtain ⟨cl40, Ar40, q40, S40, N40, H40, G40⟩ := id (f38_0)
    have hi40 : ¬ ((4 : Int32) < 0 ∨ cl40.slots.size ≤ ((4 : Int32)).toNatClampNeg) := inb_of S40 ⟨by decide, by decide⟩
    obtain ⟨T41, h41, X41, e41, W41, st41⟩ := stB X38 hx hZ e38 Ar40 (j := (4 : Int32)) hi40 (g := (mkF m 62 #[.val (.int p0), .val (.int p1), .val (.int p2), .val (.int p3), .val (.int want), .val (.int (7 : Int32)), .val (.ref b26)] [(.int ((want.toUInt32 >>> ((8 : Int32) &&& 31).toUInt32).toInt32).toInt8.toInt32), (.int (4 : Int32)), (.ref b26)])) rfl rfl (hb hby at_62)
    refine own_go st41 ?_
    have V41 : Arv Z h41 b26 k26 .byte (7 : Int32) [(.int (nar .byte ((p1.toUInt32 >>> ((24 : Int32) &&& 31).toUInt32).toInt32).toInt8.toInt32)), (.int (nar .byte ((p1.toUInt32 >>> ((16 : Int32) &&& 31).toUInt32).toInt32).toInt8.toInt32)), (.int (nar .byte ((p1.toUInt32 >>> ((8 : Int32) &&& 31).toUInt32).toInt32).toInt8.toInt32)), (.int (nar .byte p1.toInt8.toInt32)), (.int (nar .byte ((want.toUInt32 >>> ((8 : Int32) &&& 31).toUInt32).toInt32).toInt8.toInt32)), (.int (0 : Int32)), (.int (0 : Int32))] (.int (0 : Int32)) := Arv.set Ar40 q40 S40 N40 H40 G40 (fits_nar_byte _) W41 4 rfl (Nat.le_of_ble_eq_true rfl)
    have f41_0 : Arv Z h41 b26 k26 .byte (7 : Int32) [(.int (nar .byte ((p1.toUInt32 >>> ((24 : Int32) &&& 31).toUInt32).toInt32).toInt8.toInt32)), (.int (nar .byte ((p1.toUInt32 >>> ((16 : Int32) &&& 31).toUInt32).toInt32).toInt8.toInt32)), (.int (nar .byte ((p1.toUInt32 >>> ((8 : Int32) &&& 31).toUInt32).toInt32).toInt8.toInt32)), (.int (nar .byte p1.toInt8.toInt32)), (.int (nar .byte ((want.toUInt32 >>> ((8 : Int32) &&& 31).toUInt32).toInt32).toInt8.toInt32)), (.int (0 : Int32)), (.int (0 : Int32))] (.int (0 : Int32)) := V41
    have N41 := Fr.snoc X41 N38 g_b26
    have Z41 : n0 ≤ h41.size := Nat.le_trans Z38 (Keep.of_wr W41).1
    have k42 : ∀ t, Steps p.tables e below (T41.setTop (mkF m 69 #[.val (.int p0), .val (.int p1), .val (.int p2), .val (.int p3), .val (.int want), .val (.int (7 : Int32)), .val (.ref b26)] [(.int want.toInt8.toInt32), (.int (5 : Int32)), (.ref b26)])) t → Steps p.tables e below (T41.setTop (mkF m 63 #[.val (.int p0), .val (.int p1), .val (.int p2), .val (.int p3), .val (.int want), .val (.int (7 : Int32)), .val (.ref b26)] [])) t := fun t k => by
      refine XS.aload X41.here hx rfl (hb hby at_63) rfl rfl ?_
      show Steps p.tables e below (T41.setTop (mkF m 65 #[.val (.int p0), .val (.int p1), .val (.int p2), .val (.int p3), .val (.int want), .val (.int (7 : Int32)), .val (.ref b26)] [(.ref b26)])) _
      refine XS.iconst X41.here hx rfl (hb hby at_65) ?_
      show Steps p.tables e below (T41.setTop (mkF m 66 #[.val (.int p0), .val (.int p1), .val (.int p2), .val (.int p3), .val (.int want), .val (.int (7 : Int32)), .val (.ref b26)] [(.int (5 : Int32)), (.ref b26)])) _
      refine XS.iload X41.here hx rfl (hb hby at_66) rfl ?_
      show Steps p.tables e below (T41.setTop (mkF m 68 #[.val (.int p0), .val (.int p1), .val (.int p2), .val (.int p3), .val (.int want), .val (.int (7 : Int32)), .val (.ref b26)] [(.int want), (.int (5 : Int32)), (.ref b26)])) _
      refine XS.i2b X41.here hx rfl (hb hby at_68) rfl ?_
      show Steps p.tables e below (T41.setTop (mkF m 69 #[.val (.int p0), .val (.int p1), .val (.int p2), .val (.int p3), .val (.int want), .val (.int (7 : Int32)), .val (.ref b26)] [(.int want.toInt8.toInt32), (.int (5 : Int32)), (.ref b26)])) _
      exact k
    refine own_go k42 ?_
    clear k42
    obtain ⟨cl43, Ar43, q43, S43, N43, H43, G43⟩ := id (f41_0)
    have hi43 : ¬ ((5 : Int32) < 0 ∨ cl43.slots.size ≤ ((5 : Int32)).toNatClampNeg) := inb_of S43 ⟨by decide, by decide⟩
    obtain ⟨T44, h44, X44, e44, W44, st44⟩ := stB X41 hx hZ e41 Ar43 (j := (5 : Int32)) hi43 (g := (mkF m 69 #[.val (.int p0), .val (.int p1), .val (.int p2), .val (.int p3), .val (.int want), .val (.int (7 : Int32)), .val (.ref b26)] [(.int want.toInt8.toInt32), (.int (5 : Int32)), (.ref b26)])) rfl rfl (hb hby at_69)
    refine own_go st44 ?_
    have V44 : Arv Z h44 b26 k26 .byte (7 : Int32) [(.int (nar .byte ((p1.toUInt32 >>> ((24 : Int32) &&& 31).toUInt32).toInt32).toInt8.toInt32)), (.int (nar .byte ((p1.toUInt32 >>> ((16 : Int32) &&& 31).toUInt32).toInt32).toInt8.toInt32)), (.int (nar .byte ((p1.toUInt32 >>> ((8 : Int32) &&& 31).toUInt32).toInt32).toInt8.toInt32)), (.int (nar .byte p1.toInt8.toInt32)), (.int (nar .byte ((want.toUInt32 >>> ((8 : Int32) &&& 31).toUInt32).toInt32).toInt8.toInt32)), (.int (nar .byte want.toInt8.toInt32)), (.int (0 : Int32))] (.int (0 : Int32)) := Arv.set Ar43 q43 S43 N43 H43 G43 (fits_nar_byte _) W44 5 rfl (Nat.le_of_ble_eq_true rfl)
    have f44_0 : Arv Z h44 b26 k26 .byte (7 : Int32) [(.int (nar .byte ((p1.toUInt32 >>> ((24 : Int32) &&& 31).toUInt32).toInt32).toInt8.toInt32)), (.int (nar .byte ((p1.toUInt32 >>> ((16 : Int32) &&& 31).toUInt32).toInt32).toInt8.toInt32)), (.int (nar .byte ((p1.toUInt32 >>> ((8 : Int32) &&& 31).toUInt32).toInt32).toInt8.toInt32)), (.int (nar .byte p1.toInt8.toInt32)), (.int (nar .byte ((want.toUInt32 >>> ((8 : Int32) &&& 31).toUInt32).toInt32).toInt8.toInt32)), (.int (nar .byte want.toInt8.toInt32)), (.int (0 : Int32))] (.int (0 : Int32)) := V44
    have N44 := Fr.snoc X44 N41 g_b26
    have Z44 : n0 ≤ h44.size := Nat.le_trans Z41 (Keep.of_wr W44).1
    have k45 : ∀ t, Steps p.tables e below (T44.setTop (mkF m 83 #[.val (.int p0), .val (.int p1), .val (.int p2), .val (.int p3), .val (.int want), .val (.int (7 : Int32)), .val (.ref b26)] [(.int p2.toInt8.toInt32), (.int (6 : Int32)), (.ref b26)])) t → Steps p.tables e below (T44.setTop (mkF m 70 #[.val (.int p0), .val (.int p1), .val (.int p2), .val (.int p3), .val (.int want), .val (.int (7 : Int32)), .val (.ref b26)] [])) t := fun t k => by
      refine XS.iload X44.here hx rfl (hb hby at_70) rfl ?_
      show Steps p.tables e below (T44.setTop (mkF m 72 #[.val (.int p0), .val (.int p1), .val (.int p2), .val (.int p3), .val (.int want), .val (.int (7 : Int32)), .val (.ref b26)] [(.int (7 : Int32))])) _
      refine XS.bipush X44.here hx rfl (hb hby at_72) ?_
      show Steps p.tables e below (T44.setTop (mkF m 74 #[.val (.int p0), .val (.int p1), .val (.int p2), .val (.int p3), .val (.int want), .val (.int (7 : Int32)), .val (.ref b26)] [(.int (6 : Int32)), (.int (7 : Int32))])) _
      refine XS.icmpNo X44.here hx rfl (hb hby at_74) rfl (tlt (by decide : (6 : Int32) < (7 : Int32))).2.2.2 ?_
      show Steps p.tables e below (T44.setTop (mkF m 77 #[.val (.int p0), .val (.int p1), .val (.int p2), .val (.int p3), .val (.int want), .val (.int (7 : Int32)), .val (.ref b26)] [])) _
      refine XS.aload X44.here hx rfl (hb hby at_77) rfl rfl ?_
      show Steps p.tables e below (T44.setTop (mkF m 79 #[.val (.int p0), .val (.int p1), .val (.int p2), .val (.int p3), .val (.int want), .val (.int (7 : Int32)), .val (.ref b26)] [(.ref b26)])) _
      refine XS.bipush X44.here hx rfl (hb hby at_79) ?_
      show Steps p.tables e below (T44.setTop (mkF m 81 #[.val (.int p0), .val (.int p1), .val (.int p2), .val (.int p3), .val (.int want), .val (.int (7 : Int32)), .val (.ref b26)] [(.int (6 : Int32)), (.ref b26)])) _
      refine XS.iloadN X44.here hx rfl (hb hby at_81) rfl ?_
      show Steps p.tables e below (T44.setTop (mkF m 82 #[.val (.int p0), .val (.int p1), .val (.int p2), .val (.int p3), .val (.int want), .val (.int (7 : Int32)), .val (.ref b26)] [(.int p2), (.int (6 : Int32)), (.ref b26)])) _
      refine XS.i2b X44.here hx rfl (hb hby at_82) rfl ?_
      show Steps p.tables e below (T44.setTop (mkF m 83 #[.val (.int p0), .val (.int p1), .val (.int p2), .val (.int p3), .val (.int want), .val (.int (7 : Int32)), .val (.ref b26)] [(.int p2.toInt8.toInt32), (.int (6 : Int32)), (.ref b26)])) _
      exact k
    refine own_go k45 ?_
    clear k45
    obtain ⟨cl46, Ar46, q46, S46, N46, H46, G46⟩ := id (f44_0)
    have hi46 : ¬ ((6 : Int32) < 0 ∨ cl46.slots.size ≤ ((6 : Int32)).toNatClampNeg) := inb_of S46 ⟨by decide, by decide⟩
    obtain ⟨T47, h47, X47, e47, W47, st47⟩ := stB X44 hx hZ e44 Ar46 (j := (6 : Int32)) hi46 (g := (mkF m 83 #[.val (.int p0), .val (.int p1), .val (.int p2), .val (.int p3), .val (.int want), .val (.int (7 : Int32)), .val (.ref b26)] [(.int p2.toInt8.toInt32), (.int (6 : Int32)), (.ref b26)])) rfl rfl (hb hby at_83)
    refine own_go st47 ?_
    have V47 : Arv Z h47 b26 k26 .byte (7 : Int32) [(.int (nar .byte ((p1.toUInt32 >>> ((24 : Int32) &&& 31).toUInt32).toInt32).toInt8.toInt32)), (.int (nar .byte ((p1.toUInt32 >>> ((16 : Int32) &&& 31).toUInt32).toInt32).toInt8.toInt32)), (.int (nar .byte ((p1.toUInt32 >>> ((8 : Int32) &&& 31).toUInt32).toInt32).toInt8.toInt32)), (.int (nar .byte p1.toInt8.toInt32)), (.int (nar .byte ((want.toUInt32 >>> ((8 : Int32) &&& 31).toUInt32).toInt32).toInt8.toInt32)), (.int (nar .byte want.toInt8.toInt32)), (.int (nar .byte p2.toInt8.toInt32))] (.int (0 : Int32)) := Arv.set Ar46 q46 S46 N46 H46 G46 (fits_nar_byte _) W47 6 rfl (Nat.le_of_ble_eq_true rfl)
    have f47_0 : Arv Z h47 b26 k26 .byte (7 : Int32) [(.int (nar .byte ((p1.toUInt32 >>> ((24 : Int32) &&& 31).toUInt32).toInt32).toInt8.toInt32)), (.int (nar .byte ((p1.toUInt32 >>> ((16 : Int32) &&& 31).toUInt32).toInt32).toInt8.toInt32)), (.int (nar .byte ((p1.toUInt32 >>> ((8 : Int32) &&& 31).toUInt32).toInt32).toInt8.toInt32)), (.int (nar .byte p1.toInt8.toInt32)), (.int (nar .byte ((want.toUInt32 >>> ((8 : Int32) &&& 31).toUInt32).toInt32).toInt8.toInt32)), (.int (nar .byte want.toInt8.toInt32)), (.int (nar .byte p2.toInt8.toInt32))] (.int (0 : Int32)) := V47
    have N47 := Fr.snoc X47 N44 g_b26
    have Z47 : n0 ≤ h47.size := Nat.le_trans Z44 (Keep.of_wr W47).1
    have k49 : ∀ t, Steps p.tables e below (T47.setTop (mkF m 120 #[.val (.int p0), .val (.int p1), .val (.int p2), .val (.int p3), .val (.int want), .val (.int (7 : Int32)), .val (.ref b26)] [(.ref b26)])) t → Steps p.tables e below (T47.setTop (mkF m 84 #[.val (.int p0), .val (.int p1), .val (.int p2), .val (.int p3), .val (.int want), .val (.int (7 : Int32)), .val (.ref b26)] [])) t := fun t k => by
      refine XS.iload X47.here hx rfl (hb hby at_84) rfl ?_
      show Steps p.tables e below (T47.setTop (mkF m 86 #[.val (.int p0), .val (.int p1), .val (.int p2), .val (.int p3), .val (.int want), .val (.int (7 : Int32)), .val (.ref b26)] [(.int (7 : Int32))])) _
      refine XS.bipush X47.here hx rfl (hb hby at_86) ?_
      show Steps p.tables e below (T47.setTop (mkF m 88 #[.val (.int p0), .val (.int p1), .val (.int p2), .val (.int p3), .val (.int want), .val (.int (7 : Int32)), .val (.ref b26)] [(.int (7 : Int32)), (.int (7 : Int32))])) _
      refine XS.icmpYes X47.here hx rfl (pc0 := 88) (pc' := 101) rfl (hb hby at_88) rfl (flt (by decide : ¬ ((7 : Int32) < (7 : Int32)))).2.2.2 (by decide) (by decide) ?_
      show Steps p.tables e below (T47.setTop (mkF m 101 #[.val (.int p0), .val (.int p1), .val (.int p2), .val (.int p3), .val (.int want), .val (.int (7 : Int32)), .val (.ref b26)] [])) _
      refine XS.iload X47.here hx rfl (hb hby at_101) rfl ?_
      show Steps p.tables e below (T47.setTop (mkF m 103 #[.val (.int p0), .val (.int p1), .val (.int p2), .val (.int p3), .val (.int want), .val (.int (7 : Int32)), .val (.ref b26)] [(.int (7 : Int32))])) _
      refine XS.bipush X47.here hx rfl (hb hby at_103) ?_
      show Steps p.tables e below (T47.setTop (mkF m 105 #[.val (.int p0), .val (.int p1), .val (.int p2), .val (.int p3), .val (.int want), .val (.int (7 : Int32)), .val (.ref b26)] [(.int (8 : Int32)), (.int (7 : Int32))])) _
      refine XS.icmpYes X47.here hx rfl (pc0 := 105) (pc' := 118) rfl (hb hby at_105) rfl (flt (by decide : ¬ ((8 : Int32) < (7 : Int32)))).2.2.2 (by decide) (by decide) ?_
      show Steps p.tables e below (T47.setTop (mkF m 118 #[.val (.int p0), .val (.int p1), .val (.int p2), .val (.int p3), .val (.int want), .val (.int (7 : Int32)), .val (.ref b26)] [])) _
      refine XS.aload X47.here hx rfl (hb hby at_118) rfl rfl ?_
      show Steps p.tables e below (T47.setTop (mkF m 120 #[.val (.int p0), .val (.int p1), .val (.int p2), .val (.int p3), .val (.int want), .val (.int (7 : Int32)), .val (.ref b26)] [(.ref b26)])) _
      exact k
    refine own_go k49 ?_
    clear k49
    obtain ⟨_, _, ⟨T48, L48, k48, n48⟩, -, X48, ⟨Lc48, hQ48, l48, y48, z48⟩, st48⟩ := Jvm.LawKit.callS X47 hx (y := (⟨"com/example/feeder/feeder/adapters/FrameFormat", "idcode", "([B)I"⟩ : MethodName)) hown (mvT hZ (hw _ (List.mem_of_getElem? (i := 2) rfl))) (mvT hZ (hw _ (List.mem_of_getElem? (i := 3) rfl))) (mvT hZ (hw _ (List.mem_of_getElem? (i := 4) rfl))) (mvT hZ (hw _ (List.mem_of_getElem? (i := 5) rfl))) (by decide) (backOf (W := 0) (own_rm_idcode l Z a0 hw [] b26 k26 (7 : Int32) [(.int (nar .byte ((p1.toUInt32 >>> ((24 : Int32) &&& 31).toUInt32).toInt32).toInt8.toInt32)), (.int (nar .byte ((p1.toUInt32 >>> ((16 : Int32) &&& 31).toUInt32).toInt32).toInt8.toInt32)), (.int (nar .byte ((p1.toUInt32 >>> ((8 : Int32) &&& 31).toUInt32).toInt32).toInt8.toInt32)), (.int (nar .byte p1.toInt8.toInt32)), (.int (nar .byte ((want.toUInt32 >>> ((8 : Int32) &&& 31).toUInt32).toInt32).toInt8.toInt32)), (.int (nar .byte want.toInt8.toInt32)), (.int (nar .byte p2.toInt8.toInt32))] (nar .byte ((want.toUInt32 >>> ((8 : Int32) &&& 31).toUInt32).toInt32).toInt8.toInt32) (nar .byte want.toInt8.toInt32) h47 n0 Z47 f47_0 ⟨by decide, by decide⟩ rfl ⟨by decide, by decide⟩ rfl) hZ (hw _ (List.mem_of_getElem? (i := 5) rfl)) (hw _ (List.mem_of_getElem? (i := 4) rfl)) (by decide) (by decide)) (g := (mkF m 120 #[.val (.int p0), .val (.int p1), .val (.int p2), .val (.int p3), .val (.int want), .val (.int (7 : Int32)), .val (.ref b26)] [(.ref b26)])) rfl (by rw [hml]; rfl) (argsL := [(.ref b26)]) (rest := []) (lenOf own_pd_285bB29I rfl) rfl (by show 2 * 0 + _ ≤ _; exact Nat.le_of_eq rfl) (hb hby at_120) (fun _ _ => ⟨rfl, e47, (by decide : 1 + 0 ≤ _), (by decide : 7 + 0 ≤ _)⟩)
    dsimp only [Pt.U, Pt.locs, Pt.cells, Pt.slots] at X48 l48 y48 z48 st48 hQ48
    subst l48 y48 z48
    obtain ⟨rfl, N48q, eh48⟩ := hQ48
    have N48 := Fr.app N47 N48q
    refine own_go st48 ?_
    have k50 : ∀ t, Steps p.tables e below (T48.setTop (mkF m 133 #[.val (.int p0), .val (.int p1), .val (.int p2), .val (.int p3), .val (.int want), .val (.int (7 : Int32)), .val (.ref b26)] [(.int (1 : Int32))])) t → Steps p.tables e below (T48.setTop (mkF m 123 #[.val (.int p0), .val (.int p1), .val (.int p2), .val (.int p3), .val (.int want), .val (.int (7 : Int32)), .val (.ref b26)] [(.int ((((nar .byte ((want.toUInt32 >>> ((8 : Int32) &&& 31).toUInt32).toInt32).toInt8.toInt32) &&& (255 : Int32)) <<< ((8 : Int32) &&& 31)) ||| ((nar .byte want.toInt8.toInt32) &&& (255 : Int32))))])) t := fun t k => by
      refine XS.iload X48.here hx rfl (hb hby at_123) rfl ?_
      show Steps p.tables e below (T48.setTop (mkF m 125 #[.val (.int p0), .val (.int p1), .val (.int p2), .val (.int p3), .val (.int want), .val (.int (7 : Int32)), .val (.ref b26)] [(.int want), (.int ((((nar .byte ((want.toUInt32 >>> ((8 : Int32) &&& 31).toUInt32).toInt32).toInt8.toInt32) &&& (255 : Int32)) <<< ((8 : Int32) &&& 31)) ||| ((nar .byte want.toInt8.toInt32) &&& (255 : Int32))))])) _
      refine XS.icmpNo X48.here hx rfl (hb hby at_125) rfl (teq (own_id want rw0 _ _ rfl rfl)).2 ?_
      show Steps p.tables e below (T48.setTop (mkF m 128 #[.val (.int p0), .val (.int p1), .val (.int p2), .val (.int p3), .val (.int want), .val (.int (7 : Int32)), .val (.ref b26)] [])) _
      refine XS.iconst X48.here hx rfl (hb hby at_128) ?_
      show Steps p.tables e below (T48.setTop (mkF m 129 #[.val (.int p0), .val (.int p1), .val (.int p2), .val (.int p3), .val (.int want), .val (.int (7 : Int32)), .val (.ref b26)] [(.int (1 : Int32))])) _
      refine XS.goto X48.here hx rfl (pc0 := 129) (pc' := 133) rfl (hb hby at_129) (by decide) (by decide) ?_
      show Steps p.tables e below (T48.setTop (mkF m 133 #[.val (.int p0), .val (.int p1), .val (.int p2), .val (.int p3), .val (.int want), .val (.int (7 : Int32)), .val (.ref b26)] [(.int (1 : Int32))])) _
      exact k
    refine own_go k50 ?_
    clear k50
    obtain ⟨fs, hr, hrun, hended, hW, hsame⟩ := X48.leave (v := some (.int (nar .boolean (1 : Int32)))) (fun h => by rw [Bd.returns] at h; cases h)
    refine ⟨_, _, retN X48 hx (t := .boolean) Bd.returns (by simp) (hb hby at_133) hr, hPf _ _ ⟨hrun, hended, _, _, rfl, ?_, ⟨_, rfl⟩, hW, hsame.mono (by decide) (by decide)⟩⟩
    show own_Q_law Z p0 p1 p2 p3 h0 n0 _ T48.heap _
    rw [eh48]
    exact ⟨rfl, N48⟩
  · subst hl
    have k51 : ∀ t, Steps p.tables e below (s₁.setTop (mkF m 16 #[.val (.int p0), .val (.int p1), .val (.int p2), .val (.int p3), .val (.int want), .val (.int (8 : Int32)), .unset] [(.int (8 : Int32))])) t → Steps p.tables e below (s₁.setTop (mkF m 14 #[.val (.int p0), .val (.int p1), .val (.int p2), .val (.int p3), .val (.int want), .val (.int (8 : Int32)), .unset] [])) t := fun t k => by
      refine XS.iload X0.here hx rfl (hb hby at_14) rfl ?_
      show Steps p.tables e below (s₁.setTop (mkF m 16 #[.val (.int p0), .val (.int p1), .val (.int p2), .val (.int p3), .val (.int want), .val (.int (8 : Int32)), .unset] [(.int (8 : Int32))])) _
      exact k
    refine own_go k51 ?_
    clear k51
    obtain ⟨T52, h52, k52, X52, e52, E52, A52, st52⟩ := newP X0 hx hZ (hw _ (List.mem_of_getElem? (i := 1) rfl)) e0 (g := (mkF m 16 #[.val (.int p0), .val (.int p1), .val (.int p2), .val (.int p3), .val (.int want), .val (.int (8 : Int32)), .unset] [(.int (8 : Int32))])) rfl (hb hby at_16) rfl (by decide) (cap := 8) (by decide) (by decide) (by decide) (by decide)
    obtain ⟨b52, g52⟩ : ∃ z, z = h0.size := ⟨_, rfl⟩
    rw [← g52] at A52 st52
    refine own_go st52 ?_
    have g_b52 : n0 ≤ b52 := Nat.le_trans Z0 (Nat.le_of_eq g52.symm)
    have Z52 : n0 ≤ h52.size := Nat.le_trans Z0 E52.1
    have V52 : Arv Z h52 b52 k52 .byte (8 : Int32) [(.int (0 : Int32)), (.int (0 : Int32)), (.int (0 : Int32)), (.int (0 : Int32)), (.int (0 : Int32)), (.int (0 : Int32)), (.int (0 : Int32)), (.int (0 : Int32))] (.int (0 : Int32)) := (Arv.new A52 (by decide)).pad (pad_rep [] (.int (0 : Int32)) 8)
    have k53 : ∀ t, Steps p.tables e below (T52.setTop (mkF m 28 #[.val (.int p0), .val (.int p1), .val (.int p2), .val (.int p3), .val (.int want), .val (.int (8 : Int32)), .val (.ref b52)] [(.int ((p1.toUInt32 >>> ((24 : Int32) &&& 31).toUInt32).toInt32).toInt8.toInt32), (.int (0 : Int32)), (.ref b52)])) t → Steps p.tables e below (T52.setTop (mkF m 18 #[.val (.int p0), .val (.int p1), .val (.int p2), .val (.int p3), .val (.int want), .val (.int (8 : Int32)), .unset] [(.ref b52)])) t := fun t k => by
      refine XS.astore X52.here hx rfl (hb hby at_18) rfl rfl (l' := #[.val (.int p0), .val (.int p1), .val (.int p2), .val (.int p3), .val (.int want), .val (.int (8 : Int32)), .val (.ref b52)]) rfl ?_
      show Steps p.tables e below (T52.setTop (mkF m 20 #[.val (.int p0), .val (.int p1), .val (.int p2), .val (.int p3), .val (.int want), .val (.int (8 : Int32)), .val (.ref b52)] [])) _
      refine XS.aload X52.here hx rfl (hb hby at_20) rfl rfl ?_
      show Steps p.tables e below (T52.setTop (mkF m 22 #[.val (.int p0), .val (.int p1), .val (.int p2), .val (.int p3), .val (.int want), .val (.int (8 : Int32)), .val (.ref b52)] [(.ref b52)])) _
      refine XS.iconst X52.here hx rfl (hb hby at_22) ?_
      show Steps p.tables e below (T52.setTop (mkF m 23 #[.val (.int p0), .val (.int p1), .val (.int p2), .val (.int p3), .val (.int want), .val (.int (8 : Int32)), .val (.ref b52)] [(.int (0 : Int32)), (.ref b52)])) _
      refine XS.iloadN X52.here hx rfl (hb hby at_23) rfl ?_
      show Steps p.tables e below (T52.setTop (mkF m 24 #[.val (.int p0), .val (.int p1), .val (.int p2), .val (.int p3), .val (.int want), .val (.int (8 : Int32)), .val (.ref b52)] [(.int p1), (.int (0 : Int32)), (.ref b52)])) _
      refine XS.bipush X52.here hx rfl (hb hby at_24) ?_
      show Steps p.tables e below (T52.setTop (mkF m 26 #[.val (.int p0), .val (.int p1), .val (.int p2), .val (.int p3), .val (.int want), .val (.int (8 : Int32)), .val (.ref b52)] [(.int (24 : Int32)), (.int p1), (.int (0 : Int32)), (.ref b52)])) _
      refine XS.iushr X52.here hx rfl (hb hby at_26) rfl ?_
      show Steps p.tables e below (T52.setTop (mkF m 27 #[.val (.int p0), .val (.int p1), .val (.int p2), .val (.int p3), .val (.int want), .val (.int (8 : Int32)), .val (.ref b52)] [(.int ((p1.toUInt32 >>> ((24 : Int32) &&& 31).toUInt32).toInt32)), (.int (0 : Int32)), (.ref b52)])) _
      refine XS.i2b X52.here hx rfl (hb hby at_27) rfl ?_
      show Steps p.tables e below (T52.setTop (mkF m 28 #[.val (.int p0), .val (.int p1), .val (.int p2), .val (.int p3), .val (.int want), .val (.int (8 : Int32)), .val (.ref b52)] [(.int ((p1.toUInt32 >>> ((24 : Int32) &&& 31).toUInt32).toInt32).toInt8.toInt32), (.int (0 : Int32)), (.ref b52)])) _
      exact k
    refine own_go k53 ?_
    clear k53
    obtain ⟨cl54, Ar54, q54, S54, N54, H54, G54⟩ := id (V52)
    have hi54 : ¬ ((0 : Int32) < 0 ∨ cl54.slots.size ≤ ((0 : Int32)).toNatClampNeg) := inb_of S54 ⟨by decide, by decide⟩
    obtain ⟨T55, h55, X55, e55, W55, st55⟩ := stB X52 hx hZ e52 Ar54 (j := (0 : Int32)) hi54 (g := (mkF m 28 #[.val (.int p0), .val (.int p1), .val (.int p2), .val (.int p3), .val (.int want), .val (.int (8 : Int32)), .val (.ref b52)] [(.int ((p1.toUInt32 >>> ((24 : Int32) &&& 31).toUInt32).toInt32).toInt8.toInt32), (.int (0 : Int32)), (.ref b52)])) rfl rfl (hb hby at_28)
    refine own_go st55 ?_
    have V55 : Arv Z h55 b52 k52 .byte (8 : Int32) [(.int (nar .byte ((p1.toUInt32 >>> ((24 : Int32) &&& 31).toUInt32).toInt32).toInt8.toInt32)), (.int (0 : Int32)), (.int (0 : Int32)), (.int (0 : Int32)), (.int (0 : Int32)), (.int (0 : Int32)), (.int (0 : Int32)), (.int (0 : Int32))] (.int (0 : Int32)) := Arv.set Ar54 q54 S54 N54 H54 G54 (fits_nar_byte _) W55 0 rfl (Nat.le_of_ble_eq_true rfl)
    have f55_0 : Arv Z h55 b52 k52 .byte (8 : Int32) [(.int (nar .byte ((p1.toUInt32 >>> ((24 : Int32) &&& 31).toUInt32).toInt32).toInt8.toInt32)), (.int (0 : Int32)), (.int (0 : Int32)), (.int (0 : Int32)), (.int (0 : Int32)), (.int (0 : Int32)), (.int (0 : Int32)), (.int (0 : Int32))] (.int (0 : Int32)) := V55
    have N55 := Fr.snoc X55 N0 g_b52
    have Z55 : n0 ≤ h55.size := Nat.le_trans Z52 (Keep.of_wr W55).1
    have k56 : ∀ t, Steps p.tables e below (T55.setTop (mkF m 37 #[.val (.int p0), .val (.int p1), .val (.int p2), .val (.int p3), .val (.int want), .val (.int (8 : Int32)), .val (.ref b52)] [(.int ((p1.toUInt32 >>> ((16 : Int32) &&& 31).toUInt32).toInt32).toInt8.toInt32), (.int (1 : Int32)), (.ref b52)])) t → Steps p.tables e below (T55.setTop (mkF m 29 #[.val (.int p0), .val (.int p1), .val (.int p2), .val (.int p3), .val (.int want), .val (.int (8 : Int32)), .val (.ref b52)] [])) t := fun t k => by
      refine XS.aload X55.here hx rfl (hb hby at_29) rfl rfl ?_
      show Steps p.tables e below (T55.setTop (mkF m 31 #[.val (.int p0), .val (.int p1), .val (.int p2), .val (.int p3), .val (.int want), .val (.int (8 : Int32)), .val (.ref b52)] [(.ref b52)])) _
      refine XS.iconst X55.here hx rfl (hb hby at_31) ?_
      show Steps p.tables e below (T55.setTop (mkF m 32 #[.val (.int p0), .val (.int p1), .val (.int p2), .val (.int p3), .val (.int want), .val (.int (8 : Int32)), .val (.ref b52)] [(.int (1 : Int32)), (.ref b52)])) _
      refine XS.iloadN X55.here hx rfl (hb hby at_32) rfl ?_
      show Steps p.tables e below (T55.setTop (mkF m 33 #[.val (.int p0), .val (.int p1), .val (.int p2), .val (.int p3), .val (.int want), .val (.int (8 : Int32)), .val (.ref b52)] [(.int p1), (.int (1 : Int32)), (.ref b52)])) _
      refine XS.bipush X55.here hx rfl (hb hby at_33) ?_
      show Steps p.tables e below (T55.setTop (mkF m 35 #[.val (.int p0), .val (.int p1), .val (.int p2), .val (.int p3), .val (.int want), .val (.int (8 : Int32)), .val (.ref b52)] [(.int (16 : Int32)), (.int p1), (.int (1 : Int32)), (.ref b52)])) _
      refine XS.iushr X55.here hx rfl (hb hby at_35) rfl ?_
      show Steps p.tables e below (T55.setTop (mkF m 36 #[.val (.int p0), .val (.int p1), .val (.int p2), .val (.int p3), .val (.int want), .val (.int (8 : Int32)), .val (.ref b52)] [(.int ((p1.toUInt32 >>> ((16 : Int32) &&& 31).toUInt32).toInt32)), (.int (1 : Int32)), (.ref b52)])) _
      refine XS.i2b X55.here hx rfl (hb hby at_36) rfl ?_
      show Steps p.tables e below (T55.setTop (mkF m 37 #[.val (.int p0), .val (.int p1), .val (.int p2), .val (.int p3), .val (.int want), .val (.int (8 : Int32)), .val (.ref b52)] [(.int ((p1.toUInt32 >>> ((16 : Int32) &&& 31).toUInt32).toInt32).toInt8.toInt32), (.int (1 : Int32)), (.ref b52)])) _
      exact k
    refine own_go k56 ?_
    clear k56
    obtain ⟨cl57, Ar57, q57, S57, N57, H57, G57⟩ := id (f55_0)
    have hi57 : ¬ ((1 : Int32) < 0 ∨ cl57.slots.size ≤ ((1 : Int32)).toNatClampNeg) := inb_of S57 ⟨by decide, by decide⟩
    obtain ⟨T58, h58, X58, e58, W58, st58⟩ := stB X55 hx hZ e55 Ar57 (j := (1 : Int32)) hi57 (g := (mkF m 37 #[.val (.int p0), .val (.int p1), .val (.int p2), .val (.int p3), .val (.int want), .val (.int (8 : Int32)), .val (.ref b52)] [(.int ((p1.toUInt32 >>> ((16 : Int32) &&& 31).toUInt32).toInt32).toInt8.toInt32), (.int (1 : Int32)), (.ref b52)])) rfl rfl (hb hby at_37)
    refine own_go st58 ?_
    have V58 : Arv Z h58 b52 k52 .byte (8 : Int32) [(.int (nar .byte ((p1.toUInt32 >>> ((24 : Int32) &&& 31).toUInt32).toInt32).toInt8.toInt32)), (.int (nar .byte ((p1.toUInt32 >>> ((16 : Int32) &&& 31).toUInt32).toInt32).toInt8.toInt32)), (.int (0 : Int32)), (.int (0 : Int32)), (.int (0 : Int32)), (.int (0 : Int32)), (.int (0 : Int32)), (.int (0 : Int32))] (.int (0 : Int32)) := Arv.set Ar57 q57 S57 N57 H57 G57 (fits_nar_byte _) W58 1 rfl (Nat.le_of_ble_eq_true rfl)
    have f58_0 : Arv Z h58 b52 k52 .byte (8 : Int32) [(.int (nar .byte ((p1.toUInt32 >>> ((24 : Int32) &&& 31).toUInt32).toInt32).toInt8.toInt32)), (.int (nar .byte ((p1.toUInt32 >>> ((16 : Int32) &&& 31).toUInt32).toInt32).toInt8.toInt32)), (.int (0 : Int32)), (.int (0 : Int32)), (.int (0 : Int32)), (.int (0 : Int32)), (.int (0 : Int32)), (.int (0 : Int32))] (.int (0 : Int32)) := V58
    have N58 := Fr.snoc X58 N55 g_b52
    have Z58 : n0 ≤ h58.size := Nat.le_trans Z55 (Keep.of_wr W58).1
    have k59 : ∀ t, Steps p.tables e below (T58.setTop (mkF m 46 #[.val (.int p0), .val (.int p1), .val (.int p2), .val (.int p3), .val (.int want), .val (.int (8 : Int32)), .val (.ref b52)] [(.int ((p1.toUInt32 >>> ((8 : Int32) &&& 31).toUInt32).toInt32).toInt8.toInt32), (.int (2 : Int32)), (.ref b52)])) t → Steps p.tables e below (T58.setTop (mkF m 38 #[.val (.int p0), .val (.int p1), .val (.int p2), .val (.int p3), .val (.int want), .val (.int (8 : Int32)), .val (.ref b52)] [])) t := fun t k => by
      refine XS.aload X58.here hx rfl (hb hby at_38) rfl rfl ?_
      show Steps p.tables e below (T58.setTop (mkF m 40 #[.val (.int p0), .val (.int p1), .val (.int p2), .val (.int p3), .val (.int want), .val (.int (8 : Int32)), .val (.ref b52)] [(.ref b52)])) _
      refine XS.iconst X58.here hx rfl (hb hby at_40) ?_
      show Steps p.tables e below (T58.setTop (mkF m 41 #[.val (.int p0), .val (.int p1), .val (.int p2), .val (.int p3), .val (.int want), .val (.int (8 : Int32)), .val (.ref b52)] [(.int (2 : Int32)), (.ref b52)])) _
      refine XS.iloadN X58.here hx rfl (hb hby at_41) rfl ?_
      show Steps p.tables e below (T58.setTop (mkF m 42 #[.val (.int p0), .val (.int p1), .val (.int p2), .val (.int p3), .val (.int want), .val (.int (8 : Int32)), .val (.ref b52)] [(.int p1), (.int (2 : Int32)), (.ref b52)])) _
      refine XS.bipush X58.here hx rfl (hb hby at_42) ?_
      show Steps p.tables e below (T58.setTop (mkF m 44 #[.val (.int p0), .val (.int p1), .val (.int p2), .val (.int p3), .val (.int want), .val (.int (8 : Int32)), .val (.ref b52)] [(.int (8 : Int32)), (.int p1), (.int (2 : Int32)), (.ref b52)])) _
      refine XS.iushr X58.here hx rfl (hb hby at_44) rfl ?_
      show Steps p.tables e below (T58.setTop (mkF m 45 #[.val (.int p0), .val (.int p1), .val (.int p2), .val (.int p3), .val (.int want), .val (.int (8 : Int32)), .val (.ref b52)] [(.int ((p1.toUInt32 >>> ((8 : Int32) &&& 31).toUInt32).toInt32)), (.int (2 : Int32)), (.ref b52)])) _
      refine XS.i2b X58.here hx rfl (hb hby at_45) rfl ?_
      show Steps p.tables e below (T58.setTop (mkF m 46 #[.val (.int p0), .val (.int p1), .val (.int p2), .val (.int p3), .val (.int want), .val (.int (8 : Int32)), .val (.ref b52)] [(.int ((p1.toUInt32 >>> ((8 : Int32) &&& 31).toUInt32).toInt32).toInt8.toInt32), (.int (2 : Int32)), (.ref b52)])) _
      exact k
    refine own_go k59 ?_
    clear k59
    obtain ⟨cl60, Ar60, q60, S60, N60, H60, G60⟩ := id (f58_0)
    have hi60 : ¬ ((2 : Int32) < 0 ∨ cl60.slots.size ≤ ((2 : Int32)).toNatClampNeg) := inb_of S60 ⟨by decide, by decide⟩
    obtain ⟨T61, h61, X61, e61, W61, st61⟩ := stB X58 hx hZ e58 Ar60 (j := (2 : Int32)) hi60 (g := (mkF m 46 #[.val (.int p0), .val (.int p1), .val (.int p2), .val (.int p3), .val (.int want), .val (.int (8 : Int32)), .val (.ref b52)] [(.int ((p1.toUInt32 >>> ((8 : Int32) &&& 31).toUInt32).toInt32).toInt8.toInt32), (.int (2 : Int32)), (.ref b52)])) rfl rfl (hb hby at_46)
    refine own_go st61 ?_
    have V61 : Arv Z h61 b52 k52 .byte (8 : Int32) [(.int (nar .byte ((p1.toUInt32 >>> ((24 : Int32) &&& 31).toUInt32).toInt32).toInt8.toInt32)), (.int (nar .byte ((p1.toUInt32 >>> ((16 : Int32) &&& 31).toUInt32).toInt32).toInt8.toInt32)), (.int (nar .byte ((p1.toUInt32 >>> ((8 : Int32) &&& 31).toUInt32).toInt32).toInt8.toInt32)), (.int (0 : Int32)), (.int (0 : Int32)), (.int (0 : Int32)), (.int (0 : Int32)), (.int (0 : Int32))] (.int (0 : Int32)) := Arv.set Ar60 q60 S60 N60 H60 G60 (fits_nar_byte _) W61 2 rfl (Nat.le_of_ble_eq_true rfl)
    have f61_0 : Arv Z h61 b52 k52 .byte (8 : Int32) [(.int (nar .byte ((p1.toUInt32 >>> ((24 : Int32) &&& 31).toUInt32).toInt32).toInt8.toInt32)), (.int (nar .byte ((p1.toUInt32 >>> ((16 : Int32) &&& 31).toUInt32).toInt32).toInt8.toInt32)), (.int (nar .byte ((p1.toUInt32 >>> ((8 : Int32) &&& 31).toUInt32).toInt32).toInt8.toInt32)), (.int (0 : Int32)), (.int (0 : Int32)), (.int (0 : Int32)), (.int (0 : Int32)), (.int (0 : Int32))] (.int (0 : Int32)) := V61
    have N61 := Fr.snoc X61 N58 g_b52
    have Z61 : n0 ≤ h61.size := Nat.le_trans Z58 (Keep.of_wr W61).1
    have k62 : ∀ t, Steps p.tables e below (T61.setTop (mkF m 52 #[.val (.int p0), .val (.int p1), .val (.int p2), .val (.int p3), .val (.int want), .val (.int (8 : Int32)), .val (.ref b52)] [(.int p1.toInt8.toInt32), (.int (3 : Int32)), (.ref b52)])) t → Steps p.tables e below (T61.setTop (mkF m 47 #[.val (.int p0), .val (.int p1), .val (.int p2), .val (.int p3), .val (.int want), .val (.int (8 : Int32)), .val (.ref b52)] [])) t := fun t k => by
      refine XS.aload X61.here hx rfl (hb hby at_47) rfl rfl ?_
      show Steps p.tables e below (T61.setTop (mkF m 49 #[.val (.int p0), .val (.int p1), .val (.int p2), .val (.int p3), .val (.int want), .val (.int (8 : Int32)), .val (.ref b52)] [(.ref b52)])) _
      refine XS.iconst X61.here hx rfl (hb hby at_49) ?_
      show Steps p.tables e below (T61.setTop (mkF m 50 #[.val (.int p0), .val (.int p1), .val (.int p2), .val (.int p3), .val (.int want), .val (.int (8 : Int32)), .val (.ref b52)] [(.int (3 : Int32)), (.ref b52)])) _
      refine XS.iloadN X61.here hx rfl (hb hby at_50) rfl ?_
      show Steps p.tables e below (T61.setTop (mkF m 51 #[.val (.int p0), .val (.int p1), .val (.int p2), .val (.int p3), .val (.int want), .val (.int (8 : Int32)), .val (.ref b52)] [(.int p1), (.int (3 : Int32)), (.ref b52)])) _
      refine XS.i2b X61.here hx rfl (hb hby at_51) rfl ?_
      show Steps p.tables e below (T61.setTop (mkF m 52 #[.val (.int p0), .val (.int p1), .val (.int p2), .val (.int p3), .val (.int want), .val (.int (8 : Int32)), .val (.ref b52)] [(.int p1.toInt8.toInt32), (.int (3 : Int32)), (.ref b52)])) _
      exact k
    refine own_go k62 ?_
    clear k62
    obtain ⟨cl63, Ar63, q63, S63, N63, H63, G63⟩ := id (f61_0)
    have hi63 : ¬ ((3 : Int32) < 0 ∨ cl63.slots.size ≤ ((3 : Int32)).toNatClampNeg) := inb_of S63 ⟨by decide, by decide⟩
    obtain ⟨T64, h64, X64, e64, W64, st64⟩ := stB X61 hx hZ e61 Ar63 (j := (3 : Int32)) hi63 (g := (mkF m 52 #[.val (.int p0), .val (.int p1), .val (.int p2), .val (.int p3), .val (.int want), .val (.int (8 : Int32)), .val (.ref b52)] [(.int p1.toInt8.toInt32), (.int (3 : Int32)), (.ref b52)])) rfl rfl (hb hby at_52)
    refine own_go st64 ?_
    have V64 : Arv Z h64 b52 k52 .byte (8 : Int32) [(.int (nar .byte ((p1.toUInt32 >>> ((24 : Int32) &&& 31).toUInt32).toInt32).toInt8.toInt32)), (.int (nar .byte ((p1.toUInt32 >>> ((16 : Int32) &&& 31).toUInt32).toInt32).toInt8.toInt32)), (.int (nar .byte ((p1.toUInt32 >>> ((8 : Int32) &&& 31).toUInt32).toInt32).toInt8.toInt32)), (.int (nar .byte p1.toInt8.toInt32)), (.int (0 : Int32)), (.int (0 : Int32)), (.int (0 : Int32)), (.int (0 : Int32))] (.int (0 : Int32)) := Arv.set Ar63 q63 S63 N63 H63 G63 (fits_nar_byte _) W64 3 rfl (Nat.le_of_ble_eq_true rfl)
    have f64_0 : Arv Z h64 b52 k52 .byte (8 : Int32) [(.int (nar .byte ((p1.toUInt32 >>> ((24 : Int32) &&& 31).toUInt32).toInt32).toInt8.toInt32)), (.int (nar .byte ((p1.toUInt32 >>> ((16 : Int32) &&& 31).toUInt32).toInt32).toInt8.toInt32)), (.int (nar .byte ((p1.toUInt32 >>> ((8 : Int32) &&& 31).toUInt32).toInt32).toInt8.toInt32)), (.int (nar .byte p1.toInt8.toInt32)), (.int (0 : Int32)), (.int (0 : Int32)), (.int (0 : Int32)), (.int (0 : Int32))] (.int (0 : Int32)) := V64
    have N64 := Fr.snoc X64 N61 g_b52
    have Z64 : n0 ≤ h64.size := Nat.le_trans Z61 (Keep.of_wr W64).1
    have k65 : ∀ t, Steps p.tables e below (T64.setTop (mkF m 62 #[.val (.int p0), .val (.int p1), .val (.int p2), .val (.int p3), .val (.int want), .val (.int (8 : Int32)), .val (.ref b52)] [(.int ((want.toUInt32 >>> ((8 : Int32) &&& 31).toUInt32).toInt32).toInt8.toInt32), (.int (4 : Int32)), (.ref b52)])) t → Steps p.tables e below (T64.setTop (mkF m 53 #[.val (.int p0), .val (.int p1), .val (.int p2), .val (.int p3), .val (.int want), .val (.int (8 : Int32)), .val (.ref b52)] [])) t := fun t k => by
      refine XS.aload X64.here hx rfl (hb hby at_53) rfl rfl ?_
      show Steps p.tables e below (T64.setTop (mkF m 55 #[.val (.int p0), .val (.int p1), .val (.int p2), .val (.int p3), .val (.int want), .val (.int (8 : Int32)), .val (.ref b52)] [(.ref b52)])) _
      refine XS.iconst X64.here hx rfl (hb hby at_55) ?_
      show Steps p.tables e below (T64.setTop (mkF m 56 #[.val (.int p0), .val (.int p1), .val (.int p2), .val (.int p3), .val (.int want), .val (.int (8 : Int32)), .val (.ref b52)] [(.int (4 : Int32)), (.ref b52)])) _
      refine XS.iload X64.here hx rfl (hb hby at_56) rfl ?_
      show Steps p.tables e below (T64.setTop (mkF m 58 #[.val (.int p0), .val (.int p1), .val (.int p2), .val (.int p3), .val (.int want), .val (.int (8 : Int32)), .val (.ref b52)] [(.int want), (.int (4 : Int32)), (.ref b52)])) _
      refine XS.bipush X64.here hx rfl (hb hby at_58) ?_
      show Steps p.tables e below (T64.setTop (mkF m 60 #[.val (.int p0), .val (.int p1), .val (.int p2), .val (.int p3), .val (.int want), .val (.int (8 : Int32)), .val (.ref b52)] [(.int (8 : Int32)), (.int want), (.int (4 : Int32)), (.ref b52)])) _
      refine XS.iushr X64.here hx rfl (hb hby at_60) rfl ?_
      show Steps p.tables e below (T64.setTop (mkF m 61 #[.val (.int p0), .val (.int p1), .val (.int p2), .val (.int p3), .val (.int want), .val (.int (8 : Int32)), .val (.ref b52)] [(.int ((want.toUInt32 >>> ((8 : Int32) &&& 31).toUInt32).toInt32)), (.int (4 : Int32)), (.ref b52)])) _
      refine XS.i2b X64.here hx rfl (hb hby at_61) rfl ?_
      show Steps p.tables e below (T64.setTop (mkF m 62 #[.val (.int p0), .val (.int p1), .val (.int p2), .val (.int p3), .val (.int want), .val (.int (8 : Int32)), .val (.ref b52)] [(.int ((want.toUInt32 >>> ((8 : Int32) &&& 31).toUInt32).toInt32).toInt8.toInt32), (.int (4 : Int32)), (.ref b52)])) _
      exact k
    refine own_go k65 ?_
    clear k65
    obtain ⟨cl66, Ar66, q66, S66, N66, H66, G66⟩ := id (f64_0)
    have hi66 : ¬ ((4 : Int32) < 0 ∨ cl66.slots.size ≤ ((4 : Int32)).toNatClampNeg) := inb_of S66 ⟨by decide, by decide⟩
    obtain ⟨T67, h67, X67, e67, W67, st67⟩ := stB X64 hx hZ e64 Ar66 (j := (4 : Int32)) hi66 (g := (mkF m 62 #[.val (.int p0), .val (.int p1), .val (.int p2), .val (.int p3), .val (.int want), .val (.int (8 : Int32)), .val (.ref b52)] [(.int ((want.toUInt32 >>> ((8 : Int32) &&& 31).toUInt32).toInt32).toInt8.toInt32), (.int (4 : Int32)), (.ref b52)])) rfl rfl (hb hby at_62)
    refine own_go st67 ?_
    have V67 : Arv Z h67 b52 k52 .byte (8 : Int32) [(.int (nar .byte ((p1.toUInt32 >>> ((24 : Int32) &&& 31).toUInt32).toInt32).toInt8.toInt32)), (.int (nar .byte ((p1.toUInt32 >>> ((16 : Int32) &&& 31).toUInt32).toInt32).toInt8.toInt32)), (.int (nar .byte ((p1.toUInt32 >>> ((8 : Int32) &&& 31).toUInt32).toInt32).toInt8.toInt32)), (.int (nar .byte p1.toInt8.toInt32)), (.int (nar .byte ((want.toUInt32 >>> ((8 : Int32) &&& 31).toUInt32).toInt32).toInt8.toInt32)), (.int (0 : Int32)), (.int (0 : Int32)), (.int (0 : Int32))] (.int (0 : Int32)) := Arv.set Ar66 q66 S66 N66 H66 G66 (fits_nar_byte _) W67 4 rfl (Nat.le_of_ble_eq_true rfl)
    have f67_0 : Arv Z h67 b52 k52 .byte (8 : Int32) [(.int (nar .byte ((p1.toUInt32 >>> ((24 : Int32) &&& 31).toUInt32).toInt32).toInt8.toInt32)), (.int (nar .byte ((p1.toUInt32 >>> ((16 : Int32) &&& 31).toUInt32).toInt32).toInt8.toInt32)), (.int (nar .byte ((p1.toUInt32 >>> ((8 : Int32) &&& 31).toUInt32).toInt32).toInt8.toInt32)), (.int (nar .byte p1.toInt8.toInt32)), (.int (nar .byte ((want.toUInt32 >>> ((8 : Int32) &&& 31).toUInt32).toInt32).toInt8.toInt32)), (.int (0 : Int32)), (.int (0 : Int32)), (.int (0 : Int32))] (.int (0 : Int32)) := V67
    have N67 := Fr.snoc X67 N64 g_b52
    have Z67 : n0 ≤ h67.size := Nat.le_trans Z64 (Keep.of_wr W67).1
    have k68 : ∀ t, Steps p.tables e below (T67.setTop (mkF m 69 #[.val (.int p0), .val (.int p1), .val (.int p2), .val (.int p3), .val (.int want), .val (.int (8 : Int32)), .val (.ref b52)] [(.int want.toInt8.toInt32), (.int (5 : Int32)), (.ref b52)])) t → Steps p.tables e below (T67.setTop (mkF m 63 #[.val (.int p0), .val (.int p1), .val (.int p2), .val (.int p3), .val (.int want), .val (.int (8 : Int32)), .val (.ref b52)] [])) t := fun t k => by
      refine XS.aload X67.here hx rfl (hb hby at_63) rfl rfl ?_
      show Steps p.tables e below (T67.setTop (mkF m 65 #[.val (.int p0), .val (.int p1), .val (.int p2), .val (.int p3), .val (.int want), .val (.int (8 : Int32)), .val (.ref b52)] [(.ref b52)])) _
      refine XS.iconst X67.here hx rfl (hb hby at_65) ?_
      show Steps p.tables e below (T67.setTop (mkF m 66 #[.val (.int p0), .val (.int p1), .val (.int p2), .val (.int p3), .val (.int want), .val (.int (8 : Int32)), .val (.ref b52)] [(.int (5 : Int32)), (.ref b52)])) _
      refine XS.iload X67.here hx rfl (hb hby at_66) rfl ?_
      show Steps p.tables e below (T67.setTop (mkF m 68 #[.val (.int p0), .val (.int p1), .val (.int p2), .val (.int p3), .val (.int want), .val (.int (8 : Int32)), .val (.ref b52)] [(.int want), (.int (5 : Int32)), (.ref b52)])) _
      refine XS.i2b X67.here hx rfl (hb hby at_68) rfl ?_
      show Steps p.tables e below (T67.setTop (mkF m 69 #[.val (.int p0), .val (.int p1), .val (.int p2), .val (.int p3), .val (.int want), .val (.int (8 : Int32)), .val (.ref b52)] [(.int want.toInt8.toInt32), (.int (5 : Int32)), (.ref b52)])) _
      exact k
    refine own_go k68 ?_
    clear k68
    obtain ⟨cl69, Ar69, q69, S69, N69, H69, G69⟩ := id (f67_0)
    have hi69 : ¬ ((5 : Int32) < 0 ∨ cl69.slots.size ≤ ((5 : Int32)).toNatClampNeg) := inb_of S69 ⟨by decide, by decide⟩
    obtain ⟨T70, h70, X70, e70, W70, st70⟩ := stB X67 hx hZ e67 Ar69 (j := (5 : Int32)) hi69 (g := (mkF m 69 #[.val (.int p0), .val (.int p1), .val (.int p2), .val (.int p3), .val (.int want), .val (.int (8 : Int32)), .val (.ref b52)] [(.int want.toInt8.toInt32), (.int (5 : Int32)), (.ref b52)])) rfl rfl (hb hby at_69)
    refine own_go st70 ?_
    have V70 : Arv Z h70 b52 k52 .byte (8 : Int32) [(.int (nar .byte ((p1.toUInt32 >>> ((24 : Int32) &&& 31).toUInt32).toInt32).toInt8.toInt32)), (.int (nar .byte ((p1.toUInt32 >>> ((16 : Int32) &&& 31).toUInt32).toInt32).toInt8.toInt32)), (.int (nar .byte ((p1.toUInt32 >>> ((8 : Int32) &&& 31).toUInt32).toInt32).toInt8.toInt32)), (.int (nar .byte p1.toInt8.toInt32)), (.int (nar .byte ((want.toUInt32 >>> ((8 : Int32) &&& 31).toUInt32).toInt32).toInt8.toInt32)), (.int (nar .byte want.toInt8.toInt32)), (.int (0 : Int32)), (.int (0 : Int32))] (.int (0 : Int32)) := Arv.set Ar69 q69 S69 N69 H69 G69 (fits_nar_byte _) W70 5 rfl (Nat.le_of_ble_eq_true rfl)
    have f70_0 : Arv Z h70 b52 k52 .byte (8 : Int32) [(.int (nar .byte ((p1.toUInt32 >>> ((24 : Int32) &&& 31).toUInt32).toInt32).toInt8.toInt32)), (.int (nar .byte ((p1.toUInt32 >>> ((16 : Int32) &&& 31).toUInt32).toInt32).toInt8.toInt32)), (.int (nar .byte ((p1.toUInt32 >>> ((8 : Int32) &&& 31).toUInt32).toInt32).toInt8.toInt32)), (.int (nar .byte p1.toInt8.toInt32)), (.int (nar .byte ((want.toUInt32 >>> ((8 : Int32) &&& 31).toUInt32).toInt32).toInt8.toInt32)), (.int (nar .byte want.toInt8.toInt32)), (.int (0 : Int32)), (.int (0 : Int32))] (.int (0 : Int32)) := V70
    have N70 := Fr.snoc X70 N67 g_b52
    have Z70 : n0 ≤ h70.size := Nat.le_trans Z67 (Keep.of_wr W70).1
    have k71 : ∀ t, Steps p.tables e below (T70.setTop (mkF m 83 #[.val (.int p0), .val (.int p1), .val (.int p2), .val (.int p3), .val (.int want), .val (.int (8 : Int32)), .val (.ref b52)] [(.int p2.toInt8.toInt32), (.int (6 : Int32)), (.ref b52)])) t → Steps p.tables e below (T70.setTop (mkF m 70 #[.val (.int p0), .val (.int p1), .val (.int p2), .val (.int p3), .val (.int want), .val (.int (8 : Int32)), .val (.ref b52)] [])) t := fun t k => by
      refine XS.iload X70.here hx rfl (hb hby at_70) rfl ?_
      show Steps p.tables e below (T70.setTop (mkF m 72 #[.val (.int p0), .val (.int p1), .val (.int p2), .val (.int p3), .val (.int want), .val (.int (8 : Int32)), .val (.ref b52)] [(.int (8 : Int32))])) _
      refine XS.bipush X70.here hx rfl (hb hby at_72) ?_
      show Steps p.tables e below (T70.setTop (mkF m 74 #[.val (.int p0), .val (.int p1), .val (.int p2), .val (.int p3), .val (.int want), .val (.int (8 : Int32)), .val (.ref b52)] [(.int (6 : Int32)), (.int (8 : Int32))])) _
      refine XS.icmpNo X70.here hx rfl (hb hby at_74) rfl (tlt (by decide : (6 : Int32) < (8 : Int32))).2.2.2 ?_
      show Steps p.tables e below (T70.setTop (mkF m 77 #[.val (.int p0), .val (.int p1), .val (.int p2), .val (.int p3), .val (.int want), .val (.int (8 : Int32)), .val (.ref b52)] [])) _
      refine XS.aload X70.here hx rfl (hb hby at_77) rfl rfl ?_
      show Steps p.tables e below (T70.setTop (mkF m 79 #[.val (.int p0), .val (.int p1), .val (.int p2), .val (.int p3), .val (.int want), .val (.int (8 : Int32)), .val (.ref b52)] [(.ref b52)])) _
      refine XS.bipush X70.here hx rfl (hb hby at_79) ?_
      show Steps p.tables e below (T70.setTop (mkF m 81 #[.val (.int p0), .val (.int p1), .val (.int p2), .val (.int p3), .val (.int want), .val (.int (8 : Int32)), .val (.ref b52)] [(.int (6 : Int32)), (.ref b52)])) _
      refine XS.iloadN X70.here hx rfl (hb hby at_81) rfl ?_
      show Steps p.tables e below (T70.setTop (mkF m 82 #[.val (.int p0), .val (.int p1), .val (.int p2), .val (.int p3), .val (.int want), .val (.int (8 : Int32)), .val (.ref b52)] [(.int p2), (.int (6 : Int32)), (.ref b52)])) _
      refine XS.i2b X70.here hx rfl (hb hby at_82) rfl ?_
      show Steps p.tables e below (T70.setTop (mkF m 83 #[.val (.int p0), .val (.int p1), .val (.int p2), .val (.int p3), .val (.int want), .val (.int (8 : Int32)), .val (.ref b52)] [(.int p2.toInt8.toInt32), (.int (6 : Int32)), (.ref b52)])) _
      exact k
    refine own_go k71 ?_
    clear k71
    obtain ⟨cl72, Ar72, q72, S72, N72, H72, G72⟩ := id (f70_0)
    have hi72 : ¬ ((6 : Int32) < 0 ∨ cl72.slots.size ≤ ((6 : Int32)).toNatClampNeg) := inb_of S72 ⟨by decide, by decide⟩
    obtain ⟨T73, h73, X73, e73, W73, st73⟩ := stB X70 hx hZ e70 Ar72 (j := (6 : Int32)) hi72 (g := (mkF m 83 #[.val (.int p0), .val (.int p1), .val (.int p2), .val (.int p3), .val (.int want), .val (.int (8 : Int32)), .val (.ref b52)] [(.int p2.toInt8.toInt32), (.int (6 : Int32)), (.ref b52)])) rfl rfl (hb hby at_83)
    refine own_go st73 ?_
    have V73 : Arv Z h73 b52 k52 .byte (8 : Int32) [(.int (nar .byte ((p1.toUInt32 >>> ((24 : Int32) &&& 31).toUInt32).toInt32).toInt8.toInt32)), (.int (nar .byte ((p1.toUInt32 >>> ((16 : Int32) &&& 31).toUInt32).toInt32).toInt8.toInt32)), (.int (nar .byte ((p1.toUInt32 >>> ((8 : Int32) &&& 31).toUInt32).toInt32).toInt8.toInt32)), (.int (nar .byte p1.toInt8.toInt32)), (.int (nar .byte ((want.toUInt32 >>> ((8 : Int32) &&& 31).toUInt32).toInt32).toInt8.toInt32)), (.int (nar .byte want.toInt8.toInt32)), (.int (nar .byte p2.toInt8.toInt32)), (.int (0 : Int32))] (.int (0 : Int32)) := Arv.set Ar72 q72 S72 N72 H72 G72 (fits_nar_byte _) W73 6 rfl (Nat.le_of_ble_eq_true rfl)
    have f73_0 : Arv Z h73 b52 k52 .byte (8 : Int32) [(.int (nar .byte ((p1.toUInt32 >>> ((24 : Int32) &&& 31).toUInt32).toInt32).toInt8.toInt32)), (.int (nar .byte ((p1.toUInt32 >>> ((16 : Int32) &&& 31).toUInt32).toInt32).toInt8.toInt32)), (.int (nar .byte ((p1.toUInt32 >>> ((8 : Int32) &&& 31).toUInt32).toInt32).toInt8.toInt32)), (.int (nar .byte p1.toInt8.toInt32)), (.int (nar .byte ((want.toUInt32 >>> ((8 : Int32) &&& 31).toUInt32).toInt32).toInt8.toInt32)), (.int (nar .byte want.toInt8.toInt32)), (.int (nar .byte p2.toInt8.toInt32)), (.int (0 : Int32))] (.int (0 : Int32)) := V73
    have N73 := Fr.snoc X73 N70 g_b52
    have Z73 : n0 ≤ h73.size := Nat.le_trans Z70 (Keep.of_wr W73).1
    have k74 : ∀ t, Steps p.tables e below (T73.setTop (mkF m 100 #[.val (.int p0), .val (.int p1), .val (.int p2), .val (.int p3), .val (.int want), .val (.int (8 : Int32)), .val (.ref b52)] [(.int ((p2.toUInt32 >>> ((8 : Int32) &&& 31).toUInt32).toInt32).toInt8.toInt32), (.int (7 : Int32)), (.ref b52)])) t → Steps p.tables e below (T73.setTop (mkF m 84 #[.val (.int p0), .val (.int p1), .val (.int p2), .val (.int p3), .val (.int want), .val (.int (8 : Int32)), .val (.ref b52)] [])) t := fun t k => by
      refine XS.iload X73.here hx rfl (hb hby at_84) rfl ?_
      show Steps p.tables e below (T73.setTop (mkF m 86 #[.val (.int p0), .val (.int p1), .val (.int p2), .val (.int p3), .val (.int want), .val (.int (8 : Int32)), .val (.ref b52)] [(.int (8 : Int32))])) _
      refine XS.bipush X73.here hx rfl (hb hby at_86) ?_
      show Steps p.tables e below (T73.setTop (mkF m 88 #[.val (.int p0), .val (.int p1), .val (.int p2), .val (.int p3), .val (.int want), .val (.int (8 : Int32)), .val (.ref b52)] [(.int (7 : Int32)), (.int (8 : Int32))])) _
      refine XS.icmpNo X73.here hx rfl (hb hby at_88) rfl (tlt (by decide : (7 : Int32) < (8 : Int32))).2.2.2 ?_
      show Steps p.tables e below (T73.setTop (mkF m 91 #[.val (.int p0), .val (.int p1), .val (.int p2), .val (.int p3), .val (.int want), .val (.int (8 : Int32)), .val (.ref b52)] [])) _
      refine XS.aload X73.here hx rfl (hb hby at_91) rfl rfl ?_
      show Steps p.tables e below (T73.setTop (mkF m 93 #[.val (.int p0), .val (.int p1), .val (.int p2), .val (.int p3), .val (.int want), .val (.int (8 : Int32)), .val (.ref b52)] [(.ref b52)])) _
      refine XS.bipush X73.here hx rfl (hb hby at_93) ?_
      show Steps p.tables e below (T73.setTop (mkF m 95 #[.val (.int p0), .val (.int p1), .val (.int p2), .val (.int p3), .val (.int want), .val (.int (8 : Int32)), .val (.ref b52)] [(.int (7 : Int32)), (.ref b52)])) _
      refine XS.iloadN X73.here hx rfl (hb hby at_95) rfl ?_
      show Steps p.tables e below (T73.setTop (mkF m 96 #[.val (.int p0), .val (.int p1), .val (.int p2), .val (.int p3), .val (.int want), .val (.int (8 : Int32)), .val (.ref b52)] [(.int p2), (.int (7 : Int32)), (.ref b52)])) _
      refine XS.bipush X73.here hx rfl (hb hby at_96) ?_
      show Steps p.tables e below (T73.setTop (mkF m 98 #[.val (.int p0), .val (.int p1), .val (.int p2), .val (.int p3), .val (.int want), .val (.int (8 : Int32)), .val (.ref b52)] [(.int (8 : Int32)), (.int p2), (.int (7 : Int32)), (.ref b52)])) _
      refine XS.iushr X73.here hx rfl (hb hby at_98) rfl ?_
      show Steps p.tables e below (T73.setTop (mkF m 99 #[.val (.int p0), .val (.int p1), .val (.int p2), .val (.int p3), .val (.int want), .val (.int (8 : Int32)), .val (.ref b52)] [(.int ((p2.toUInt32 >>> ((8 : Int32) &&& 31).toUInt32).toInt32)), (.int (7 : Int32)), (.ref b52)])) _
      refine XS.i2b X73.here hx rfl (hb hby at_99) rfl ?_
      show Steps p.tables e below (T73.setTop (mkF m 100 #[.val (.int p0), .val (.int p1), .val (.int p2), .val (.int p3), .val (.int want), .val (.int (8 : Int32)), .val (.ref b52)] [(.int ((p2.toUInt32 >>> ((8 : Int32) &&& 31).toUInt32).toInt32).toInt8.toInt32), (.int (7 : Int32)), (.ref b52)])) _
      exact k
    refine own_go k74 ?_
    clear k74
    obtain ⟨cl75, Ar75, q75, S75, N75, H75, G75⟩ := id (f73_0)
    have hi75 : ¬ ((7 : Int32) < 0 ∨ cl75.slots.size ≤ ((7 : Int32)).toNatClampNeg) := inb_of S75 ⟨by decide, by decide⟩
    obtain ⟨T76, h76, X76, e76, W76, st76⟩ := stB X73 hx hZ e73 Ar75 (j := (7 : Int32)) hi75 (g := (mkF m 100 #[.val (.int p0), .val (.int p1), .val (.int p2), .val (.int p3), .val (.int want), .val (.int (8 : Int32)), .val (.ref b52)] [(.int ((p2.toUInt32 >>> ((8 : Int32) &&& 31).toUInt32).toInt32).toInt8.toInt32), (.int (7 : Int32)), (.ref b52)])) rfl rfl (hb hby at_100)
    refine own_go st76 ?_
    have V76 : Arv Z h76 b52 k52 .byte (8 : Int32) [(.int (nar .byte ((p1.toUInt32 >>> ((24 : Int32) &&& 31).toUInt32).toInt32).toInt8.toInt32)), (.int (nar .byte ((p1.toUInt32 >>> ((16 : Int32) &&& 31).toUInt32).toInt32).toInt8.toInt32)), (.int (nar .byte ((p1.toUInt32 >>> ((8 : Int32) &&& 31).toUInt32).toInt32).toInt8.toInt32)), (.int (nar .byte p1.toInt8.toInt32)), (.int (nar .byte ((want.toUInt32 >>> ((8 : Int32) &&& 31).toUInt32).toInt32).toInt8.toInt32)), (.int (nar .byte want.toInt8.toInt32)), (.int (nar .byte p2.toInt8.toInt32)), (.int (nar .byte ((p2.toUInt32 >>> ((8 : Int32) &&& 31).toUInt32).toInt32).toInt8.toInt32))] (.int (0 : Int32)) := Arv.set Ar75 q75 S75 N75 H75 G75 (fits_nar_byte _) W76 7 rfl (Nat.le_of_ble_eq_true rfl)
    have f76_0 : Arv Z h76 b52 k52 .byte (8 : Int32) [(.int (nar .byte ((p1.toUInt32 >>> ((24 : Int32) &&& 31).toUInt32).toInt32).toInt8.toInt32)), (.int (nar .byte ((p1.toUInt32 >>> ((16 : Int32) &&& 31).toUInt32).toInt32).toInt8.toInt32)), (.int (nar .byte ((p1.toUInt32 >>> ((8 : Int32) &&& 31).toUInt32).toInt32).toInt8.toInt32)), (.int (nar .byte p1.toInt8.toInt32)), (.int (nar .byte ((want.toUInt32 >>> ((8 : Int32) &&& 31).toUInt32).toInt32).toInt8.toInt32)), (.int (nar .byte want.toInt8.toInt32)), (.int (nar .byte p2.toInt8.toInt32)), (.int (nar .byte ((p2.toUInt32 >>> ((8 : Int32) &&& 31).toUInt32).toInt32).toInt8.toInt32))] (.int (0 : Int32)) := V76
    have N76 := Fr.snoc X76 N73 g_b52
    have Z76 : n0 ≤ h76.size := Nat.le_trans Z73 (Keep.of_wr W76).1
    have k78 : ∀ t, Steps p.tables e below (T76.setTop (mkF m 120 #[.val (.int p0), .val (.int p1), .val (.int p2), .val (.int p3), .val (.int want), .val (.int (8 : Int32)), .val (.ref b52)] [(.ref b52)])) t → Steps p.tables e below (T76.setTop (mkF m 101 #[.val (.int p0), .val (.int p1), .val (.int p2), .val (.int p3), .val (.int want), .val (.int (8 : Int32)), .val (.ref b52)] [])) t := fun t k => by
      refine XS.iload X76.here hx rfl (hb hby at_101) rfl ?_
      show Steps p.tables e below (T76.setTop (mkF m 103 #[.val (.int p0), .val (.int p1), .val (.int p2), .val (.int p3), .val (.int want), .val (.int (8 : Int32)), .val (.ref b52)] [(.int (8 : Int32))])) _
      refine XS.bipush X76.here hx rfl (hb hby at_103) ?_
      show Steps p.tables e below (T76.setTop (mkF m 105 #[.val (.int p0), .val (.int p1), .val (.int p2), .val (.int p3), .val (.int want), .val (.int (8 : Int32)), .val (.ref b52)] [(.int (8 : Int32)), (.int (8 : Int32))])) _
      refine XS.icmpYes X76.here hx rfl (pc0 := 105) (pc' := 118) rfl (hb hby at_105) rfl (flt (by decide : ¬ ((8 : Int32) < (8 : Int32)))).2.2.2 (by decide) (by decide) ?_
      show Steps p.tables e below (T76.setTop (mkF m 118 #[.val (.int p0), .val (.int p1), .val (.int p2), .val (.int p3), .val (.int want), .val (.int (8 : Int32)), .val (.ref b52)] [])) _
      refine XS.aload X76.here hx rfl (hb hby at_118) rfl rfl ?_
      show Steps p.tables e below (T76.setTop (mkF m 120 #[.val (.int p0), .val (.int p1), .val (.int p2), .val (.int p3), .val (.int want), .val (.int (8 : Int32)), .val (.ref b52)] [(.ref b52)])) _
      exact k
    refine own_go k78 ?_
    clear k78
    obtain ⟨_, _, ⟨T77, L77, k77, n77⟩, -, X77, ⟨Lc77, hQ77, l77, y77, z77⟩, st77⟩ := Jvm.LawKit.callS X76 hx (y := (⟨"com/example/feeder/feeder/adapters/FrameFormat", "idcode", "([B)I"⟩ : MethodName)) hown (mvT hZ (hw _ (List.mem_of_getElem? (i := 2) rfl))) (mvT hZ (hw _ (List.mem_of_getElem? (i := 3) rfl))) (mvT hZ (hw _ (List.mem_of_getElem? (i := 4) rfl))) (mvT hZ (hw _ (List.mem_of_getElem? (i := 5) rfl))) (by decide) (backOf (W := 0) (own_rm_idcode l Z a0 hw [] b52 k52 (8 : Int32) [(.int (nar .byte ((p1.toUInt32 >>> ((24 : Int32) &&& 31).toUInt32).toInt32).toInt8.toInt32)), (.int (nar .byte ((p1.toUInt32 >>> ((16 : Int32) &&& 31).toUInt32).toInt32).toInt8.toInt32)), (.int (nar .byte ((p1.toUInt32 >>> ((8 : Int32) &&& 31).toUInt32).toInt32).toInt8.toInt32)), (.int (nar .byte p1.toInt8.toInt32)), (.int (nar .byte ((want.toUInt32 >>> ((8 : Int32) &&& 31).toUInt32).toInt32).toInt8.toInt32)), (.int (nar .byte want.toInt8.toInt32)), (.int (nar .byte p2.toInt8.toInt32)), (.int (nar .byte ((p2.toUInt32 >>> ((8 : Int32) &&& 31).toUInt32).toInt32).toInt8.toInt32))] (nar .byte ((want.toUInt32 >>> ((8 : Int32) &&& 31).toUInt32).toInt32).toInt8.toInt32) (nar .byte want.toInt8.toInt32) h76 n0 Z76 f76_0 ⟨by decide, by decide⟩ rfl ⟨by decide, by decide⟩ rfl) hZ (hw _ (List.mem_of_getElem? (i := 5) rfl)) (hw _ (List.mem_of_getElem? (i := 4) rfl)) (by decide) (by decide)) (g := (mkF m 120 #[.val (.int p0), .val (.int p1), .val (.int p2), .val (.int p3), .val (.int want), .val (.int (8 : Int32)), .val (.ref b52)] [(.ref b52)])) rfl (by rw [hml]; rfl) (argsL := [(.ref b52)]) (rest := []) (lenOf own_pd_285bB29I rfl) rfl (by show 2 * 0 + _ ≤ _; exact Nat.le_of_eq rfl) (hb hby at_120) (fun _ _ => ⟨rfl, e76, (by decide : 1 + 0 ≤ _), (by decide : 8 + 0 ≤ _)⟩)
    dsimp only [Pt.U, Pt.locs, Pt.cells, Pt.slots] at X77 l77 y77 z77 st77 hQ77
    subst l77 y77 z77
    obtain ⟨rfl, N77q, eh77⟩ := hQ77
    have N77 := Fr.app N76 N77q
    refine own_go st77 ?_
    have k79 : ∀ t, Steps p.tables e below (T77.setTop (mkF m 133 #[.val (.int p0), .val (.int p1), .val (.int p2), .val (.int p3), .val (.int want), .val (.int (8 : Int32)), .val (.ref b52)] [(.int (1 : Int32))])) t → Steps p.tables e below (T77.setTop (mkF m 123 #[.val (.int p0), .val (.int p1), .val (.int p2), .val (.int p3), .val (.int want), .val (.int (8 : Int32)), .val (.ref b52)] [(.int ((((nar .byte ((want.toUInt32 >>> ((8 : Int32) &&& 31).toUInt32).toInt32).toInt8.toInt32) &&& (255 : Int32)) <<< ((8 : Int32) &&& 31)) ||| ((nar .byte want.toInt8.toInt32) &&& (255 : Int32))))])) t := fun t k => by
      refine XS.iload X77.here hx rfl (hb hby at_123) rfl ?_
      show Steps p.tables e below (T77.setTop (mkF m 125 #[.val (.int p0), .val (.int p1), .val (.int p2), .val (.int p3), .val (.int want), .val (.int (8 : Int32)), .val (.ref b52)] [(.int want), (.int ((((nar .byte ((want.toUInt32 >>> ((8 : Int32) &&& 31).toUInt32).toInt32).toInt8.toInt32) &&& (255 : Int32)) <<< ((8 : Int32) &&& 31)) ||| ((nar .byte want.toInt8.toInt32) &&& (255 : Int32))))])) _
      refine XS.icmpNo X77.here hx rfl (hb hby at_125) rfl (teq (own_id want rw0 _ _ rfl rfl)).2 ?_
      show Steps p.tables e below (T77.setTop (mkF m 128 #[.val (.int p0), .val (.int p1), .val (.int p2), .val (.int p3), .val (.int want), .val (.int (8 : Int32)), .val (.ref b52)] [])) _
      refine XS.iconst X77.here hx rfl (hb hby at_128) ?_
      show Steps p.tables e below (T77.setTop (mkF m 129 #[.val (.int p0), .val (.int p1), .val (.int p2), .val (.int p3), .val (.int want), .val (.int (8 : Int32)), .val (.ref b52)] [(.int (1 : Int32))])) _
      refine XS.goto X77.here hx rfl (pc0 := 129) (pc' := 133) rfl (hb hby at_129) (by decide) (by decide) ?_
      show Steps p.tables e below (T77.setTop (mkF m 133 #[.val (.int p0), .val (.int p1), .val (.int p2), .val (.int p3), .val (.int want), .val (.int (8 : Int32)), .val (.ref b52)] [(.int (1 : Int32))])) _
      exact k
    refine own_go k79 ?_
    clear k79
    obtain ⟨fs, hr, hrun, hended, hW, hsame⟩ := X77.leave (v := some (.int (nar .boolean (1 : Int32)))) (fun h => by rw [Bd.returns] at h; cases h)
    refine ⟨_, _, retN X77 hx (t := .boolean) Bd.returns (by simp) (hb hby at_133) hr, hPf _ _ ⟨hrun, hended, _, _, rfl, ?_, ⟨_, rfl⟩, hW, hsame.mono (by decide) (by decide)⟩⟩
    show own_Q_law Z p0 p1 p2 p3 h0 n0 _ T77.heap _
    rw [eh77]
    exact ⟨rfl, N77⟩
  · subst hl
    have k80 : ∀ t, Steps p.tables e below (s₁.setTop (mkF m 16 #[.val (.int p0), .val (.int p1), .val (.int p2), .val (.int p3), .val (.int want), .val (.int (9 : Int32)), .unset] [(.int (9 : Int32))])) t → Steps p.tables e below (s₁.setTop (mkF m 14 #[.val (.int p0), .val (.int p1), .val (.int p2), .val (.int p3), .val (.int want), .val (.int (9 : Int32)), .unset] [])) t := fun t k => by
      refine XS.iload X0.here hx rfl (hb hby at_14) rfl ?_
      show Steps p.tables e below (s₁.setTop (mkF m 16 #[.val (.int p0), .val (.int p1), .val (.int p2), .val (.int p3), .val (.int want), .val (.int (9 : Int32)), .unset] [(.int (9 : Int32))])) _
      exact k
    refine own_go k80 ?_
    clear k80
    obtain ⟨T81, h81, k81, X81, e81, E81, A81, st81⟩ := newP X0 hx hZ (hw _ (List.mem_of_getElem? (i := 1) rfl)) e0 (g := (mkF m 16 #[.val (.int p0), .val (.int p1), .val (.int p2), .val (.int p3), .val (.int want), .val (.int (9 : Int32)), .unset] [(.int (9 : Int32))])) rfl (hb hby at_16) rfl (by decide) (cap := 9) (by decide) (by decide) (by decide) (by decide)
    obtain ⟨b81, g81⟩ : ∃ z, z = h0.size := ⟨_, rfl⟩
    rw [← g81] at A81 st81
    refine own_go st81 ?_
    have g_b81 : n0 ≤ b81 := Nat.le_trans Z0 (Nat.le_of_eq g81.symm)
    have Z81 : n0 ≤ h81.size := Nat.le_trans Z0 E81.1
    have V81 : Arv Z h81 b81 k81 .byte (9 : Int32) [(.int (0 : Int32)), (.int (0 : Int32)), (.int (0 : Int32)), (.int (0 : Int32)), (.int (0 : Int32)), (.int (0 : Int32)), (.int (0 : Int32)), (.int (0 : Int32)), (.int (0 : Int32))] (.int (0 : Int32)) := (Arv.new A81 (by decide)).pad (pad_rep [] (.int (0 : Int32)) 9)
    have k82 : ∀ t, Steps p.tables e below (T81.setTop (mkF m 28 #[.val (.int p0), .val (.int p1), .val (.int p2), .val (.int p3), .val (.int want), .val (.int (9 : Int32)), .val (.ref b81)] [(.int ((p1.toUInt32 >>> ((24 : Int32) &&& 31).toUInt32).toInt32).toInt8.toInt32), (.int (0 : Int32)), (.ref b81)])) t → Steps p.tables e below (T81.setTop (mkF m 18 #[.val (.int p0), .val (.int p1), .val (.int p2), .val (.int p3), .val (.int want), .val (.int (9 : Int32)), .unset] [(.ref b81)])) t := fun t k => by
      refine XS.astore X81.here hx rfl (hb hby at_18) rfl rfl (l' := #[.val (.int p0), .val (.int p1), .val (.int p2), .val (.int p3), .val (.int want), .val (.int (9 : Int32)), .val (.ref b81)]) rfl ?_
      show Steps p.tables e below (T81.setTop (mkF m 20 #[.val (.int p0), .val (.int p1), .val (.int p2), .val (.int p3), .val (.int want), .val (.int (9 : Int32)), .val (.ref b81)] [])) _
      refine XS.aload X81.here hx rfl (hb hby at_20) rfl rfl ?_
      show Steps p.tables e below (T81.setTop (mkF m 22 #[.val (.int p0), .val (.int p1), .val (.int p2), .val (.int p3), .val (.int want), .val (.int (9 : Int32)), .val (.ref b81)] [(.ref b81)])) _
      refine XS.iconst X81.here hx rfl (hb hby at_22) ?_
      show Steps p.tables e below (T81.setTop (mkF m 23 #[.val (.int p0), .val (.int p1), .val (.int p2), .val (.int p3), .val (.int want), .val (.int (9 : Int32)), .val (.ref b81)] [(.int (0 : Int32)), (.ref b81)])) _
      refine XS.iloadN X81.here hx rfl (hb hby at_23) rfl ?_
      show Steps p.tables e below (T81.setTop (mkF m 24 #[.val (.int p0), .val (.int p1), .val (.int p2), .val (.int p3), .val (.int want), .val (.int (9 : Int32)), .val (.ref b81)] [(.int p1), (.int (0 : Int32)), (.ref b81)])) _
      refine XS.bipush X81.here hx rfl (hb hby at_24) ?_
      show Steps p.tables e below (T81.setTop (mkF m 26 #[.val (.int p0), .val (.int p1), .val (.int p2), .val (.int p3), .val (.int want), .val (.int (9 : Int32)), .val (.ref b81)] [(.int (24 : Int32)), (.int p1), (.int (0 : Int32)), (.ref b81)])) _
      refine XS.iushr X81.here hx rfl (hb hby at_26) rfl ?_
      show Steps p.tables e below (T81.setTop (mkF m 27 #[.val (.int p0), .val (.int p1), .val (.int p2), .val (.int p3), .val (.int want), .val (.int (9 : Int32)), .val (.ref b81)] [(.int ((p1.toUInt32 >>> ((24 : Int32) &&& 31).toUInt32).toInt32)), (.int (0 : Int32)), (.ref b81)])) _
      refine XS.i2b X81.here hx rfl (hb hby at_27) rfl ?_
      show Steps p.tables e below (T81.setTop (mkF m 28 #[.val (.int p0), .val (.int p1), .val (.int p2), .val (.int p3), .val (.int want), .val (.int (9 : Int32)), .val (.ref b81)] [(.int ((p1.toUInt32 >>> ((24 : Int32) &&& 31).toUInt32).toInt32).toInt8.toInt32), (.int (0 : Int32)), (.ref b81)])) _
      exact k
    refine own_go k82 ?_
    clear k82
    obtain ⟨cl83, Ar83, q83, S83, N83, H83, G83⟩ := id (V81)
    have hi83 : ¬ ((0 : Int32) < 0 ∨ cl83.slots.size ≤ ((0 : Int32)).toNatClampNeg) := inb_of S83 ⟨by decide, by decide⟩
    obtain ⟨T84, h84, X84, e84, W84, st84⟩ := stB X81 hx hZ e81 Ar83 (j := (0 : Int32)) hi83 (g := (mkF m 28 #[.val (.int p0), .val (.int p1), .val (.int p2), .val (.int p3), .val (.int want), .val (.int (9 : Int32)), .val (.ref b81)] [(.int ((p1.toUInt32 >>> ((24 : Int32) &&& 31).toUInt32).toInt32).toInt8.toInt32), (.int (0 : Int32)), (.ref b81)])) rfl rfl (hb hby at_28)
    refine own_go st84 ?_
    have V84 : Arv Z h84 b81 k81 .byte (9 : Int32) [(.int (nar .byte ((p1.toUInt32 >>> ((24 : Int32) &&& 31).toUInt32).toInt32).toInt8.toInt32)), (.int (0 : Int32)), (.int (0 : Int32)), (.int (0 : Int32)), (.int (0 : Int32)), (.int (0 : Int32)), (.int (0 : Int32)), (.int (0 : Int32)), (.int (0 : Int32))] (.int (0 : Int32)) := Arv.set Ar83 q83 S83 N83 H83 G83 (fits_nar_byte _) W84 0 rfl (Nat.le_of_ble_eq_true rfl)
    have f84_0 : Arv Z h84 b81 k81 .byte (9 : Int32) [(.int (nar .byte ((p1.toUInt32 >>> ((24 : Int32) &&& 31).toUInt32).toInt32).toInt8.toInt32)), (.int (0 : Int32)), (.int (0 : Int32)), (.int (0 : Int32)), (.int (0 : Int32)), (.int (0 : Int32)), (.int (0 : Int32)), (.int (0 : Int32)), (.int (0 : Int32))] (.int (0 : Int32)) := V84
    have N84 := Fr.snoc X84 N0 g_b81
    have Z84 : n0 ≤ h84.size := Nat.le_trans Z81 (Keep.of_wr W84).1
    have k85 : ∀ t, Steps p.tables e below (T84.setTop (mkF m 37 #[.val (.int p0), .val (.int p1), .val (.int p2), .val (.int p3), .val (.int want), .val (.int (9 : Int32)), .val (.ref b81)] [(.int ((p1.toUInt32 >>> ((16 : Int32) &&& 31).toUInt32).toInt32).toInt8.toInt32), (.int (1 : Int32)), (.ref b81)])) t → Steps p.tables e below (T84.setTop (mkF m 29 #[.val (.int p0), .val (.int p1), .val (.int p2), .val (.int p3), .val (.int want), .val (.int (9 : Int32)), .val (.ref b81)] [])) t := fun t k => by
      refine XS.aload X84.here hx rfl (hb hby at_29) rfl rfl ?_
      show Steps p.tables e below (T84.setTop (mkF m 31 #[.val (.int p0), .val (.int p1), .val (.int p2), .val (.int p3), .val (.int want), .val (.int (9 : Int32)), .val (.ref b81)] [(.ref b81)])) _
      refine XS.iconst X84.here hx rfl (hb hby at_31) ?_
      show Steps p.tables e below (T84.setTop (mkF m 32 #[.val (.int p0), .val (.int p1), .val (.int p2), .val (.int p3), .val (.int want), .val (.int (9 : Int32)), .val (.ref b81)] [(.int (1 : Int32)), (.ref b81)])) _
      refine XS.iloadN X84.here hx rfl (hb hby at_32) rfl ?_
      show Steps p.tables e below (T84.setTop (mkF m 33 #[.val (.int p0), .val (.int p1), .val (.int p2), .val (.int p3), .val (.int want), .val (.int (9 : Int32)), .val (.ref b81)] [(.int p1), (.int (1 : Int32)), (.ref b81)])) _
      refine XS.bipush X84.here hx rfl (hb hby at_33) ?_
      show Steps p.tables e below (T84.setTop (mkF m 35 #[.val (.int p0), .val (.int p1), .val (.int p2), .val (.int p3), .val (.int want), .val (.int (9 : Int32)), .val (.ref b81)] [(.int (16 : Int32)), (.int p1), (.int (1 : Int32)), (.ref b81)])) _
      refine XS.iushr X84.here hx rfl (hb hby at_35) rfl ?_
      show Steps p.tables e below (T84.setTop (mkF m 36 #[.val (.int p0), .val (.int p1), .val (.int p2), .val (.int p3), .val (.int want), .val (.int (9 : Int32)), .val (.ref b81)] [(.int ((p1.toUInt32 >>> ((16 : Int32) &&& 31).toUInt32).toInt32)), (.int (1 : Int32)), (.ref b81)])) _
      refine XS.i2b X84.here hx rfl (hb hby at_36) rfl ?_
      show Steps p.tables e below (T84.setTop (mkF m 37 #[.val (.int p0), .val (.int p1), .val (.int p2), .val (.int p3), .val (.int want), .val (.int (9 : Int32)), .val (.ref b81)] [(.int ((p1.toUInt32 >>> ((16 : Int32) &&& 31).toUInt32).toInt32).toInt8.toInt32), (.int (1 : Int32)), (.ref b81)])) _
      exact k
    refine own_go k85 ?_
    clear k85
    obtain ⟨cl86, Ar86, q86, S86, N86, H86, G86⟩ := id (f84_0)
    have hi86 : ¬ ((1 : Int32) < 0 ∨ cl86.slots.size ≤ ((1 : Int32)).toNatClampNeg) := inb_of S86 ⟨by decide, by decide⟩
    obtain ⟨T87, h87, X87, e87, W87, st87⟩ := stB X84 hx hZ e84 Ar86 (j := (1 : Int32)) hi86 (g := (mkF m 37 #[.val (.int p0), .val (.int p1), .val (.int p2), .val (.int p3), .val (.int want), .val (.int (9 : Int32)), .val (.ref b81)] [(.int ((p1.toUInt32 >>> ((16 : Int32) &&& 31).toUInt32).toInt32).toInt8.toInt32), (.int (1 : Int32)), (.ref b81)])) rfl rfl (hb hby at_37)
    refine own_go st87 ?_
    have V87 : Arv Z h87 b81 k81 .byte (9 : Int32) [(.int (nar .byte ((p1.toUInt32 >>> ((24 : Int32) &&& 31).toUInt32).toInt32).toInt8.toInt32)), (.int (nar .byte ((p1.toUInt32 >>> ((16 : Int32) &&& 31).toUInt32).toInt32).toInt8.toInt32)), (.int (0 : Int32)), (.int (0 : Int32)), (.int (0 : Int32)), (.int (0 : Int32)), (.int (0 : Int32)), (.int (0 : Int32)), (.int (0 : Int32))] (.int (0 : Int32)) := Arv.set Ar86 q86 S86 N86 H86 G86 (fits_nar_byte _) W87 1 rfl (Nat.le_of_ble_eq_true rfl)
    have f87_0 : Arv Z h87 b81 k81 .byte (9 : Int32) [(.int (nar .byte ((p1.toUInt32 >>> ((24 : Int32) &&& 31).toUInt32).toInt32).toInt8.toInt32)), (.int (nar .byte ((p1.toUInt32 >>> ((16 : Int32) &&& 31).toUInt32).toInt32).toInt8.toInt32)), (.int (0 : Int32)), (.int (0 : Int32)), (.int (0 : Int32)), (.int (0 : Int32)), (.int (0 : Int32)), (.int (0 : Int32)), (.int (0 : Int32))] (.int (0 : Int32)) := V87
    have N87 := Fr.snoc X87 N84 g_b81
    have Z87 : n0 ≤ h87.size := Nat.le_trans Z84 (Keep.of_wr W87).1
    have k88 : ∀ t, Steps p.tables e below (T87.setTop (mkF m 46 #[.val (.int p0), .val (.int p1), .val (.int p2), .val (.int p3), .val (.int want), .val (.int (9 : Int32)), .val (.ref b81)] [(.int ((p1.toUInt32 >>> ((8 : Int32) &&& 31).toUInt32).toInt32).toInt8.toInt32), (.int (2 : Int32)), (.ref b81)])) t → Steps p.tables e below (T87.setTop (mkF m 38 #[.val (.int p0), .val (.int p1), .val (.int p2), .val (.int p3), .val (.int want), .val (.int (9 : Int32)), .val (.ref b81)] [])) t := fun t k => by
      refine XS.aload X87.here hx rfl (hb hby at_38) rfl rfl ?_
      show Steps p.tables e below (T87.setTop (mkF m 40 #[.val (.int p0), .val (.int p1), .val (.int p2), .val (.int p3), .val (.int want), .val (.int (9 : Int32)), .val (.ref b81)] [(.ref b81)])) _
      refine XS.iconst X87.here hx rfl (hb hby at_40) ?_
      show Steps p.tables e below (T87.setTop (mkF m 41 #[.val (.int p0), .val (.int p1), .val (.int p2), .val (.int p3), .val (.int want), .val (.int (9 : Int32)), .val (.ref b81)] [(.int (2 : Int32)), (.ref b81)])) _
      refine XS.iloadN X87.here hx rfl (hb hby at_41) rfl ?_
      show Steps p.tables e below (T87.setTop (mkF m 42 #[.val (.int p0), .val (.int p1), .val (.int p2), .val (.int p3), .val (.int want), .val (.int (9 : Int32)), .val (.ref b81)] [(.int p1), (.int (2 : Int32)), (.ref b81)])) _
      refine XS.bipush X87.here hx rfl (hb hby at_42) ?_
      show Steps p.tables e below (T87.setTop (mkF m 44 #[.val (.int p0), .val (.int p1), .val (.int p2), .val (.int p3), .val (.int want), .val (.int (9 : Int32)), .val (.ref b81)] [(.int (8 : Int32)), (.int p1), (.int (2 : Int32)), (.ref b81)])) _
      refine XS.iushr X87.here hx rfl (hb hby at_44) rfl ?_
      show Steps p.tables e below (T87.setTop (mkF m 45 #[.val (.int p0), .val (.int p1), .val (.int p2), .val (.int p3), .val (.int want), .val (.int (9 : Int32)), .val (.ref b81)] [(.int ((p1.toUInt32 >>> ((8 : Int32) &&& 31).toUInt32).toInt32)), (.int (2 : Int32)), (.ref b81)])) _
      refine XS.i2b X87.here hx rfl (hb hby at_45) rfl ?_
      show Steps p.tables e below (T87.setTop (mkF m 46 #[.val (.int p0), .val (.int p1), .val (.int p2), .val (.int p3), .val (.int want), .val (.int (9 : Int32)), .val (.ref b81)] [(.int ((p1.toUInt32 >>> ((8 : Int32) &&& 31).toUInt32).toInt32).toInt8.toInt32), (.int (2 : Int32)), (.ref b81)])) _
      exact k
    refine own_go k88 ?_
    clear k88
    obtain ⟨cl89, Ar89, q89, S89, N89, H89, G89⟩ := id (f87_0)
    have hi89 : ¬ ((2 : Int32) < 0 ∨ cl89.slots.size ≤ ((2 : Int32)).toNatClampNeg) := inb_of S89 ⟨by decide, by decide⟩
    obtain ⟨T90, h90, X90, e90, W90, st90⟩ := stB X87 hx hZ e87 Ar89 (j := (2 : Int32)) hi89 (g := (mkF m 46 #[.val (.int p0), .val (.int p1), .val (.int p2), .val (.int p3), .val (.int want), .val (.int (9 : Int32)), .val (.ref b81)] [(.int ((p1.toUInt32 >>> ((8 : Int32) &&& 31).toUInt32).toInt32).toInt8.toInt32), (.int (2 : Int32)), (.ref b81)])) rfl rfl (hb hby at_46)
    refine own_go st90 ?_
    have V90 : Arv Z h90 b81 k81 .byte (9 : Int32) [(.int (nar .byte ((p1.toUInt32 >>> ((24 : Int32) &&& 31).toUInt32).toInt32).toInt8.toInt32)), (.int (nar .byte ((p1.toUInt32 >>> ((16 : Int32) &&& 31).toUInt32).toInt32).toInt8.toInt32)), (.int (nar .byte ((p1.toUInt32 >>> ((8 : Int32) &&& 31).toUInt32).toInt32).toInt8.toInt32)), (.int (0 : Int32)), (.int (0 : Int32)), (.int (0 : Int32)), (.int (0 : Int32)), (.int (0 : Int32)), (.int (0 : Int32))] (.int (0 : Int32)) := Arv.set Ar89 q89 S89 N89 H89 G89 (fits_nar_byte _) W90 2 rfl (Nat.le_of_ble_eq_true rfl)
    have f90_0 : Arv Z h90 b81 k81 .byte (9 : Int32) [(.int (nar .byte ((p1.toUInt32 >>> ((24 : Int32) &&& 31).toUInt32).toInt32).toInt8.toInt32)), (.int (nar .byte ((p1.toUInt32 >>> ((16 : Int32) &&& 31).toUInt32).toInt32).toInt8.toInt32)), (.int (nar .byte ((p1.toUInt32 >>> ((8 : Int32) &&& 31).toUInt32).toInt32).toInt8.toInt32)), (.int (0 : Int32)), (.int (0 : Int32)), (.int (0 : Int32)), (.int (0 : Int32)), (.int (0 : Int32)), (.int (0 : Int32))] (.int (0 : Int32)) := V90
    have N90 := Fr.snoc X90 N87 g_b81
    have Z90 : n0 ≤ h90.size := Nat.le_trans Z87 (Keep.of_wr W90).1
    have k91 : ∀ t, Steps p.tables e below (T90.setTop (mkF m 52 #[.val (.int p0), .val (.int p1), .val (.int p2), .val (.int p3), .val (.int want), .val (.int (9 : Int32)), .val (.ref b81)] [(.int p1.toInt8.toInt32), (.int (3 : Int32)), (.ref b81)])) t → Steps p.tables e below (T90.setTop (mkF m 47 #[.val (.int p0), .val (.int p1), .val (.int p2), .val (.int p3), .val (.int want), .val (.int (9 : Int32)), .val (.ref b81)] [])) t := fun t k => by
      refine XS.aload X90.here hx rfl (hb hby at_47) rfl rfl ?_
      show Steps p.tables e below (T90.setTop (mkF m 49 #[.val (.int p0), .val (.int p1), .val (.int p2), .val (.int p3), .val (.int want), .val (.int (9 : Int32)), .val (.ref b81)] [(.ref b81)])) _
      refine XS.iconst X90.here hx rfl (hb hby at_49) ?_
      show Steps p.tables e below (T90.setTop (mkF m 50 #[.val (.int p0), .val (.int p1), .val (.int p2), .val (.int p3), .val (.int want), .val (.int (9 : Int32)), .val (.ref b81)] [(.int (3 : Int32)), (.ref b81)])) _
      refine XS.iloadN X90.here hx rfl (hb hby at_50) rfl ?_
      show Steps p.tables e below (T90.setTop (mkF m 51 #[.val (.int p0), .val (.int p1), .val (.int p2), .val (.int p3), .val (.int want), .val (.int (9 : Int32)), .val (.ref b81)] [(.int p1), (.int (3 : Int32)), (.ref b81)])) _
      refine XS.i2b X90.here hx rfl (hb hby at_51) rfl ?_
      show Steps p.tables e below (T90.setTop (mkF m 52 #[.val (.int p0), .val (.int p1), .val (.int p2), .val (.int p3), .val (.int want), .val (.int (9 : Int32)), .val (.ref b81)] [(.int p1.toInt8.toInt32), (.int (3 : Int32)), (.ref b81)])) _
      exact k
    refine own_go k91 ?_
    clear k91
    obtain ⟨cl92, Ar92, q92, S92, N92, H92, G92⟩ := id (f90_0)
    have hi92 : ¬ ((3 : Int32) < 0 ∨ cl92.slots.size ≤ ((3 : Int32)).toNatClampNeg) := inb_of S92 ⟨by decide, by decide⟩
    obtain ⟨T93, h93, X93, e93, W93, st93⟩ := stB X90 hx hZ e90 Ar92 (j := (3 : Int32)) hi92 (g := (mkF m 52 #[.val (.int p0), .val (.int p1), .val (.int p2), .val (.int p3), .val (.int want), .val (.int (9 : Int32)), .val (.ref b81)] [(.int p1.toInt8.toInt32), (.int (3 : Int32)), (.ref b81)])) rfl rfl (hb hby at_52)
    refine own_go st93 ?_
    have V93 : Arv Z h93 b81 k81 .byte (9 : Int32) [(.int (nar .byte ((p1.toUInt32 >>> ((24 : Int32) &&& 31).toUInt32).toInt32).toInt8.toInt32)), (.int (nar .byte ((p1.toUInt32 >>> ((16 : Int32) &&& 31).toUInt32).toInt32).toInt8.toInt32)), (.int (nar .byte ((p1.toUInt32 >>> ((8 : Int32) &&& 31).toUInt32).toInt32).toInt8.toInt32)), (.int (nar .byte p1.toInt8.toInt32)), (.int (0 : Int32)), (.int (0 : Int32)), (.int (0 : Int32)), (.int (0 : Int32)), (.int (0 : Int32))] (.int (0 : Int32)) := Arv.set Ar92 q92 S92 N92 H92 G92 (fits_nar_byte _) W93 3 rfl (Nat.le_of_ble_eq_true rfl)
    have f93_0 : Arv Z h93 b81 k81 .byte (9 : Int32) [(.int (nar .byte ((p1.toUInt32 >>> ((24 : Int32) &&& 31).toUInt32).toInt32).toInt8.toInt32)), (.int (nar .byte ((p1.toUInt32 >>> ((16 : Int32) &&& 31).toUInt32).toInt32).toInt8.toInt32)), (.int (nar .byte ((p1.toUInt32 >>> ((8 : Int32) &&& 31).toUInt32).toInt32).toInt8.toInt32)), (.int (nar .byte p1.toInt8.toInt32)), (.int (0 : Int32)), (.int (0 : Int32)), (.int (0 : Int32)), (.int (0 : Int32)), (.int (0 : Int32))] (.int (0 : Int32)) := V93
    have N93 := Fr.snoc X93 N90 g_b81
    have Z93 : n0 ≤ h93.size := Nat.le_trans Z90 (Keep.of_wr W93).1
    have k94 : ∀ t, Steps p.tables e below (T93.setTop (mkF m 62 #[.val (.int p0), .val (.int p1), .val (.int p2), .val (.int p3), .val (.int want), .val (.int (9 : Int32)), .val (.ref b81)] [(.int ((want.toUInt32 >>> ((8 : Int32) &&& 31).toUInt32).toInt32).toInt8.toInt32), (.int (4 : Int32)), (.ref b81)])) t → Steps p.tables e below (T93.setTop (mkF m 53 #[.val (.int p0), .val (.int p1), .val (.int p2), .val (.int p3), .val (.int want), .val (.int (9 : Int32)), .val (.ref b81)] [])) t := fun t k => by
      refine XS.aload X93.here hx rfl (hb hby at_53) rfl rfl ?_
      show Steps p.tables e below (T93.setTop (mkF m 55 #[.val (.int p0), .val (.int p1), .val (.int p2), .val (.int p3), .val (.int want), .val (.int (9 : Int32)), .val (.ref b81)] [(.ref b81)])) _
      refine XS.iconst X93.here hx rfl (hb hby at_55) ?_
      show Steps p.tables e below (T93.setTop (mkF m 56 #[.val (.int p0), .val (.int p1), .val (.int p2), .val (.int p3), .val (.int want), .val (.int (9 : Int32)), .val (.ref b81)] [(.int (4 : Int32)), (.ref b81)])) _
      refine XS.iload X93.here hx rfl (hb hby at_56) rfl ?_
      show Steps p.tables e below (T93.setTop (mkF m 58 #[.val (.int p0), .val (.int p1), .val (.int p2), .val (.int p3), .val (.int want), .val (.int (9 : Int32)), .val (.ref b81)] [(.int want), (.int (4 : Int32)), (.ref b81)])) _
      refine XS.bipush X93.here hx rfl (hb hby at_58) ?_
      show Steps p.tables e below (T93.setTop (mkF m 60 #[.val (.int p0), .val (.int p1), .val (.int p2), .val (.int p3), .val (.int want), .val (.int (9 : Int32)), .val (.ref b81)] [(.int (8 : Int32)), (.int want), (.int (4 : Int32)), (.ref b81)])) _
      refine XS.iushr X93.here hx rfl (hb hby at_60) rfl ?_
      show Steps p.tables e below (T93.setTop (mkF m 61 #[.val (.int p0), .val (.int p1), .val (.int p2), .val (.int p3), .val (.int want), .val (.int (9 : Int32)), .val (.ref b81)] [(.int ((want.toUInt32 >>> ((8 : Int32) &&& 31).toUInt32).toInt32)), (.int (4 : Int32)), (.ref b81)])) _
      refine XS.i2b X93.here hx rfl (hb hby at_61) rfl ?_
      show Steps p.tables e below (T93.setTop (mkF m 62 #[.val (.int p0), .val (.int p1), .val (.int p2), .val (.int p3), .val (.int want), .val (.int (9 : Int32)), .val (.ref b81)] [(.int ((want.toUInt32 >>> ((8 : Int32) &&& 31).toUInt32).toInt32).toInt8.toInt32), (.int (4 : Int32)), (.ref b81)])) _
      exact k
    refine own_go k94 ?_
    clear k94
    obtain ⟨cl95, Ar95, q95, S95, N95, H95, G95⟩ := id (f93_0)
    have hi95 : ¬ ((4 : Int32) < 0 ∨ cl95.slots.size ≤ ((4 : Int32)).toNatClampNeg) := inb_of S95 ⟨by decide, by decide⟩
    obtain ⟨T96, h96, X96, e96, W96, st96⟩ := stB X93 hx hZ e93 Ar95 (j := (4 : Int32)) hi95 (g := (mkF m 62 #[.val (.int p0), .val (.int p1), .val (.int p2), .val (.int p3), .val (.int want), .val (.int (9 : Int32)), .val (.ref b81)] [(.int ((want.toUInt32 >>> ((8 : Int32) &&& 31).toUInt32).toInt32).toInt8.toInt32), (.int (4 : Int32)), (.ref b81)])) rfl rfl (hb hby at_62)
    refine own_go st96 ?_
    have V96 : Arv Z h96 b81 k81 .byte (9 : Int32) [(.int (nar .byte ((p1.toUInt32 >>> ((24 : Int32) &&& 31).toUInt32).toInt32).toInt8.toInt32)), (.int (nar .byte ((p1.toUInt32 >>> ((16 : Int32) &&& 31).toUInt32).toInt32).toInt8.toInt32)), (.int (nar .byte ((p1.toUInt32 >>> ((8 : Int32) &&& 31).toUInt32).toInt32).toInt8.toInt32)), (.int (nar .byte p1.toInt8.toInt32)), (.int (nar .byte ((want.toUInt32 >>> ((8 : Int32) &&& 31).toUInt32).toInt32).toInt8.toInt32)), (.int (0 : Int32)), (.int (0 : Int32)), (.int (0 : Int32)), (.int (0 : Int32))] (.int (0 : Int32)) := Arv.set Ar95 q95 S95 N95 H95 G95 (fits_nar_byte _) W96 4 rfl (Nat.le_of_ble_eq_true rfl)
    have f96_0 : Arv Z h96 b81 k81 .byte (9 : Int32) [(.int (nar .byte ((p1.toUInt32 >>> ((24 : Int32) &&& 31).toUInt32).toInt32).toInt8.toInt32)), (.int (nar .byte ((p1.toUInt32 >>> ((16 : Int32) &&& 31).toUInt32).toInt32).toInt8.toInt32)), (.int (nar .byte ((p1.toUInt32 >>> ((8 : Int32) &&& 31).toUInt32).toInt32).toInt8.toInt32)), (.int (nar .byte p1.toInt8.toInt32)), (.int (nar .byte ((want.toUInt32 >>> ((8 : Int32) &&& 31).toUInt32).toInt32).toInt8.toInt32)), (.int (0 : Int32)), (.int (0 : Int32)), (.int (0 : Int32)), (.int (0 : Int32))] (.int (0 : Int32)) := V96
    have N96 := Fr.snoc X96 N93 g_b81
    have Z96 : n0 ≤ h96.size := Nat.le_trans Z93 (Keep.of_wr W96).1
    have k97 : ∀ t, Steps p.tables e below (T96.setTop (mkF m 69 #[.val (.int p0), .val (.int p1), .val (.int p2), .val (.int p3), .val (.int want), .val (.int (9 : Int32)), .val (.ref b81)] [(.int want.toInt8.toInt32), (.int (5 : Int32)), (.ref b81)])) t → Steps p.tables e below (T96.setTop (mkF m 63 #[.val (.int p0), .val (.int p1), .val (.int p2), .val (.int p3), .val (.int want), .val (.int (9 : Int32)), .val (.ref b81)] [])) t := fun t k => by
      refine XS.aload X96.here hx rfl (hb hby at_63) rfl rfl ?_
      show Steps p.tables e below (T96.setTop (mkF m 65 #[.val (.int p0), .val (.int p1), .val (.int p2), .val (.int p3), .val (.int want), .val (.int (9 : Int32)), .val (.ref b81)] [(.ref b81)])) _
      refine XS.iconst X96.here hx rfl (hb hby at_65) ?_
      show Steps p.tables e below (T96.setTop (mkF m 66 #[.val (.int p0), .val (.int p1), .val (.int p2), .val (.int p3), .val (.int want), .val (.int (9 : Int32)), .val (.ref b81)] [(.int (5 : Int32)), (.ref b81)])) _
      refine XS.iload X96.here hx rfl (hb hby at_66) rfl ?_
      show Steps p.tables e below (T96.setTop (mkF m 68 #[.val (.int p0), .val (.int p1), .val (.int p2), .val (.int p3), .val (.int want), .val (.int (9 : Int32)), .val (.ref b81)] [(.int want), (.int (5 : Int32)), (.ref b81)])) _
      refine XS.i2b X96.here hx rfl (hb hby at_68) rfl ?_
      show Steps p.tables e below (T96.setTop (mkF m 69 #[.val (.int p0), .val (.int p1), .val (.int p2), .val (.int p3), .val (.int want), .val (.int (9 : Int32)), .val (.ref b81)] [(.int want.toInt8.toInt32), (.int (5 : Int32)), (.ref b81)])) _
      exact k
    refine own_go k97 ?_
    clear k97
    obtain ⟨cl98, Ar98, q98, S98, N98, H98, G98⟩ := id (f96_0)
    have hi98 : ¬ ((5 : Int32) < 0 ∨ cl98.slots.size ≤ ((5 : Int32)).toNatClampNeg) := inb_of S98 ⟨by decide, by decide⟩
    obtain ⟨T99, h99, X99, e99, W99, st99⟩ := stB X96 hx hZ e96 Ar98 (j := (5 : Int32)) hi98 (g := (mkF m 69 #[.val (.int p0), .val (.int p1), .val (.int p2), .val (.int p3), .val (.int want), .val (.int (9 : Int32)), .val (.ref b81)] [(.int want.toInt8.toInt32), (.int (5 : Int32)), (.ref b81)])) rfl rfl (hb hby at_69)
    refine own_go st99 ?_
    have V99 : Arv Z h99 b81 k81 .byte (9 : Int32) [(.int (nar .byte ((p1.toUInt32 >>> ((24 : Int32) &&& 31).toUInt32).toInt32).toInt8.toInt32)), (.int (nar .byte ((p1.toUInt32 >>> ((16 : Int32) &&& 31).toUInt32).toInt32).toInt8.toInt32)), (.int (nar .byte ((p1.toUInt32 >>> ((8 : Int32) &&& 31).toUInt32).toInt32).toInt8.toInt32)), (.int (nar .byte p1.toInt8.toInt32)), (.int (nar .byte ((want.toUInt32 >>> ((8 : Int32) &&& 31).toUInt32).toInt32).toInt8.toInt32)), (.int (nar .byte want.toInt8.toInt32)), (.int (0 : Int32)), (.int (0 : Int32)), (.int (0 : Int32))] (.int (0 : Int32)) := Arv.set Ar98 q98 S98 N98 H98 G98 (fits_nar_byte _) W99 5 rfl (Nat.le_of_ble_eq_true rfl)
    have f99_0 : Arv Z h99 b81 k81 .byte (9 : Int32) [(.int (nar .byte ((p1.toUInt32 >>> ((24 : Int32) &&& 31).toUInt32).toInt32).toInt8.toInt32)), (.int (nar .byte ((p1.toUInt32 >>> ((16 : Int32) &&& 31).toUInt32).toInt32).toInt8.toInt32)), (.int (nar .byte ((p1.toUInt32 >>> ((8 : Int32) &&& 31).toUInt32).toInt32).toInt8.toInt32)), (.int (nar .byte p1.toInt8.toInt32)), (.int (nar .byte ((want.toUInt32 >>> ((8 : Int32) &&& 31).toUInt32).toInt32).toInt8.toInt32)), (.int (nar .byte want.toInt8.toInt32)), (.int (0 : Int32)), (.int (0 : Int32)), (.int (0 : Int32))] (.int (0 : Int32)) := V99
    have N99 := Fr.snoc X99 N96 g_b81
    have Z99 : n0 ≤ h99.size := Nat.le_trans Z96 (Keep.of_wr W99).1
    have k100 : ∀ t, Steps p.tables e below (T99.setTop (mkF m 83 #[.val (.int p0), .val (.int p1), .val (.int p2), .val (.int p3), .val (.int want), .val (.int (9 : Int32)), .val (.ref b81)] [(.int p2.toInt8.toInt32), (.int (6 : Int32)), (.ref b81)])) t → Steps p.tables e below (T99.setTop (mkF m 70 #[.val (.int p0), .val (.int p1), .val (.int p2), .val (.int p3), .val (.int want), .val (.int (9 : Int32)), .val (.ref b81)] [])) t := fun t k => by
      refine XS.iload X99.here hx rfl (hb hby at_70) rfl ?_
      show Steps p.tables e below (T99.setTop (mkF m 72 #[.val (.int p0), .val (.int p1), .val (.int p2), .val (.int p3), .val (.int want), .val (.int (9 : Int32)), .val (.ref b81)] [(.int (9 : Int32))])) _
      refine XS.bipush X99.here hx rfl (hb hby at_72) ?_
      show Steps p.tables e below (T99.setTop (mkF m 74 #[.val (.int p0), .val (.int p1), .val (.int p2), .val (.int p3), .val (.int want), .val (.int (9 : Int32)), .val (.ref b81)] [(.int (6 : Int32)), (.int (9 : Int32))])) _
      refine XS.icmpNo X99.here hx rfl (hb hby at_74) rfl (tlt (by decide : (6 : Int32) < (9 : Int32))).2.2.2 ?_
      show Steps p.tables e below (T99.setTop (mkF m 77 #[.val (.int p0), .val (.int p1), .val (.int p2), .val (.int p3), .val (.int want), .val (.int (9 : Int32)), .val (.ref b81)] [])) _
      refine XS.aload X99.here hx rfl (hb hby at_77) rfl rfl ?_
      show Steps p.tables e below (T99.setTop (mkF m 79 #[.val (.int p0), .val (.int p1), .val (.int p2), .val (.int p3), .val (.int want), .val (.int (9 : Int32)), .val (.ref b81)] [(.ref b81)])) _
      refine XS.bipush X99.here hx rfl (hb hby at_79) ?_
      show Steps p.tables e below (T99.setTop (mkF m 81 #[.val (.int p0), .val (.int p1), .val (.int p2), .val (.int p3), .val (.int want), .val (.int (9 : Int32)), .val (.ref b81)] [(.int (6 : Int32)), (.ref b81)])) _
      refine XS.iloadN X99.here hx rfl (hb hby at_81) rfl ?_
      show Steps p.tables e below (T99.setTop (mkF m 82 #[.val (.int p0), .val (.int p1), .val (.int p2), .val (.int p3), .val (.int want), .val (.int (9 : Int32)), .val (.ref b81)] [(.int p2), (.int (6 : Int32)), (.ref b81)])) _
      refine XS.i2b X99.here hx rfl (hb hby at_82) rfl ?_
      show Steps p.tables e below (T99.setTop (mkF m 83 #[.val (.int p0), .val (.int p1), .val (.int p2), .val (.int p3), .val (.int want), .val (.int (9 : Int32)), .val (.ref b81)] [(.int p2.toInt8.toInt32), (.int (6 : Int32)), (.ref b81)])) _
      exact k
    refine own_go k100 ?_
    clear k100
    obtain ⟨cl101, Ar101, q101, S101, N101, H101, G101⟩ := id (f99_0)
    have hi101 : ¬ ((6 : Int32) < 0 ∨ cl101.slots.size ≤ ((6 : Int32)).toNatClampNeg) := inb_of S101 ⟨by decide, by decide⟩
    obtain ⟨T102, h102, X102, e102, W102, st102⟩ := stB X99 hx hZ e99 Ar101 (j := (6 : Int32)) hi101 (g := (mkF m 83 #[.val (.int p0), .val (.int p1), .val (.int p2), .val (.int p3), .val (.int want), .val (.int (9 : Int32)), .val (.ref b81)] [(.int p2.toInt8.toInt32), (.int (6 : Int32)), (.ref b81)])) rfl rfl (hb hby at_83)
    refine own_go st102 ?_
    have V102 : Arv Z h102 b81 k81 .byte (9 : Int32) [(.int (nar .byte ((p1.toUInt32 >>> ((24 : Int32) &&& 31).toUInt32).toInt32).toInt8.toInt32)), (.int (nar .byte ((p1.toUInt32 >>> ((16 : Int32) &&& 31).toUInt32).toInt32).toInt8.toInt32)), (.int (nar .byte ((p1.toUInt32 >>> ((8 : Int32) &&& 31).toUInt32).toInt32).toInt8.toInt32)), (.int (nar .byte p1.toInt8.toInt32)), (.int (nar .byte ((want.toUInt32 >>> ((8 : Int32) &&& 31).toUInt32).toInt32).toInt8.toInt32)), (.int (nar .byte want.toInt8.toInt32)), (.int (nar .byte p2.toInt8.toInt32)), (.int (0 : Int32)), (.int (0 : Int32))] (.int (0 : Int32)) := Arv.set Ar101 q101 S101 N101 H101 G101 (fits_nar_byte _) W102 6 rfl (Nat.le_of_ble_eq_true rfl)
    have f102_0 : Arv Z h102 b81 k81 .byte (9 : Int32) [(.int (nar .byte ((p1.toUInt32 >>> ((24 : Int32) &&& 31).toUInt32).toInt32).toInt8.toInt32)), (.int (nar .byte ((p1.toUInt32 >>> ((16 : Int32) &&& 31).toUInt32).toInt32).toInt8.toInt32)), (.int (nar .byte ((p1.toUInt32 >>> ((8 : Int32) &&& 31).toUInt32).toInt32).toInt8.toInt32)), (.int (nar .byte p1.toInt8.toInt32)), (.int (nar .byte ((want.toUInt32 >>> ((8 : Int32) &&& 31).toUInt32).toInt32).toInt8.toInt32)), (.int (nar .byte want.toInt8.toInt32)), (.int (nar .byte p2.toInt8.toInt32)), (.int (0 : Int32)), (.int (0 : Int32))] (.int (0 : Int32)) := V102
    have N102 := Fr.snoc X102 N99 g_b81
    have Z102 : n0 ≤ h102.size := Nat.le_trans Z99 (Keep.of_wr W102).1
    have k103 : ∀ t, Steps p.tables e below (T102.setTop (mkF m 100 #[.val (.int p0), .val (.int p1), .val (.int p2), .val (.int p3), .val (.int want), .val (.int (9 : Int32)), .val (.ref b81)] [(.int ((p2.toUInt32 >>> ((8 : Int32) &&& 31).toUInt32).toInt32).toInt8.toInt32), (.int (7 : Int32)), (.ref b81)])) t → Steps p.tables e below (T102.setTop (mkF m 84 #[.val (.int p0), .val (.int p1), .val (.int p2), .val (.int p3), .val (.int want), .val (.int (9 : Int32)), .val (.ref b81)] [])) t := fun t k => by
      refine XS.iload X102.here hx rfl (hb hby at_84) rfl ?_
      show Steps p.tables e below (T102.setTop (mkF m 86 #[.val (.int p0), .val (.int p1), .val (.int p2), .val (.int p3), .val (.int want), .val (.int (9 : Int32)), .val (.ref b81)] [(.int (9 : Int32))])) _
      refine XS.bipush X102.here hx rfl (hb hby at_86) ?_
      show Steps p.tables e below (T102.setTop (mkF m 88 #[.val (.int p0), .val (.int p1), .val (.int p2), .val (.int p3), .val (.int want), .val (.int (9 : Int32)), .val (.ref b81)] [(.int (7 : Int32)), (.int (9 : Int32))])) _
      refine XS.icmpNo X102.here hx rfl (hb hby at_88) rfl (tlt (by decide : (7 : Int32) < (9 : Int32))).2.2.2 ?_
      show Steps p.tables e below (T102.setTop (mkF m 91 #[.val (.int p0), .val (.int p1), .val (.int p2), .val (.int p3), .val (.int want), .val (.int (9 : Int32)), .val (.ref b81)] [])) _
      refine XS.aload X102.here hx rfl (hb hby at_91) rfl rfl ?_
      show Steps p.tables e below (T102.setTop (mkF m 93 #[.val (.int p0), .val (.int p1), .val (.int p2), .val (.int p3), .val (.int want), .val (.int (9 : Int32)), .val (.ref b81)] [(.ref b81)])) _
      refine XS.bipush X102.here hx rfl (hb hby at_93) ?_
      show Steps p.tables e below (T102.setTop (mkF m 95 #[.val (.int p0), .val (.int p1), .val (.int p2), .val (.int p3), .val (.int want), .val (.int (9 : Int32)), .val (.ref b81)] [(.int (7 : Int32)), (.ref b81)])) _
      refine XS.iloadN X102.here hx rfl (hb hby at_95) rfl ?_
      show Steps p.tables e below (T102.setTop (mkF m 96 #[.val (.int p0), .val (.int p1), .val (.int p2), .val (.int p3), .val (.int want), .val (.int (9 : Int32)), .val (.ref b81)] [(.int p2), (.int (7 : Int32)), (.ref b81)])) _
      refine XS.bipush X102.here hx rfl (hb hby at_96) ?_
      show Steps p.tables e below (T102.setTop (mkF m 98 #[.val (.int p0), .val (.int p1), .val (.int p2), .val (.int p3), .val (.int want), .val (.int (9 : Int32)), .val (.ref b81)] [(.int (8 : Int32)), (.int p2), (.int (7 : Int32)), (.ref b81)])) _
      refine XS.iushr X102.here hx rfl (hb hby at_98) rfl ?_
      show Steps p.tables e below (T102.setTop (mkF m 99 #[.val (.int p0), .val (.int p1), .val (.int p2), .val (.int p3), .val (.int want), .val (.int (9 : Int32)), .val (.ref b81)] [(.int ((p2.toUInt32 >>> ((8 : Int32) &&& 31).toUInt32).toInt32)), (.int (7 : Int32)), (.ref b81)])) _
      refine XS.i2b X102.here hx rfl (hb hby at_99) rfl ?_
      show Steps p.tables e below (T102.setTop (mkF m 100 #[.val (.int p0), .val (.int p1), .val (.int p2), .val (.int p3), .val (.int want), .val (.int (9 : Int32)), .val (.ref b81)] [(.int ((p2.toUInt32 >>> ((8 : Int32) &&& 31).toUInt32).toInt32).toInt8.toInt32), (.int (7 : Int32)), (.ref b81)])) _
      exact k
    refine own_go k103 ?_
    clear k103
    obtain ⟨cl104, Ar104, q104, S104, N104, H104, G104⟩ := id (f102_0)
    have hi104 : ¬ ((7 : Int32) < 0 ∨ cl104.slots.size ≤ ((7 : Int32)).toNatClampNeg) := inb_of S104 ⟨by decide, by decide⟩
    obtain ⟨T105, h105, X105, e105, W105, st105⟩ := stB X102 hx hZ e102 Ar104 (j := (7 : Int32)) hi104 (g := (mkF m 100 #[.val (.int p0), .val (.int p1), .val (.int p2), .val (.int p3), .val (.int want), .val (.int (9 : Int32)), .val (.ref b81)] [(.int ((p2.toUInt32 >>> ((8 : Int32) &&& 31).toUInt32).toInt32).toInt8.toInt32), (.int (7 : Int32)), (.ref b81)])) rfl rfl (hb hby at_100)
    refine own_go st105 ?_
    have V105 : Arv Z h105 b81 k81 .byte (9 : Int32) [(.int (nar .byte ((p1.toUInt32 >>> ((24 : Int32) &&& 31).toUInt32).toInt32).toInt8.toInt32)), (.int (nar .byte ((p1.toUInt32 >>> ((16 : Int32) &&& 31).toUInt32).toInt32).toInt8.toInt32)), (.int (nar .byte ((p1.toUInt32 >>> ((8 : Int32) &&& 31).toUInt32).toInt32).toInt8.toInt32)), (.int (nar .byte p1.toInt8.toInt32)), (.int (nar .byte ((want.toUInt32 >>> ((8 : Int32) &&& 31).toUInt32).toInt32).toInt8.toInt32)), (.int (nar .byte want.toInt8.toInt32)), (.int (nar .byte p2.toInt8.toInt32)), (.int (nar .byte ((p2.toUInt32 >>> ((8 : Int32) &&& 31).toUInt32).toInt32).toInt8.toInt32)), (.int (0 : Int32))] (.int (0 : Int32)) := Arv.set Ar104 q104 S104 N104 H104 G104 (fits_nar_byte _) W105 7 rfl (Nat.le_of_ble_eq_true rfl)
    have f105_0 : Arv Z h105 b81 k81 .byte (9 : Int32) [(.int (nar .byte ((p1.toUInt32 >>> ((24 : Int32) &&& 31).toUInt32).toInt32).toInt8.toInt32)), (.int (nar .byte ((p1.toUInt32 >>> ((16 : Int32) &&& 31).toUInt32).toInt32).toInt8.toInt32)), (.int (nar .byte ((p1.toUInt32 >>> ((8 : Int32) &&& 31).toUInt32).toInt32).toInt8.toInt32)), (.int (nar .byte p1.toInt8.toInt32)), (.int (nar .byte ((want.toUInt32 >>> ((8 : Int32) &&& 31).toUInt32).toInt32).toInt8.toInt32)), (.int (nar .byte want.toInt8.toInt32)), (.int (nar .byte p2.toInt8.toInt32)), (.int (nar .byte ((p2.toUInt32 >>> ((8 : Int32) &&& 31).toUInt32).toInt32).toInt8.toInt32)), (.int (0 : Int32))] (.int (0 : Int32)) := V105
    have N105 := Fr.snoc X105 N102 g_b81
    have Z105 : n0 ≤ h105.size := Nat.le_trans Z102 (Keep.of_wr W105).1
    have k106 : ∀ t, Steps p.tables e below (T105.setTop (mkF m 117 #[.val (.int p0), .val (.int p1), .val (.int p2), .val (.int p3), .val (.int want), .val (.int (9 : Int32)), .val (.ref b81)] [(.int ((p2.toUInt32 >>> ((16 : Int32) &&& 31).toUInt32).toInt32).toInt8.toInt32), (.int (8 : Int32)), (.ref b81)])) t → Steps p.tables e below (T105.setTop (mkF m 101 #[.val (.int p0), .val (.int p1), .val (.int p2), .val (.int p3), .val (.int want), .val (.int (9 : Int32)), .val (.ref b81)] [])) t := fun t k => by
      refine XS.iload X105.here hx rfl (hb hby at_101) rfl ?_
      show Steps p.tables e below (T105.setTop (mkF m 103 #[.val (.int p0), .val (.int p1), .val (.int p2), .val (.int p3), .val (.int want), .val (.int (9 : Int32)), .val (.ref b81)] [(.int (9 : Int32))])) _
      refine XS.bipush X105.here hx rfl (hb hby at_103) ?_
      show Steps p.tables e below (T105.setTop (mkF m 105 #[.val (.int p0), .val (.int p1), .val (.int p2), .val (.int p3), .val (.int want), .val (.int (9 : Int32)), .val (.ref b81)] [(.int (8 : Int32)), (.int (9 : Int32))])) _
      refine XS.icmpNo X105.here hx rfl (hb hby at_105) rfl (tlt (by decide : (8 : Int32) < (9 : Int32))).2.2.2 ?_
      show Steps p.tables e below (T105.setTop (mkF m 108 #[.val (.int p0), .val (.int p1), .val (.int p2), .val (.int p3), .val (.int want), .val (.int (9 : Int32)), .val (.ref b81)] [])) _
      refine XS.aload X105.here hx rfl (hb hby at_108) rfl rfl ?_
      show Steps p.tables e below (T105.setTop (mkF m 110 #[.val (.int p0), .val (.int p1), .val (.int p2), .val (.int p3), .val (.int want), .val (.int (9 : Int32)), .val (.ref b81)] [(.ref b81)])) _
      refine XS.bipush X105.here hx rfl (hb hby at_110) ?_
      show Steps p.tables e below (T105.setTop (mkF m 112 #[.val (.int p0), .val (.int p1), .val (.int p2), .val (.int p3), .val (.int want), .val (.int (9 : Int32)), .val (.ref b81)] [(.int (8 : Int32)), (.ref b81)])) _
      refine XS.iloadN X105.here hx rfl (hb hby at_112) rfl ?_
      show Steps p.tables e below (T105.setTop (mkF m 113 #[.val (.int p0), .val (.int p1), .val (.int p2), .val (.int p3), .val (.int want), .val (.int (9 : Int32)), .val (.ref b81)] [(.int p2), (.int (8 : Int32)), (.ref b81)])) _
      refine XS.bipush X105.here hx rfl (hb hby at_113) ?_
      show Steps p.tables e below (T105.setTop (mkF m 115 #[.val (.int p0), .val (.int p1), .val (.int p2), .val (.int p3), .val (.int want), .val (.int (9 : Int32)), .val (.ref b81)] [(.int (16 : Int32)), (.int p2), (.int (8 : Int32)), (.ref b81)])) _
      refine XS.iushr X105.here hx rfl (hb hby at_115) rfl ?_
      show Steps p.tables e below (T105.setTop (mkF m 116 #[.val (.int p0), .val (.int p1), .val (.int p2), .val (.int p3), .val (.int want), .val (.int (9 : Int32)), .val (.ref b81)] [(.int ((p2.toUInt32 >>> ((16 : Int32) &&& 31).toUInt32).toInt32)), (.int (8 : Int32)), (.ref b81)])) _
      refine XS.i2b X105.here hx rfl (hb hby at_116) rfl ?_
      show Steps p.tables e below (T105.setTop (mkF m 117 #[.val (.int p0), .val (.int p1), .val (.int p2), .val (.int p3), .val (.int want), .val (.int (9 : Int32)), .val (.ref b81)] [(.int ((p2.toUInt32 >>> ((16 : Int32) &&& 31).toUInt32).toInt32).toInt8.toInt32), (.int (8 : Int32)), (.ref b81)])) _
      exact k
    refine own_go k106 ?_
    clear k106
    obtain ⟨cl107, Ar107, q107, S107, N107, H107, G107⟩ := id (f105_0)
    have hi107 : ¬ ((8 : Int32) < 0 ∨ cl107.slots.size ≤ ((8 : Int32)).toNatClampNeg) := inb_of S107 ⟨by decide, by decide⟩
    obtain ⟨T108, h108, X108, e108, W108, st108⟩ := stB X105 hx hZ e105 Ar107 (j := (8 : Int32)) hi107 (g := (mkF m 117 #[.val (.int p0), .val (.int p1), .val (.int p2), .val (.int p3), .val (.int want), .val (.int (9 : Int32)), .val (.ref b81)] [(.int ((p2.toUInt32 >>> ((16 : Int32) &&& 31).toUInt32).toInt32).toInt8.toInt32), (.int (8 : Int32)), (.ref b81)])) rfl rfl (hb hby at_117)
    refine own_go st108 ?_
    have V108 : Arv Z h108 b81 k81 .byte (9 : Int32) [(.int (nar .byte ((p1.toUInt32 >>> ((24 : Int32) &&& 31).toUInt32).toInt32).toInt8.toInt32)), (.int (nar .byte ((p1.toUInt32 >>> ((16 : Int32) &&& 31).toUInt32).toInt32).toInt8.toInt32)), (.int (nar .byte ((p1.toUInt32 >>> ((8 : Int32) &&& 31).toUInt32).toInt32).toInt8.toInt32)), (.int (nar .byte p1.toInt8.toInt32)), (.int (nar .byte ((want.toUInt32 >>> ((8 : Int32) &&& 31).toUInt32).toInt32).toInt8.toInt32)), (.int (nar .byte want.toInt8.toInt32)), (.int (nar .byte p2.toInt8.toInt32)), (.int (nar .byte ((p2.toUInt32 >>> ((8 : Int32) &&& 31).toUInt32).toInt32).toInt8.toInt32)), (.int (nar .byte ((p2.toUInt32 >>> ((16 : Int32) &&& 31).toUInt32).toInt32).toInt8.toInt32))] (.int (0 : Int32)) := Arv.set Ar107 q107 S107 N107 H107 G107 (fits_nar_byte _) W108 8 rfl (Nat.le_of_ble_eq_true rfl)
    have f108_0 : Arv Z h108 b81 k81 .byte (9 : Int32) [(.int (nar .byte ((p1.toUInt32 >>> ((24 : Int32) &&& 31).toUInt32).toInt32).toInt8.toInt32)), (.int (nar .byte ((p1.toUInt32 >>> ((16 : Int32) &&& 31).toUInt32).toInt32).toInt8.toInt32)), (.int (nar .byte ((p1.toUInt32 >>> ((8 : Int32) &&& 31).toUInt32).toInt32).toInt8.toInt32)), (.int (nar .byte p1.toInt8.toInt32)), (.int (nar .byte ((want.toUInt32 >>> ((8 : Int32) &&& 31).toUInt32).toInt32).toInt8.toInt32)), (.int (nar .byte want.toInt8.toInt32)), (.int (nar .byte p2.toInt8.toInt32)), (.int (nar .byte ((p2.toUInt32 >>> ((8 : Int32) &&& 31).toUInt32).toInt32).toInt8.toInt32)), (.int (nar .byte ((p2.toUInt32 >>> ((16 : Int32) &&& 31).toUInt32).toInt32).toInt8.toInt32))] (.int (0 : Int32)) := V108
    have N108 := Fr.snoc X108 N105 g_b81
    have Z108 : n0 ≤ h108.size := Nat.le_trans Z105 (Keep.of_wr W108).1
    have k110 : ∀ t, Steps p.tables e below (T108.setTop (mkF m 120 #[.val (.int p0), .val (.int p1), .val (.int p2), .val (.int p3), .val (.int want), .val (.int (9 : Int32)), .val (.ref b81)] [(.ref b81)])) t → Steps p.tables e below (T108.setTop (mkF m 118 #[.val (.int p0), .val (.int p1), .val (.int p2), .val (.int p3), .val (.int want), .val (.int (9 : Int32)), .val (.ref b81)] [])) t := fun t k => by
      refine XS.aload X108.here hx rfl (hb hby at_118) rfl rfl ?_
      show Steps p.tables e below (T108.setTop (mkF m 120 #[.val (.int p0), .val (.int p1), .val (.int p2), .val (.int p3), .val (.int want), .val (.int (9 : Int32)), .val (.ref b81)] [(.ref b81)])) _
      exact k
    refine own_go k110 ?_
    clear k110
    obtain ⟨_, _, ⟨T109, L109, k109, n109⟩, -, X109, ⟨Lc109, hQ109, l109, y109, z109⟩, st109⟩ := Jvm.LawKit.callS X108 hx (y := (⟨"com/example/feeder/feeder/adapters/FrameFormat", "idcode", "([B)I"⟩ : MethodName)) hown (mvT hZ (hw _ (List.mem_of_getElem? (i := 2) rfl))) (mvT hZ (hw _ (List.mem_of_getElem? (i := 3) rfl))) (mvT hZ (hw _ (List.mem_of_getElem? (i := 4) rfl))) (mvT hZ (hw _ (List.mem_of_getElem? (i := 5) rfl))) (by decide) (backOf (W := 0) (own_rm_idcode l Z a0 hw [] b81 k81 (9 : Int32) [(.int (nar .byte ((p1.toUInt32 >>> ((24 : Int32) &&& 31).toUInt32).toInt32).toInt8.toInt32)), (.int (nar .byte ((p1.toUInt32 >>> ((16 : Int32) &&& 31).toUInt32).toInt32).toInt8.toInt32)), (.int (nar .byte ((p1.toUInt32 >>> ((8 : Int32) &&& 31).toUInt32).toInt32).toInt8.toInt32)), (.int (nar .byte p1.toInt8.toInt32)), (.int (nar .byte ((want.toUInt32 >>> ((8 : Int32) &&& 31).toUInt32).toInt32).toInt8.toInt32)), (.int (nar .byte want.toInt8.toInt32)), (.int (nar .byte p2.toInt8.toInt32)), (.int (nar .byte ((p2.toUInt32 >>> ((8 : Int32) &&& 31).toUInt32).toInt32).toInt8.toInt32)), (.int (nar .byte ((p2.toUInt32 >>> ((16 : Int32) &&& 31).toUInt32).toInt32).toInt8.toInt32))] (nar .byte ((want.toUInt32 >>> ((8 : Int32) &&& 31).toUInt32).toInt32).toInt8.toInt32) (nar .byte want.toInt8.toInt32) h108 n0 Z108 f108_0 ⟨by decide, by decide⟩ rfl ⟨by decide, by decide⟩ rfl) hZ (hw _ (List.mem_of_getElem? (i := 5) rfl)) (hw _ (List.mem_of_getElem? (i := 4) rfl)) (by decide) (by decide)) (g := (mkF m 120 #[.val (.int p0), .val (.int p1), .val (.int p2), .val (.int p3), .val (.int want), .val (.int (9 : Int32)), .val (.ref b81)] [(.ref b81)])) rfl (by rw [hml]; rfl) (argsL := [(.ref b81)]) (rest := []) (lenOf own_pd_285bB29I rfl) rfl (by show 2 * 0 + _ ≤ _; exact Nat.le_of_eq rfl) (hb hby at_120) (fun _ _ => ⟨rfl, e108, (by decide : 1 + 0 ≤ _), (by decide : 9 + 0 ≤ _)⟩)
    dsimp only [Pt.U, Pt.locs, Pt.cells, Pt.slots] at X109 l109 y109 z109 st109 hQ109
    subst l109 y109 z109
    obtain ⟨rfl, N109q, eh109⟩ := hQ109
    have N109 := Fr.app N108 N109q
    refine own_go st109 ?_
    have k111 : ∀ t, Steps p.tables e below (T109.setTop (mkF m 133 #[.val (.int p0), .val (.int p1), .val (.int p2), .val (.int p3), .val (.int want), .val (.int (9 : Int32)), .val (.ref b81)] [(.int (1 : Int32))])) t → Steps p.tables e below (T109.setTop (mkF m 123 #[.val (.int p0), .val (.int p1), .val (.int p2), .val (.int p3), .val (.int want), .val (.int (9 : Int32)), .val (.ref b81)] [(.int ((((nar .byte ((want.toUInt32 >>> ((8 : Int32) &&& 31).toUInt32).toInt32).toInt8.toInt32) &&& (255 : Int32)) <<< ((8 : Int32) &&& 31)) ||| ((nar .byte want.toInt8.toInt32) &&& (255 : Int32))))])) t := fun t k => by
      refine XS.iload X109.here hx rfl (hb hby at_123) rfl ?_
      show Steps p.tables e below (T109.setTop (mkF m 125 #[.val (.int p0), .val (.int p1), .val (.int p2), .val (.int p3), .val (.int want), .val (.int (9 : Int32)), .val (.ref b81)] [(.int want), (.int ((((nar .byte ((want.toUInt32 >>> ((8 : Int32) &&& 31).toUInt32).toInt32).toInt8.toInt32) &&& (255 : Int32)) <<< ((8 : Int32) &&& 31)) ||| ((nar .byte want.toInt8.toInt32) &&& (255 : Int32))))])) _
      refine XS.icmpNo X109.here hx rfl (hb hby at_125) rfl (teq (own_id want rw0 _ _ rfl rfl)).2 ?_
      show Steps p.tables e below (T109.setTop (mkF m 128 #[.val (.int p0), .val (.int p1), .val (.int p2), .val (.int p3), .val (.int want), .val (.int (9 : Int32)), .val (.ref b81)] [])) _
      refine XS.iconst X109.here hx rfl (hb hby at_128) ?_
      show Steps p.tables e below (T109.setTop (mkF m 129 #[.val (.int p0), .val (.int p1), .val (.int p2), .val (.int p3), .val (.int want), .val (.int (9 : Int32)), .val (.ref b81)] [(.int (1 : Int32))])) _
      refine XS.goto X109.here hx rfl (pc0 := 129) (pc' := 133) rfl (hb hby at_129) (by decide) (by decide) ?_
      show Steps p.tables e below (T109.setTop (mkF m 133 #[.val (.int p0), .val (.int p1), .val (.int p2), .val (.int p3), .val (.int want), .val (.int (9 : Int32)), .val (.ref b81)] [(.int (1 : Int32))])) _
      exact k
    refine own_go k111 ?_
    clear k111
    obtain ⟨fs, hr, hrun, hended, hW, hsame⟩ := X109.leave (v := some (.int (nar .boolean (1 : Int32)))) (fun h => by rw [Bd.returns] at h; cases h)
    refine ⟨_, _, retN X109 hx (t := .boolean) Bd.returns (by simp) (hb hby at_133) hr, hPf _ _ ⟨hrun, hended, _, _, rfl, ?_, ⟨_, rfl⟩, hW, hsame.mono (by decide) (by decide)⟩⟩
    show own_Q_law Z p0 p1 p2 p3 h0 n0 _ T109.heap _
    rw [eh109]
    exact ⟨rfl, N109⟩
set_option maxRecDepth 65536 in
set_option maxHeartbeats 40000000 in
theorem own_comes {Post : Tables → Env → Array Value → State → Outcome → State → Prop} (hpost : ∀ tb e args s v u, (limb_1_1.after args s (.returned v) u = true ∧ limb_1_2.after args s (.returned v) u = true ∧ True) → FrameEnd s (.returned v) u (Jvm.fieldLocs frame_1_writes args s ++ Jvm.arrayLocs frame_1_arrays args s ++ Jvm.staticLocs frame_1_statics s) 16 128 → Post tb e args s (.returned v) u) :
    ArmFor flags0 classFile x code maxLocals ret World_1 tables_1 room_1 Calls_1 rest_1 Pre_1 Post := by
  intro l hfl _ _ p e ha hc hk s m args below hf hA hF happ hP
  obtain ⟨hcalls, hrest, hpre⟩ := hP
  obtain ⟨-, -, -, hnamed, -, -, -, hat⟩ := (Spec.applies_iff hf).mp happ
  obtain ⟨hg, hn⟩ := and_e (Cond.before_iff.mp (show (Jvm.Cond.and given_1 narrow_1).before args s = true from hpre))
  obtain ⟨hg1a, hg1b⟩ := and_e hg
  obtain ⟨hg2a, hg2b⟩ := and_e hg1b
  obtain ⟨hg3a, hg3b⟩ := and_e hg2b
  obtain ⟨hg4a, hg4b⟩ := and_e hg3b
  obtain ⟨w0, w1, w2, w3, rfl⟩ : ∃ w0 w1 w2 w3 : Value, args = #[w0, w1, w2, w3] := by
    have hs : args.size = 4 := by simpa [Cond.value, given_1] using hg1a
    obtain ⟨L⟩ := args
    match L, hs with
    | [w0, w1, w2, w3], _ => exact ⟨w0, w1, w2, w3, rfl⟩
  have hw := fun d (hd : d ∈ tables_1) => atoms_spec (ws := Jvm.Cond.code x code maxLocals ret :: tables_1) hat d (List.mem_cons_of_mem _ hd)
  have hfit : Fit s := fun {y c} hc i hi => by
    obtain ⟨ha, rfl⟩ := Array.getElem?_eq_some_iff.mp hc
    have q := List.all_eq_true.mp ((Array.all_eq_true_iff_forall_mem.mp hF) _ (Array.getElem_mem ha)) i (List.mem_range.mpr hi)
    simpa [Array.getElem?_eq_getElem hi] using q
  obtain ⟨i0, ei0⟩ := is_v hg2a
  obtain rfl : w0 = (.int i0) := Option.some.inj ei0
  obtain ⟨i1, ei1⟩ := is_v hg3a
  obtain rfl : w1 = (.int i1) := Option.some.inj ei1
  obtain ⟨i2, ei2⟩ := is_v hg4a
  obtain rfl : w2 = (.int i2) := Option.some.inj ei2
  obtain ⟨i3, ei3⟩ := is_v hg4b
  obtain rfl : w3 = (.int i3) := Option.some.inj ei3
  obtain ⟨n, o, h1, h2, h3, _, L, rfl, ⟨rfl, N⟩, hq⟩ := own_rm_law l s _ hw tables_1 i0 i1 i2 i3 s.heap s.heap.size (Nat.le_refl _) p e ha hc hk s m _ below hf ((Spec.applies_iff_loose hf).mp happ).1 ⟨rfl, State.Warmed39.refl s, rfl⟩ trivial
  refine ⟨n, _, h1, h2, h3, hpost _ _ _ _ _ _ ⟨Cond.after_iff.mpr rfl, Cond.after_iff.mpr (eq_i res_at (Term.int_eval (1)) rfl), trivial⟩ ⟨hq.1, hq.2.1, (hq.2.2.sift fun y hy => Or.inr (N y hy)).mono (by decide) (by decide)⟩⟩
theorem main_1_1 : Claimed_1_1 := own_comes fun _ _ _ _ _ _ h hF => ⟨h.1, hF⟩
theorem main_1_2 : Claimed_1_2 := own_comes fun _ _ _ _ _ _ h hF => ⟨h.2.1, hF⟩
end Jvm.Pilot.@@N@@
namespace Jvm.Pilot.@@N@@
open Jvm Jvm.ClassFile Sem Op Lib Jvm.Free Jvm.Stand Jvm.Pilot.@@N@@.Jvm.D
/-! MADE BY PROGRAM (witnessworld.py) out of the Statement's table words and the real class files: 9 classes; the members and pool entries that the words name. The judged class is class 1, her method 1. -/
namespace start1
open Jvm.ClassFile
def u (s : String) : CpInfo := .utf8 (stringToUtf16 s)
/-- a pool by its gaps: so many unusable entries, then the entry; so many at the end -/
def gap : Nat → List CpInfo → List CpInfo
  | 0, r => r
  | n + 1, r => .unusable :: gap n r
def poolList (es : List (Nat × CpInfo)) (last : Nat) : List CpInfo := es.foldr (fun e r => gap e.1 (e.2 :: r)) (gap last [])
def pool (es : List (Nat × CpInfo)) (last : Nat) : Array CpInfo := ⟨poolList es last⟩
def fileOf (pool : Array CpInfo) (this : Nat) (attrs : Array Attribute := #[]) (ms : Array MethodInfo := #[]) (fl : Nat := 33) (sup : Nat := 0) (ifs : Array Nat := #[]) (fds : Array FieldInfo := #[]) : ClassFile where
  minorVersion := 0
  majorVersion := 65
  constantPool := pool
  accessFlags := fl
  thisClass := this
  superClass := sup
  interfaces := ifs
  fields := fds
  methods := ms
  attributes := attrs
def plain (name : String) (sup : Option ClassId) : Class where
  name := name
  kind := .ordinary
  loader := none
  accessFlags := 33
  super := sup
  interfaces := #[]
  cf := none
  fields := #[]
  methods := #[]
  instanceTypes := #[]
  staticTypes := #[]
  resolved := #[]
  callSites := []
  init := .initialized
  statics := none
  mirror := none

def pool0 : Array CpInfo := pool [(5, u "<init>"), (0, u "()V"), (1, .class_ 10), (1, u "java/lang/Object")] 113

def k0m0 : Method := { name := "<init>", desc := "()V", sig := { parameters := [], returnType := none }, accessFlags := 1, code := none }
/-- java/lang/Object -/
def k0 : Class := { plain "java/lang/Object" none with
  accessFlags := 33
  interfaces := #[]
  cf := some (fileOf pool0 8 #[] #[{ accessFlags := 1, nameIndex := 5, descriptorIndex := 6, attributes := #[] }] 33 0 #[] #[])
  fields := #[]
  methods := #[k0m0]
  instanceTypes := #[]
  staticTypes := #[]
  resolved := Array.replicate 124 none
  statics := none }

def pool1 : Array CpInfo := pool [(2, .class_ 4), (1, u "java/lang/Object"), (0, u "<init>"), (0, u "()V"), (0, .integer 65535), (0, .methodref 9 10), (0, .class_ 11), (0, .nameAndType 12 13), (0, u "com/example/feeder/feeder/adapters/FrameFormat"), (0, u "idcode"), (0, u "([B)I"), (0, .class_ 15), (0, u "com/example/feeder/feeder/adapters/FrameFormatIdcodePinLaw"), (2, u "law"), (0, u "(IIII)Z")] 5

def k1m0 : Method := { name := "<init>", desc := "()V", sig := { parameters := [], returnType := none }, accessFlags := 2, code := none }
def k1c1 : Code := { maxStack := 4, maxLocals := 7, code := code, exceptionTable := #[], attributes := #[] }
def k1m1 : Method := { name := "law", desc := "(IIII)Z", sig := { parameters := [.int, .int, .int, .int], returnType := some .boolean }, accessFlags := 9, code := some k1c1 }
/-- com/example/feeder/feeder/adapters/FrameFormatIdcodePinLaw -/
def k1 : Class := { plain "com/example/feeder/feeder/adapters/FrameFormatIdcodePinLaw" (some 0) with
  accessFlags := 49
  interfaces := #[]
  cf := some (fileOf pool1 14 #[] #[{ accessFlags := 2, nameIndex := 5, descriptorIndex := 6, attributes := #[] }, { accessFlags := 9, nameIndex := 18, descriptorIndex := 19, attributes := #[] }] 49 2 #[] #[])
  fields := #[]
  methods := #[k1m0, k1m1]
  instanceTypes := #[]
  staticTypes := #[]
  resolved := Array.replicate 25 none
  statics := none }

def pool2 : Array CpInfo := pool [(1, .class_ 2), (0, u "com/example/feeder/feeder/adapters/FrameFormat"), (1, .class_ 6), (1, u "java/lang/Object"), (0, u "<init>"), (0, u "()V"), (31, u "TYPE_NAMES"), (0, u "[Ljava/lang/String;"), (5, u "([B)I"), (23, u "HEADER_BYTES"), (0, u "I"), (2, u "MIN_FRAME_BYTES"), (1, u "TYPE_DATA"), (1, u "TYPE_HEADER"), (1, u "TYPE_CFG_1"), (1, u "TYPE_CFG_2"), (1, u "TYPE_COMMAND"), (0, u "TYPE_CFG_3"), (1, u "SYNC_BYTE"), (1, u "BELOW_MINIMUM"), (0, u "Ljava/lang/String;"), (9, u "idcode")] 26

def k2m0 : Method := { name := "<init>", desc := "()V", sig := { parameters := [], returnType := none }, accessFlags := 2, code := none }
def k2c1 : Code := { maxStack := 3, maxLocals := 1, code := prog_3_method_6_code, exceptionTable := #[], attributes := #[] }
def k2m1 : Method := { name := "idcode", desc := "([B)I", sig := { parameters := [(.array .byte)], returnType := some .int }, accessFlags := 8, code := some k2c1 }
/-- com/example/feeder/feeder/adapters/FrameFormat -/
def k2 : Class := { plain "com/example/feeder/feeder/adapters/FrameFormat" (some 0) with
  accessFlags := 48
  interfaces := #[]
  cf := some (fileOf pool2 1 #[] #[{ accessFlags := 2, nameIndex := 7, descriptorIndex := 8, attributes := #[] }, { accessFlags := 8, nameIndex := 101, descriptorIndex := 47, attributes := #[] }] 48 4 #[] #[{ accessFlags := 24, nameIndex := 71, descriptorIndex := 72, attributes := #[] }, { accessFlags := 24, nameIndex := 75, descriptorIndex := 72, attributes := #[] }, { accessFlags := 24, nameIndex := 77, descriptorIndex := 72, attributes := #[] }, { accessFlags := 24, nameIndex := 79, descriptorIndex := 72, attributes := #[] }, { accessFlags := 24, nameIndex := 81, descriptorIndex := 72, attributes := #[] }, { accessFlags := 24, nameIndex := 83, descriptorIndex := 72, attributes := #[] }, { accessFlags := 24, nameIndex := 85, descriptorIndex := 72, attributes := #[] }, { accessFlags := 24, nameIndex := 86, descriptorIndex := 72, attributes := #[] }, { accessFlags := 26, nameIndex := 40, descriptorIndex := 41, attributes := #[] }, { accessFlags := 26, nameIndex := 88, descriptorIndex := 72, attributes := #[] }, { accessFlags := 26, nameIndex := 90, descriptorIndex := 91, attributes := #[] }])
  fields := #[{ name := "HEADER_BYTES", type := .int, accessFlags := 24, slot := 0, constantValue := 0 }, { name := "MIN_FRAME_BYTES", type := .int, accessFlags := 24, slot := 1, constantValue := 0 }, { name := "TYPE_DATA", type := .int, accessFlags := 24, slot := 2, constantValue := 0 }, { name := "TYPE_HEADER", type := .int, accessFlags := 24, slot := 3, constantValue := 0 }, { name := "TYPE_CFG_1", type := .int, accessFlags := 24, slot := 4, constantValue := 0 }, { name := "TYPE_CFG_2", type := .int, accessFlags := 24, slot := 5, constantValue := 0 }, { name := "TYPE_COMMAND", type := .int, accessFlags := 24, slot := 6, constantValue := 0 }, { name := "TYPE_CFG_3", type := .int, accessFlags := 24, slot := 7, constantValue := 0 }, { name := "TYPE_NAMES", type := (.array (.object "java/lang/String")), accessFlags := 26, slot := 8, constantValue := 0 }, { name := "SYNC_BYTE", type := .int, accessFlags := 26, slot := 9, constantValue := 0 }, { name := "BELOW_MINIMUM", type := (.object "java/lang/String"), accessFlags := 26, slot := 10, constantValue := 0 }]
  methods := #[k2m0, k2m1]
  instanceTypes := #[]
  staticTypes := #[.int, .int, .int, .int, .int, .int, .int, .int, (.array (.object "java/lang/String")), .int, (.object "java/lang/String")]
  resolved := Array.replicate 128 none
  statics := none }

def pool3 : Array CpInfo := pool [(1, u "java/lang/Cloneable"), (0, .class_ 1), (0, u "java/lang/Object"), (0, .class_ 3)] 3

/-- java/lang/Cloneable -/
def k3 : Class := { plain "java/lang/Cloneable" (some 0) with
  accessFlags := 1537
  interfaces := #[]
  cf := some (fileOf pool3 2 #[] #[] 1537 4 #[] #[])
  fields := #[]
  methods := #[]
  instanceTypes := #[]
  staticTypes := #[]
  resolved := Array.replicate 8 none
  statics := none }

def pool4 : Array CpInfo := pool [(1, u "java/io/Serializable"), (0, .class_ 1), (0, u "java/lang/Object"), (0, .class_ 3)] 3

/-- java/io/Serializable -/
def k4 : Class := { plain "java/io/Serializable" (some 0) with
  accessFlags := 1537
  interfaces := #[]
  cf := some (fileOf pool4 2 #[] #[] 1537 4 #[] #[])
  fields := #[]
  methods := #[]
  instanceTypes := #[]
  staticTypes := #[]
  resolved := Array.replicate 8 none
  statics := none }

/-- the primitive byte -/
def k5 : Class := { plain "byte" none with kind := .primitive 'B', accessFlags := 0x411 }
/-- [B -/
def k6 : Class := { plain "[B" (some 0) with kind := .array 5 .byte, interfaces := #[3, 4], accessFlags := 1041 }

/-- the primitive int -/
def k7 : Class := { plain "int" none with kind := .primitive 'I', accessFlags := 0x411 }
/-- [I -/
def k8 : Class := { plain "[I" (some 0) with kind := .array 7 .int, interfaces := #[3, 4], accessFlags := 1041 }

def heap : Heap := #[]
def classes : Array Class := #[k0, k1, k2, k3, k4, k5, k6, k7, k8]
def interned : List (Array UInt16 × Addr) := []
def slotsUsed : Nat := 0
def theMethod : MethodId := ⟨1, 1⟩
def args0 : Array Value := #[.int 5, .int 5, .int 5, .int 5]
def aboutOver (below : List Frame) : State where
  vm := { classes := classes, interned := interned.toArray }
  heap := heap
  slotsUsed := slotsUsed
  threads := #[{ frames := .invoking theMethod args0 :: below }]
def below0 : List Frame := [.native { method := ⟨0, 0⟩, args := #[] }]
def about1 : State := aboutOver below0
def p0 : Program := .bare "" "" ""
def e0 : Env := launch0.env 0 0 0
theorem w_frames : about1.frames = Frame.invoking theMethod args0 :: below0 := rfl
set_option maxRecDepth 65536 in
theorem w_args : argsFit about1.vm theMethod args0 = true := by decide +kernel
set_option maxRecDepth 65536 in
theorem w_heap : heapFits about1 = true := by decide +kernel
set_option maxRecDepth 65536 in
theorem w_runnable : about1.curStatus? = some .runnable := by decide +kernel
set_option maxRecDepth 65536 in
theorem w_alone : about1.alone = true := by decide +kernel
set_option maxRecDepth 65536 in
theorem w_named : about1.methodNamed? x = some theMethod := by decide +kernel
set_option maxRecDepth 65536 in
theorem w_hears : about1.hears theMethod below0 = true := by decide +kernel
set_option maxRecDepth 65536 in
theorem w_ripe : about1.ripe theMethod args0 below0 = true := by decide +kernel
theorem w_running : about1.status = .running := rfl
set_option maxRecDepth 65536 in
theorem w_room : about1.hasRoom e0.platform room_1 = true :=
  launch0.hasRoom_least _ room_1 (by decide +kernel) (by decide +kernel) (by decide +kernel) (by decide +kernel) (by decide +kernel) (by decide +kernel)
theorem allAtoms_all (ts : List Jvm.Cond) (a : Array Jvm.Value) (st : Jvm.State) : (allAtoms ts).before a st = ts.all (fun c => c.before a st) := by
  induction ts with
  | nil => rfl
  | cons c t ih =>
    show (Jvm.Cond.and c (allAtoms t)).before a st = _
    rw [Jvm.Cond.before_and, ih, List.all_cons]
def words1 : List Jvm.Cond := Jvm.Cond.code x code maxLocals ret :: tables_1
/-- a 'code' word, met by the world's own term for the bytes: nothing is compared byte by byte -/
theorem code_word {y : MethodName} {bytes : ByteArray} {mx : Nat} {rt : Option FieldType} {a : Array Value} {s : State} {m : MethodId} {meth : Method} {c : Code} (h1 : s.methodNamed? y = some m) (h2 : s.vm.method? m = some meth) (h3 : meth.code = some c) (h4 : c.code = bytes)
    (h5 : (c.maxLocals == mx && c.exceptionTable.isEmpty && decide (c.maxStack ≤ mostOperands) && decide (meth.sig.returnType = rt) && !meth.locks && decide (parseMethodDescriptor y.desc = some meth.sig)) = true) : (Jvm.Cond.code y bytes mx rt).before a s = true := by
  simp only [Bool.and_eq_true, beq_iff_eq, Bool.not_eq_true', decide_eq_true_eq] at h5
  obtain ⟨⟨⟨⟨⟨g1, g2⟩, g3⟩, g4⟩, g5⟩, g6⟩ := h5
  simp [Cond.before, Cond.holds, Cond.value, h1, h2, h3, h4, g1, g2, g3, g4, g5, g6]
def isCode : Jvm.Cond → Bool
  | .code _ _ _ _ => true
  | _ => false
theorem all_split {L : List Jvm.Cond} {P : Jvm.Cond → Bool} (h1 : L.all (fun c => isCode c || P c) = true) (h2 : ∀ c ∈ L.filter isCode, P c = true) : L.all P = true := by
  refine List.all_eq_true.mpr fun c hc => ?_
  have h := List.all_eq_true.mp h1 c hc
  rcases Bool.eq_false_or_eq_true (isCode c) with hi | hi
  · exact h2 c (List.mem_filter.mpr ⟨hc, hi⟩)
  · simpa [hi] using h
set_option maxRecDepth 65536 in
theorem w_c0 : (Jvm.Cond.code x code maxLocals ret).before args0 about1 = true := code_word (m := ⟨1, 1⟩) (meth := k1m1) (c := k1c1) (by decide +kernel) rfl rfl rfl (by decide +kernel)
set_option maxRecDepth 65536 in
theorem w_c1 : (Jvm.Cond.code ({ cls := "com/example/feeder/feeder/adapters/FrameFormat", name := "idcode", desc := "([B)I" } : Jvm.MethodName) prog_3_method_6_code (1 : Nat) (Option.some Jvm.ClassFile.FieldType.int)).before args0 about1 = true := code_word (m := ⟨2, 1⟩) (meth := k2m1) (c := k2c1) (by decide +kernel) rfl rfl rfl (by decide +kernel)
def codes1 : List Jvm.Cond := [Jvm.Cond.code x code maxLocals ret, Jvm.Cond.code ({ cls := "com/example/feeder/feeder/adapters/FrameFormat", name := "idcode", desc := "([B)I" } : Jvm.MethodName) prog_3_method_6_code (1 : Nat) (Option.some Jvm.ClassFile.FieldType.int)]
set_option maxRecDepth 65536 in
theorem codes_eq : words1.filter isCode = codes1 := rfl
theorem w_codes : ∀ c ∈ words1.filter isCode, c.before args0 about1 = true := by
  rw [codes_eq]
  intro c hc
  simp only [codes1, List.mem_cons, List.not_mem_nil, or_false] at hc
  rcases hc with rfl | rfl
  · exact w_c0
  · exact w_c1
set_option maxRecDepth 65536 in
theorem w_t1 : words1.all (fun c => isCode c || c.before args0 about1) = true := by decide +kernel
theorem w_tables : (allAtoms (Jvm.Cond.code x code maxLocals ret :: tables_1)).before args0 about1 = true := by
  rw [allAtoms_all]
  show words1.all (fun c => c.before args0 about1) = true
  refine all_split ?_ w_codes
  rw [w_t1]
set_option maxRecDepth 65536 in
theorem w_case : (Jvm.Cond.and given_1 narrow_1).before args0 about1 = true := by decide +kernel
theorem w_applies : (headSpec (Jvm.Cond.code x code maxLocals ret :: tables_1) room_1).applies x e0.platform about1 = true :=
  (Spec.applies_iff w_frames).mpr ⟨w_running, w_runnable, w_alone, w_named, w_hears, w_ripe, w_room, w_tables⟩
theorem atStart : AtStart classFile x code maxLocals ret World_1 tables_1 room_1 Calls_1 rest_1 Pre_1 launch0 p0 e0 about1 theMethod args0 below0 :=
  ⟨lists_1, trivial, launch0.admits_env _ _ _, launch0.least_env, fairChoices_fair.cas, fairChoices_fair.clock, w_frames, w_args, w_heap, w_applies, trivial, trivial, w_case⟩
end start1
theorem witness_1 : WitnessClaimed_1 := ⟨start1.p0, start1.e0, start1.about1, start1.theMethod, start1.args0, start1.below0, start1.atStart⟩
end Jvm.Pilot.@@N@@
