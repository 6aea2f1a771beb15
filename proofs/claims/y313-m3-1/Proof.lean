import JvmDerived
import JvmDerived.Pilot.@@N@@Statement
import JvmDerived.Pilot.@@N@@Code
set_option linter.unusedVariables false
set_option linter.unusedSimpArgs false
namespace Jvm.Pilot.@@N@@
open Jvm Jvm.ClassFile Sem Op Lib Jvm.Free Jvm.Stand Jvm.LawKit Jvm.RoadKit Bundle Jvm.Pilot.@@N@@.Jvm.D
theorem own_go {α β : Sort _} {A B : α → Prop} {P : α → β → Prop} (k : ∀ t, A t → B t) (h : ∃ t o, A t ∧ P t o) : ∃ t o, B t ∧ P t o := by
  obtain ⟨t, o, h1, h2⟩ := h
  exact ⟨t, o, k t h1, h2⟩
theorem own_abs {α β : Sort _} {A : α → Prop} {P : α → β → Prop} (h : ∀ P' : α → β → Prop, (∀ t o, P t o → P' t o) → ∃ t o, A t ∧ P' t o) : ∃ t o, A t ∧ P t o := h P fun _ _ q => q
theorem own_cat1 {v : Value} (h : v.isRef = true) : v.category = 1 := by rcases ref_cases h with rfl | ⟨_, rfl⟩ <;> rfl
theorem own_slot1 {v : Value} (h : v.isRef = true) : Slot.val v = .unset ∨ ∃ w, Slot.val v = .val w ∧ w.category = 1 := Or.inr ⟨v, rfl, own_cat1 h⟩
theorem own_nar {C : String} {w : Value} (h : w.isRef = true) : narrow (.object C) w = w := by rcases ref_cases h with rfl | ⟨_, rfl⟩ <;> rfl
theorem own_m3 (x : Int32) : x &&& 3 = 0 ∨ x &&& 3 = 1 ∨ x &&& 3 = 2 ∨ x &&& 3 = 3 := by
  have e := c_mask x 3 2 (by decide) (by decide)
  have q : (x &&& 3).toInt = (0 : Int32).toInt ∨ (x &&& 3).toInt = (1 : Int32).toInt ∨ (x &&& 3).toInt = (2 : Int32).toInt ∨ (x &&& 3).toInt = (3 : Int32).toInt := by
    show _ = 0 ∨ _ = 1 ∨ _ = 2 ∨ _ = 3
    rw [e]; have : ((2 ^ 2 : Nat) : Int) = 4 := rfl
    omega
  rcases q with q | q | q | q
  · exact Or.inl (Int32.toInt_inj.mp q)
  · exact Or.inr (Or.inl (Int32.toInt_inj.mp q))
  · exact Or.inr (Or.inr (Or.inl (Int32.toInt_inj.mp q)))
  · exact Or.inr (Or.inr (Or.inr (Int32.toInt_inj.mp q)))
def own_w (x0 x1 x2 x3 : Int32) : Int32 := ((((x0 <<< ((24 : Int32) &&& 31)) ||| (x1 <<< ((16 : Int32) &&& 31))) ||| (x2 <<< ((8 : Int32) &&& 31))) ||| x3)
def own_byte (w k : Int32) : Int32 := ((w.toUInt32 >>> (((8 : Int32) * ((3 : Int32) - k)) &&& 31).toUInt32).toInt32) &&& (255 : Int32)
theorem own_bytes {x0 x1 x2 x3 : Int32} (h0 : 0 ≤ x0.toInt ∧ x0.toInt < 256) (h1 : 0 ≤ x1.toInt ∧ x1.toInt < 256) (h2 : 0 ≤ x2.toInt ∧ x2.toInt < 256) (h3 : 0 ≤ x3.toInt ∧ x3.toInt < 256) :
    own_byte (own_w x0 x1 x2 x3) 0 = x0 ∧ own_byte (own_w x0 x1 x2 x3) 1 = x1 ∧ own_byte (own_w x0 x1 x2 x3) 2 = x2 ∧ own_byte (own_w x0 x1 x2 x3) 3 = x3 := by
  have a0 := c_ishl x0 24 24 (by decide)
  have a1 := c_ishl x1 16 16 (by decide)
  have a2 := c_ishl x2 8 8 (by decide)
  have r0 := rng32 (x0 <<< ((24 : Int32) &&& 31))
  have r1 := rng32 (x1 <<< ((16 : Int32) &&& 31))
  have r2 := rng32 (x2 <<< ((8 : Int32) &&& 31))
  have p24 : ((2 ^ 24 : Nat) : Int) = 16777216 := rfl
  have p16 : ((2 ^ 16 : Nat) : Int) = 65536 := rfl
  have p8 : ((2 ^ 8 : Nat) : Int) = 256 := rfl
  rw [p24] at a0; rw [p16] at a1; rw [p8] at a2
  have b1 := c_or (x0 <<< ((24 : Int32) &&& 31)) (x1 <<< ((16 : Int32) &&& 31)) 24 (by decide) 16777216 p24.symm (by omega) (by omega) (by omega)
  have s1 := rng32 ((x0 <<< ((24 : Int32) &&& 31)) ||| (x1 <<< ((16 : Int32) &&& 31)))
  have b2 := c_or ((x0 <<< ((24 : Int32) &&& 31)) ||| (x1 <<< ((16 : Int32) &&& 31))) (x2 <<< ((8 : Int32) &&& 31)) 16 (by decide) 65536 p16.symm (by omega) (by omega) (by omega)
  have s2 := rng32 (((x0 <<< ((24 : Int32) &&& 31)) ||| (x1 <<< ((16 : Int32) &&& 31))) ||| (x2 <<< ((8 : Int32) &&& 31)))
  have b3 := c_or (((x0 <<< ((24 : Int32) &&& 31)) ||| (x1 <<< ((16 : Int32) &&& 31))) ||| (x2 <<< ((8 : Int32) &&& 31))) x3 8 (by decide) 256 p8.symm (by omega) (by omega) (by omega)
  have e : ((own_w x0 x1 x2 x3).toInt - (x0.toInt * 16777216 + x1.toInt * 65536 + x2.toInt * 256 + x3.toInt)) % 4294967296 = 0 := by
    show (((((x0 <<< ((24 : Int32) &&& 31)) ||| (x1 <<< ((16 : Int32) &&& 31))) ||| (x2 <<< ((8 : Int32) &&& 31))) ||| x3).toInt - _) % _ = 0
    omega
  have rr := rng32 (own_w x0 x1 x2 x3)
  generalize own_w x0 x1 x2 x3 = w at *
  have m : ∀ y : Int32, (y &&& 255).toInt = y.toInt % 256 := fun y => c_mask y 255 8 (by decide) (by decide)
  have u0 := c_iushr w 24 24 (by decide) (by decide)
  have u1 := c_iushr w 16 16 (by decide) (by decide)
  have u2 := c_iushr w 8 8 (by decide) (by decide)
  rw [p24] at u0; rw [p16] at u1; rw [p8] at u2
  refine ⟨Int32.toInt_inj.mp ?_, Int32.toInt_inj.mp ?_, Int32.toInt_inj.mp ?_, Int32.toInt_inj.mp ?_⟩
  · show ((w.toUInt32 >>> ((24 : Int32) &&& 31).toUInt32).toInt32 &&& 255).toInt = _
    rw [m, u0]; omega
  · show ((w.toUInt32 >>> ((16 : Int32) &&& 31).toUInt32).toInt32 &&& 255).toInt = _
    rw [m, u1]; omega
  · show ((w.toUInt32 >>> ((8 : Int32) &&& 31).toUInt32).toInt32 &&& 255).toInt = _
    rw [m, u2]; omega
  · have z : ((w.toUInt32 >>> ((0 : Int32) &&& 31).toUInt32).toInt32) = w := by
      have : ((0 : Int32) &&& 31).toUInt32 = 0 := by decide
      rw [this]; simp
    show ((w.toUInt32 >>> ((0 : Int32) &&& 31).toUInt32).toInt32 &&& 255).toInt = _
    rw [z, m]; omega
theorem own_r8 (x : Int32) : 0 ≤ (x &&& 255).toInt ∧ (x &&& 255).toInt < 256 := by
  have := c_mask x 255 8 (by decide) (by decide)
  have p8 : ((2 ^ 8 : Nat) : Int) = 256 := rfl
  rw [p8] at this; omega
theorem own_d_prog_44_method_12_code_0 : decode prog_44_method_12_code 0 = .ok (.aload_n 0, 1) := by decide +kernel
theorem own_d_prog_44_method_12_code_1 : decode prog_44_method_12_code 1 = .ok (.iload_n 1, 1) := by decide +kernel
theorem own_d_prog_44_method_12_code_2 : decode prog_44_method_12_code 2 = .ok (.iload_n 2, 1) := by decide +kernel
theorem own_d_prog_44_method_12_code_3 : decode prog_44_method_12_code 3 = .ok (.iconst 4, 1) := by decide +kernel
theorem own_d_prog_44_method_12_code_4 : decode prog_44_method_12_code 4 = .ok (.idiv, 1) := by decide +kernel
theorem own_d_prog_44_method_12_code_5 : decode prog_44_method_12_code 5 = .ok (.iadd, 1) := by decide +kernel
theorem own_d_prog_44_method_12_code_6 : decode prog_44_method_12_code 6 = .ok (.iaload, 1) := by decide +kernel
theorem own_d_prog_44_method_12_code_7 : decode prog_44_method_12_code 7 = .ok (.istore_n 3, 1) := by decide +kernel
theorem own_d_prog_44_method_12_code_8 : decode prog_44_method_12_code 8 = .ok (.iload_n 3, 1) := by decide +kernel
theorem own_d_prog_44_method_12_code_9 : decode prog_44_method_12_code 9 = .ok (.bipush 8, 2) := by decide +kernel
theorem own_d_prog_44_method_12_code_11 : decode prog_44_method_12_code 11 = .ok (.iconst 3, 1) := by decide +kernel
theorem own_d_prog_44_method_12_code_12 : decode prog_44_method_12_code 12 = .ok (.iload_n 2, 1) := by decide +kernel
theorem own_d_prog_44_method_12_code_13 : decode prog_44_method_12_code 13 = .ok (.iconst 4, 1) := by decide +kernel
theorem own_d_prog_44_method_12_code_14 : decode prog_44_method_12_code 14 = .ok (.irem, 1) := by decide +kernel
theorem own_d_prog_44_method_12_code_15 : decode prog_44_method_12_code 15 = .ok (.isub, 1) := by decide +kernel
theorem own_d_prog_44_method_12_code_16 : decode prog_44_method_12_code 16 = .ok (.imul, 1) := by decide +kernel
theorem own_d_prog_44_method_12_code_17 : decode prog_44_method_12_code 17 = .ok (.iushr, 1) := by decide +kernel
theorem own_d_prog_44_method_12_code_18 : decode prog_44_method_12_code 18 = .ok (.sipush 255, 3) := by decide +kernel
theorem own_d_prog_44_method_12_code_21 : decode prog_44_method_12_code 21 = .ok (.iand, 1) := by decide +kernel
theorem own_d_prog_44_method_12_code_22 : decode prog_44_method_12_code 22 = .ok (.ireturn, 1) := by decide +kernel
theorem own_ef_short (m : MethodId) (x0 : Addr) (x1 : Int32) (x2 : Int32) : entryFrame m #[(.ref x0), (.int x1), (.int x2)] 4 = mkF m 0 #[.val (.ref x0), .val (.int x1), .val (.int x2), .unset] [] := by first | (simp [entryFrame, mkF, argsToLocals, Value.category]; done) | rfl
def own_Q_short (Z : State) (pa : Addr) (sp : Int32) (ix : Int32) (ck : ClassId) (zl : Int32) (vl : List Value) (wv : Int32) (h0 : Heap) (n0 : Nat) (v : Option Value) (h : Heap) (L : List Loc) : Prop := v = some (.int (own_byte wv (ix % (4 : Int32)))) ∧ Fr n0 L ∧ h = h0
theorem own_pn_com_example_likelihood_likelihood_index_Postings : plainName "com/example/likelihood/likelihood/index/Postings" = true := by first | (simp [plainName, overriddenIn]; done) | decide +kernel
set_option maxRecDepth 65536 in
set_option maxHeartbeats 40000000 in
theorem own_rm_short (l : Launch) (Z : State) (a0 : Array Value) (hw : ∀ d ∈ tables_1, d.before a0 Z = true) (ws : List Jvm.Cond) (pa : Addr) (sp : Int32) (ix : Int32) (ck : ClassId) (zl : Int32) (vl : List Value) (wv : Int32) (h0 : Heap) (n0 : Nat) (Z0 : n0 ≤ h0.size) (V0 : Arv Z h0 pa ck .int zl vl (.int (0 : Int32))) (hb0 : ¬ (sp + (ix / (4 : Int32))) < 0 ∧ (sp + (ix / (4 : Int32))) < zl) (hv0 : vl.getD (sp + (ix / (4 : Int32))).toNatClampNeg (.int (0 : Int32)) = .int wv) :
    MetFree l (⟨"com/example/likelihood/likelihood/index/Postings", "shortLength", "([III)I"⟩ : MethodName) (head1 (Jvm.Cond.code (⟨"com/example/likelihood/likelihood/index/Postings", "shortLength", "([III)I"⟩ : MethodName) prog_44_method_12_code 4 (some .int) :: ws) ({ frames := 0, cells := 0, slots := 0, locals := 0 } : Room)) (fun a U => a = #[(.ref pa), (.int sp), (.int ix)] ∧ Z.Warmed39 U.vm ∧ U.heap = h0) (fun _ _ _ _ _ => True) (fun _ U o U' => ∃ v L, o = .returned v ∧ own_Q_short Z pa sp ix ck zl vl wv h0 n0 v U'.heap L ∧ FrameEnd U o U' L ({ frames := 0, cells := 0, slots := 0, locals := 0 } : Room).cells ({ frames := 0, cells := 0, slots := 0, locals := 0 } : Room).slots) := by
  refine MetFree.of_bodySF (plainFor_of_name own_pn_com_example_likelihood_likelihood_index_Postings) hisR ?_
  intro p e s m args below meth c s₁ Bd hml0 hP hKq_
  obtain ⟨rfl, hZ, hh⟩ := hP
  have hx := Bd.exec
  have hby := Bd.bytes
  have hml : c.maxLocals = 4 := hml0
  have hown : s.vm.findClass "com/example/likelihood/likelihood/index/Postings" = some m.cls := findClass_of_methodNamed Bd.named
  have hnm := (name_of_methodNamed Bd.named Bd.method).1
  have X0 : Stand p l e ({ frames := 0, cells := 0, slots := 0, locals := 0 } : Room) s m #[(.ref pa), (.int sp), (.int ix)] below meth c s₁ [] 0 0 := Stand.of_body Bd
  have e0 : s₁.heap = h0 := by rw [← hh, Bd.state]; rfl
  have N0 := Fr.nil n0
  have pre0 : ∀ t, Steps p.tables e below (s₁.setTop (mkF m 0 #[.val (.ref pa), .val (.int sp), .val (.int ix), .unset] [])) t → Steps p.tables e below (s₁.setTop (entryFrame m #[(.ref pa), (.int sp), (.int ix)] 4)) t := fun t k => castTop (own_ef_short m pa sp ix) k
  refine own_go pre0 ?_
  refine own_abs ?_
  intro Pf hPf
  have k1 : ∀ t, Steps p.tables e below (s₁.setTop (mkF m 6 #[.val (.ref pa), .val (.int sp), .val (.int ix), .unset] [(.int (sp + (ix / (4 : Int32)))), (.ref pa)])) t → Steps p.tables e below (s₁.setTop (mkF m 0 #[.val (.ref pa), .val (.int sp), .val (.int ix), .unset] [])) t := fun t k => by
    refine XS.aloadN X0.here hx rfl (hb hby own_d_prog_44_method_12_code_0) rfl rfl ?_
    show Steps p.tables e below (s₁.setTop (mkF m 1 #[.val (.ref pa), .val (.int sp), .val (.int ix), .unset] [(.ref pa)])) _
    refine XS.iloadN X0.here hx rfl (hb hby own_d_prog_44_method_12_code_1) rfl ?_
    show Steps p.tables e below (s₁.setTop (mkF m 2 #[.val (.ref pa), .val (.int sp), .val (.int ix), .unset] [(.int sp), (.ref pa)])) _
    refine XS.iloadN X0.here hx rfl (hb hby own_d_prog_44_method_12_code_2) rfl ?_
    show Steps p.tables e below (s₁.setTop (mkF m 3 #[.val (.ref pa), .val (.int sp), .val (.int ix), .unset] [(.int ix), (.int sp), (.ref pa)])) _
    refine XS.iconst X0.here hx rfl (hb hby own_d_prog_44_method_12_code_3) ?_
    show Steps p.tables e below (s₁.setTop (mkF m 4 #[.val (.ref pa), .val (.int sp), .val (.int ix), .unset] [(.int (4 : Int32)), (.int ix), (.int sp), (.ref pa)])) _
    refine XS.idiv X0.here hx rfl (hb hby own_d_prog_44_method_12_code_4) rfl (by decide) ?_
    show Steps p.tables e below (s₁.setTop (mkF m 5 #[.val (.ref pa), .val (.int sp), .val (.int ix), .unset] [(.int (ix / (4 : Int32))), (.int sp), (.ref pa)])) _
    refine XS.iadd X0.here hx rfl (hb hby own_d_prog_44_method_12_code_5) rfl ?_
    show Steps p.tables e below (s₁.setTop (mkF m 6 #[.val (.ref pa), .val (.int sp), .val (.int ix), .unset] [(.int (sp + (ix / (4 : Int32)))), (.ref pa)])) _
    exact k
  refine own_go k1 ?_
  clear k1
  obtain ⟨cl2, Ar2, -, S2, -, H2, -⟩ := id (V0)
  have hi2 : ¬ ((sp + (ix / (4 : Int32))) < 0 ∨ cl2.slots.size ≤ ((sp + (ix / (4 : Int32)))).toNatClampNeg) := inb_of S2 hb0
  have hv2 : cl2.slots[((sp + (ix / (4 : Int32)))).toNatClampNeg]? = some (.int wv) := H2.at hi2 hv0
  have k3 : ∀ t, Steps p.tables e below (s₁.setTop (mkF m 22 #[.val (.ref pa), .val (.int sp), .val (.int ix), .val (.int wv)] [(.int (((wv.toUInt32 >>> (((8 : Int32) * ((3 : Int32) - (ix % (4 : Int32)))) &&& 31).toUInt32).toInt32) &&& (255 : Int32)))])) t → Steps p.tables e below (s₁.setTop (mkF m 6 #[.val (.ref pa), .val (.int sp), .val (.int ix), .unset] [(.int (sp + (ix / (4 : Int32)))), (.ref pa)])) t := fun t k => by
    refine X0.iaload hx (j := (sp + (ix / (4 : Int32)))) (v := (.int wv)) (by rw [e0]; exact Ar2.1) (State.isArrayOf_alike hZ.alike Ar2.2.1) Ar2.2.2 hi2 hv2 (g := (mkF m 6 #[.val (.ref pa), .val (.int sp), .val (.int ix), .unset] [(.int (sp + (ix / (4 : Int32)))), (.ref pa)])) rfl rfl (hb hby own_d_prog_44_method_12_code_6) _ ?_
    show Steps p.tables e below (s₁.setTop (mkF m 7 #[.val (.ref pa), .val (.int sp), .val (.int ix), .unset] [(.int wv)])) _
    refine XS.istoreN X0.here hx rfl (hb hby own_d_prog_44_method_12_code_7) rfl (l' := #[.val (.ref pa), .val (.int sp), .val (.int ix), .val (.int wv)]) rfl ?_
    show Steps p.tables e below (s₁.setTop (mkF m 8 #[.val (.ref pa), .val (.int sp), .val (.int ix), .val (.int wv)] [])) _
    refine XS.iloadN X0.here hx rfl (hb hby own_d_prog_44_method_12_code_8) rfl ?_
    show Steps p.tables e below (s₁.setTop (mkF m 9 #[.val (.ref pa), .val (.int sp), .val (.int ix), .val (.int wv)] [(.int wv)])) _
    refine XS.bipush X0.here hx rfl (hb hby own_d_prog_44_method_12_code_9) ?_
    show Steps p.tables e below (s₁.setTop (mkF m 11 #[.val (.ref pa), .val (.int sp), .val (.int ix), .val (.int wv)] [(.int (8 : Int32)), (.int wv)])) _
    refine XS.iconst X0.here hx rfl (hb hby own_d_prog_44_method_12_code_11) ?_
    show Steps p.tables e below (s₁.setTop (mkF m 12 #[.val (.ref pa), .val (.int sp), .val (.int ix), .val (.int wv)] [(.int (3 : Int32)), (.int (8 : Int32)), (.int wv)])) _
    refine XS.iloadN X0.here hx rfl (hb hby own_d_prog_44_method_12_code_12) rfl ?_
    show Steps p.tables e below (s₁.setTop (mkF m 13 #[.val (.ref pa), .val (.int sp), .val (.int ix), .val (.int wv)] [(.int ix), (.int (3 : Int32)), (.int (8 : Int32)), (.int wv)])) _
    refine XS.iconst X0.here hx rfl (hb hby own_d_prog_44_method_12_code_13) ?_
    show Steps p.tables e below (s₁.setTop (mkF m 14 #[.val (.ref pa), .val (.int sp), .val (.int ix), .val (.int wv)] [(.int (4 : Int32)), (.int ix), (.int (3 : Int32)), (.int (8 : Int32)), (.int wv)])) _
    refine iremM X0 hx rfl (hb hby own_d_prog_44_method_12_code_14) rfl (by decide) ?_
    show Steps p.tables e below (s₁.setTop (mkF m 15 #[.val (.ref pa), .val (.int sp), .val (.int ix), .val (.int wv)] [(.int (ix % (4 : Int32))), (.int (3 : Int32)), (.int (8 : Int32)), (.int wv)])) _
    refine XS.isub X0.here hx rfl (hb hby own_d_prog_44_method_12_code_15) rfl ?_
    show Steps p.tables e below (s₁.setTop (mkF m 16 #[.val (.ref pa), .val (.int sp), .val (.int ix), .val (.int wv)] [(.int ((3 : Int32) - (ix % (4 : Int32)))), (.int (8 : Int32)), (.int wv)])) _
    refine XS.imul X0.here hx rfl (hb hby own_d_prog_44_method_12_code_16) rfl ?_
    show Steps p.tables e below (s₁.setTop (mkF m 17 #[.val (.ref pa), .val (.int sp), .val (.int ix), .val (.int wv)] [(.int ((8 : Int32) * ((3 : Int32) - (ix % (4 : Int32))))), (.int wv)])) _
    refine XS.iushr X0.here hx rfl (hb hby own_d_prog_44_method_12_code_17) rfl ?_
    show Steps p.tables e below (s₁.setTop (mkF m 18 #[.val (.ref pa), .val (.int sp), .val (.int ix), .val (.int wv)] [(.int ((wv.toUInt32 >>> (((8 : Int32) * ((3 : Int32) - (ix % (4 : Int32)))) &&& 31).toUInt32).toInt32))])) _
    refine XS.sipush X0.here hx rfl (hb hby own_d_prog_44_method_12_code_18) ?_
    show Steps p.tables e below (s₁.setTop (mkF m 21 #[.val (.ref pa), .val (.int sp), .val (.int ix), .val (.int wv)] [(.int (255 : Int32)), (.int ((wv.toUInt32 >>> (((8 : Int32) * ((3 : Int32) - (ix % (4 : Int32)))) &&& 31).toUInt32).toInt32))])) _
    refine XS.iand X0.here hx rfl (hb hby own_d_prog_44_method_12_code_21) rfl ?_
    show Steps p.tables e below (s₁.setTop (mkF m 22 #[.val (.ref pa), .val (.int sp), .val (.int ix), .val (.int wv)] [(.int (((wv.toUInt32 >>> (((8 : Int32) * ((3 : Int32) - (ix % (4 : Int32)))) &&& 31).toUInt32).toInt32) &&& (255 : Int32)))])) _
    exact k
  refine own_go k3 ?_
  clear k3
  obtain ⟨fs, hr, hrun, hended, hW, hsame⟩ := X0.leave (v := some (.int (((wv.toUInt32 >>> (((8 : Int32) * ((3 : Int32) - (ix % (4 : Int32)))) &&& 31).toUInt32).toInt32) &&& (255 : Int32)))) (fun h => by rw [Bd.returns] at h; cases h)
  refine ⟨_, _, retOut X0 hx Bd.returns rfl (Or.inl ⟨rfl, Or.inl rfl, _, rfl⟩) (hb hby own_d_prog_44_method_12_code_22) hr, hPf _ _ ⟨hrun, hended, _, _, rfl, ?_, ⟨_, rfl⟩, hW, hsame.mono (by decide) (by decide)⟩⟩
  show own_Q_short Z pa sp ix ck zl vl wv h0 n0 _ s₁.heap _
  rw [e0]
  exact ⟨rfl, N0, rfl⟩
theorem own_pd_285bIII29I : parseMethodDescriptor "([III)I" = some ⟨[(.array .int), .int, .int], some .int⟩ := by decide +kernel
theorem own_ef_law (m : MethodId) (x0 : Int32) (x1 : Int32) (x2 : Int32) (x3 : Int32) (x4 : Int32) (x5 : Int32) : entryFrame m #[(.int x0), (.int x1), (.int x2), (.int x3), (.int x4), (.int x5)] maxLocals = mkF m 0 #[.val (.int x0), .val (.int x1), .val (.int x2), .val (.int x3), .val (.int x4), .val (.int x5), .unset, .unset, .unset, .unset, .unset, .unset, .unset, .unset, .unset, .unset, .unset, .unset, .unset] [] := by first | (simp [entryFrame, mkF, argsToLocals, Value.category, maxLocals]; done) | rfl
def own_Q_law (Z : State) (p0 : Int32) (p1 : Int32) (p2 : Int32) (p3 : Int32) (p4 : Int32) (p5 : Int32)  (h0 : Heap) (n0 : Nat) (v : Option Value) (h : Heap) (L : List Loc) : Prop := v = some (.int 1) ∧ Fr n0 L
theorem own_pn_com_example_likelihood_likelihood_index_PostingsShortLengthPinLaw : plainName "com/example/likelihood/likelihood/index/PostingsShortLengthPinLaw" = true := by first | (simp [plainName, overriddenIn]; done) | decide +kernel
set_option maxRecDepth 65536 in
set_option maxHeartbeats 40000000 in
theorem own_rm_law (l : Launch) (Z : State) (a0 : Array Value) (hw : ∀ d ∈ tables_1, d.before a0 Z = true) (ws : List Jvm.Cond) (p0 : Int32) (p1 : Int32) (p2 : Int32) (p3 : Int32) (p4 : Int32) (p5 : Int32)  (h0 : Heap) (n0 : Nat) (Z0 : n0 ≤ h0.size) :
    MetFree l x (head1 (Jvm.Cond.code x code maxLocals ret :: ws) room_1) (fun a U => a = #[(.int p0), (.int p1), (.int p2), (.int p3), (.int p4), (.int p5)] ∧ Z.Warmed39 U.vm ∧ U.heap = h0) (fun _ _ _ _ _ => True) (fun _ U o U' => ∃ v L, o = .returned v ∧ own_Q_law Z p0 p1 p2 p3 p4 p5 h0 n0 v U'.heap L ∧ FrameEnd U o U' L room_1.cells room_1.slots) := by
  refine MetFree.of_bodySF (plainFor_of_name own_pn_com_example_likelihood_likelihood_index_PostingsShortLengthPinLaw) hisR ?_
  intro p e s m args below meth c s₁ Bd hml0 hP hKq_
  obtain ⟨rfl, hZ, hh⟩ := hP
  have hx := Bd.exec
  have hby := Bd.bytes
  have hml : c.maxLocals = 19 := hml0
  have hown : s.vm.findClass "com/example/likelihood/likelihood/index/PostingsShortLengthPinLaw" = some m.cls := findClass_of_methodNamed Bd.named
  have hnm := (name_of_methodNamed Bd.named Bd.method).1
  have X0 : Stand p l e room_1 s m #[(.int p0), (.int p1), (.int p2), (.int p3), (.int p4), (.int p5)] below meth c s₁ [] 0 0 := Stand.of_body Bd
  have e0 : s₁.heap = h0 := by rw [← hh, Bd.state]; rfl
  have N0 := Fr.nil n0
  have pre0 : ∀ t, Steps p.tables e below (s₁.setTop (mkF m 0 #[.val (.int p0), .val (.int p1), .val (.int p2), .val (.int p3), .val (.int p4), .val (.int p5), .unset, .unset, .unset, .unset, .unset, .unset, .unset, .unset, .unset, .unset, .unset, .unset, .unset] [])) t → Steps p.tables e below (s₁.setTop (entryFrame m #[(.int p0), (.int p1), (.int p2), (.int p3), (.int p4), (.int p5)] maxLocals)) t := fun t k => castTop (own_ef_law m p0 p1 p2 p3 p4 p5) k
  refine own_go pre0 ?_
  refine own_abs ?_
  intro Pf hPf
  have k1 : ∀ t, Steps p.tables e below (s₁.setTop (mkF m 28 #[.val (.int p0), .val (.int p1), .val (.int p2), .val (.int p3), .val (.int p4), .val (.int p5), .val (.int (p0 &&& (255 : Int32))), .val (.int (p1 &&& (255 : Int32))), .val (.int (p2 &&& (255 : Int32))), .val (.int (p3 &&& (255 : Int32))), .unset, .unset, .unset, .unset, .unset, .unset, .unset, .unset, .unset] [])) t → Steps p.tables e below (s₁.setTop (mkF m 0 #[.val (.int p0), .val (.int p1), .val (.int p2), .val (.int p3), .val (.int p4), .val (.int p5), .unset, .unset, .unset, .unset, .unset, .unset, .unset, .unset, .unset, .unset, .unset, .unset, .unset] [])) t := fun t k => by
    refine XS.iloadN X0.here hx rfl (hb hby at_0) rfl ?_
    show Steps p.tables e below (s₁.setTop (mkF m 1 #[.val (.int p0), .val (.int p1), .val (.int p2), .val (.int p3), .val (.int p4), .val (.int p5), .unset, .unset, .unset, .unset, .unset, .unset, .unset, .unset, .unset, .unset, .unset, .unset, .unset] [(.int p0)])) _
    refine XS.sipush X0.here hx rfl (hb hby at_1) ?_
    show Steps p.tables e below (s₁.setTop (mkF m 4 #[.val (.int p0), .val (.int p1), .val (.int p2), .val (.int p3), .val (.int p4), .val (.int p5), .unset, .unset, .unset, .unset, .unset, .unset, .unset, .unset, .unset, .unset, .unset, .unset, .unset] [(.int (255 : Int32)), (.int p0)])) _
    refine XS.iand X0.here hx rfl (hb hby at_4) rfl ?_
    show Steps p.tables e below (s₁.setTop (mkF m 5 #[.val (.int p0), .val (.int p1), .val (.int p2), .val (.int p3), .val (.int p4), .val (.int p5), .unset, .unset, .unset, .unset, .unset, .unset, .unset, .unset, .unset, .unset, .unset, .unset, .unset] [(.int (p0 &&& (255 : Int32)))])) _
    refine XS.istore X0.here hx rfl (hb hby at_5) rfl (l' := #[.val (.int p0), .val (.int p1), .val (.int p2), .val (.int p3), .val (.int p4), .val (.int p5), .val (.int (p0 &&& (255 : Int32))), .unset, .unset, .unset, .unset, .unset, .unset, .unset, .unset, .unset, .unset, .unset, .unset]) rfl ?_
    show Steps p.tables e below (s₁.setTop (mkF m 7 #[.val (.int p0), .val (.int p1), .val (.int p2), .val (.int p3), .val (.int p4), .val (.int p5), .val (.int (p0 &&& (255 : Int32))), .unset, .unset, .unset, .unset, .unset, .unset, .unset, .unset, .unset, .unset, .unset, .unset] [])) _
    refine XS.iloadN X0.here hx rfl (hb hby at_7) rfl ?_
    show Steps p.tables e below (s₁.setTop (mkF m 8 #[.val (.int p0), .val (.int p1), .val (.int p2), .val (.int p3), .val (.int p4), .val (.int p5), .val (.int (p0 &&& (255 : Int32))), .unset, .unset, .unset, .unset, .unset, .unset, .unset, .unset, .unset, .unset, .unset, .unset] [(.int p1)])) _
    refine XS.sipush X0.here hx rfl (hb hby at_8) ?_
    show Steps p.tables e below (s₁.setTop (mkF m 11 #[.val (.int p0), .val (.int p1), .val (.int p2), .val (.int p3), .val (.int p4), .val (.int p5), .val (.int (p0 &&& (255 : Int32))), .unset, .unset, .unset, .unset, .unset, .unset, .unset, .unset, .unset, .unset, .unset, .unset] [(.int (255 : Int32)), (.int p1)])) _
    refine XS.iand X0.here hx rfl (hb hby at_11) rfl ?_
    show Steps p.tables e below (s₁.setTop (mkF m 12 #[.val (.int p0), .val (.int p1), .val (.int p2), .val (.int p3), .val (.int p4), .val (.int p5), .val (.int (p0 &&& (255 : Int32))), .unset, .unset, .unset, .unset, .unset, .unset, .unset, .unset, .unset, .unset, .unset, .unset] [(.int (p1 &&& (255 : Int32)))])) _
    refine XS.istore X0.here hx rfl (hb hby at_12) rfl (l' := #[.val (.int p0), .val (.int p1), .val (.int p2), .val (.int p3), .val (.int p4), .val (.int p5), .val (.int (p0 &&& (255 : Int32))), .val (.int (p1 &&& (255 : Int32))), .unset, .unset, .unset, .unset, .unset, .unset, .unset, .unset, .unset, .unset, .unset]) rfl ?_
    show Steps p.tables e below (s₁.setTop (mkF m 14 #[.val (.int p0), .val (.int p1), .val (.int p2), .val (.int p3), .val (.int p4), .val (.int p5), .val (.int (p0 &&& (255 : Int32))), .val (.int (p1 &&& (255 : Int32))), .unset, .unset, .unset, .unset, .unset, .unset, .unset, .unset, .unset, .unset, .unset] [])) _
    refine XS.iloadN X0.here hx rfl (hb hby at_14) rfl ?_
    show Steps p.tables e below (s₁.setTop (mkF m 15 #[.val (.int p0), .val (.int p1), .val (.int p2), .val (.int p3), .val (.int p4), .val (.int p5), .val (.int (p0 &&& (255 : Int32))), .val (.int (p1 &&& (255 : Int32))), .unset, .unset, .unset, .unset, .unset, .unset, .unset, .unset, .unset, .unset, .unset] [(.int p2)])) _
    refine XS.sipush X0.here hx rfl (hb hby at_15) ?_
    show Steps p.tables e below (s₁.setTop (mkF m 18 #[.val (.int p0), .val (.int p1), .val (.int p2), .val (.int p3), .val (.int p4), .val (.int p5), .val (.int (p0 &&& (255 : Int32))), .val (.int (p1 &&& (255 : Int32))), .unset, .unset, .unset, .unset, .unset, .unset, .unset, .unset, .unset, .unset, .unset] [(.int (255 : Int32)), (.int p2)])) _
    refine XS.iand X0.here hx rfl (hb hby at_18) rfl ?_
    show Steps p.tables e below (s₁.setTop (mkF m 19 #[.val (.int p0), .val (.int p1), .val (.int p2), .val (.int p3), .val (.int p4), .val (.int p5), .val (.int (p0 &&& (255 : Int32))), .val (.int (p1 &&& (255 : Int32))), .unset, .unset, .unset, .unset, .unset, .unset, .unset, .unset, .unset, .unset, .unset] [(.int (p2 &&& (255 : Int32)))])) _
    refine XS.istore X0.here hx rfl (hb hby at_19) rfl (l' := #[.val (.int p0), .val (.int p1), .val (.int p2), .val (.int p3), .val (.int p4), .val (.int p5), .val (.int (p0 &&& (255 : Int32))), .val (.int (p1 &&& (255 : Int32))), .val (.int (p2 &&& (255 : Int32))), .unset, .unset, .unset, .unset, .unset, .unset, .unset, .unset, .unset, .unset]) rfl ?_
    show Steps p.tables e below (s₁.setTop (mkF m 21 #[.val (.int p0), .val (.int p1), .val (.int p2), .val (.int p3), .val (.int p4), .val (.int p5), .val (.int (p0 &&& (255 : Int32))), .val (.int (p1 &&& (255 : Int32))), .val (.int (p2 &&& (255 : Int32))), .unset, .unset, .unset, .unset, .unset, .unset, .unset, .unset, .unset, .unset] [])) _
    refine XS.iloadN X0.here hx rfl (hb hby at_21) rfl ?_
    show Steps p.tables e below (s₁.setTop (mkF m 22 #[.val (.int p0), .val (.int p1), .val (.int p2), .val (.int p3), .val (.int p4), .val (.int p5), .val (.int (p0 &&& (255 : Int32))), .val (.int (p1 &&& (255 : Int32))), .val (.int (p2 &&& (255 : Int32))), .unset, .unset, .unset, .unset, .unset, .unset, .unset, .unset, .unset, .unset] [(.int p3)])) _
    refine XS.sipush X0.here hx rfl (hb hby at_22) ?_
    show Steps p.tables e below (s₁.setTop (mkF m 25 #[.val (.int p0), .val (.int p1), .val (.int p2), .val (.int p3), .val (.int p4), .val (.int p5), .val (.int (p0 &&& (255 : Int32))), .val (.int (p1 &&& (255 : Int32))), .val (.int (p2 &&& (255 : Int32))), .unset, .unset, .unset, .unset, .unset, .unset, .unset, .unset, .unset, .unset] [(.int (255 : Int32)), (.int p3)])) _
    refine XS.iand X0.here hx rfl (hb hby at_25) rfl ?_
    show Steps p.tables e below (s₁.setTop (mkF m 26 #[.val (.int p0), .val (.int p1), .val (.int p2), .val (.int p3), .val (.int p4), .val (.int p5), .val (.int (p0 &&& (255 : Int32))), .val (.int (p1 &&& (255 : Int32))), .val (.int (p2 &&& (255 : Int32))), .unset, .unset, .unset, .unset, .unset, .unset, .unset, .unset, .unset, .unset] [(.int (p3 &&& (255 : Int32)))])) _
    refine XS.istore X0.here hx rfl (hb hby at_26) rfl (l' := #[.val (.int p0), .val (.int p1), .val (.int p2), .val (.int p3), .val (.int p4), .val (.int p5), .val (.int (p0 &&& (255 : Int32))), .val (.int (p1 &&& (255 : Int32))), .val (.int (p2 &&& (255 : Int32))), .val (.int (p3 &&& (255 : Int32))), .unset, .unset, .unset, .unset, .unset, .unset, .unset, .unset, .unset]) rfl ?_
    show Steps p.tables e below (s₁.setTop (mkF m 28 #[.val (.int p0), .val (.int p1), .val (.int p2), .val (.int p3), .val (.int p4), .val (.int p5), .val (.int (p0 &&& (255 : Int32))), .val (.int (p1 &&& (255 : Int32))), .val (.int (p2 &&& (255 : Int32))), .val (.int (p3 &&& (255 : Int32))), .unset, .unset, .unset, .unset, .unset, .unset, .unset, .unset, .unset] [])) _
    exact k
  refine own_go k1 ?_
  clear k1
  obtain ⟨x0, h_x0⟩ : ∃ z, z = (p0 &&& (255 : Int32)) := ⟨_, rfl⟩
  rw [← h_x0]
  obtain ⟨x1, h_x1⟩ : ∃ z, z = (p1 &&& (255 : Int32)) := ⟨_, rfl⟩
  rw [← h_x1]
  obtain ⟨x2, h_x2⟩ : ∃ z, z = (p2 &&& (255 : Int32)) := ⟨_, rfl⟩
  rw [← h_x2]
  obtain ⟨x3, h_x3⟩ : ∃ z, z = (p3 &&& (255 : Int32)) := ⟨_, rfl⟩
  rw [← h_x3]
  have r0 : 0 ≤ x0.toInt ∧ x0.toInt < 256 := by rw [h_x0]; exact own_r8 _
  have r1 : 0 ≤ x1.toInt ∧ x1.toInt < 256 := by rw [h_x1]; exact own_r8 _
  have r2 : 0 ≤ x2.toInt ∧ x2.toInt < 256 := by rw [h_x2]; exact own_r8 _
  have r3 : 0 ≤ x3.toInt ∧ x3.toInt < 256 := by rw [h_x3]; exact own_r8 _
  have k2 : ∀ t, Steps p.tables e below (s₁.setTop (mkF m 48 #[.val (.int p0), .val (.int p1), .val (.int p2), .val (.int p3), .val (.int p4), .val (.int p5), .val (.int x0), .val (.int x1), .val (.int x2), .val (.int x3), .unset, .unset, .unset, .unset, .unset, .unset, .unset, .unset, .unset] [(.int ((((x0 <<< ((24 : Int32) &&& 31)) ||| (x1 <<< ((16 : Int32) &&& 31))) ||| (x2 <<< ((8 : Int32) &&& 31))) ||| x3))])) t → Steps p.tables e below (s₁.setTop (mkF m 28 #[.val (.int p0), .val (.int p1), .val (.int p2), .val (.int p3), .val (.int p4), .val (.int p5), .val (.int x0), .val (.int x1), .val (.int x2), .val (.int x3), .unset, .unset, .unset, .unset, .unset, .unset, .unset, .unset, .unset] [])) t := fun t k => by
    refine XS.iload X0.here hx rfl (hb hby at_28) rfl ?_
    show Steps p.tables e below (s₁.setTop (mkF m 30 #[.val (.int p0), .val (.int p1), .val (.int p2), .val (.int p3), .val (.int p4), .val (.int p5), .val (.int x0), .val (.int x1), .val (.int x2), .val (.int x3), .unset, .unset, .unset, .unset, .unset, .unset, .unset, .unset, .unset] [(.int x0)])) _
    refine XS.bipush X0.here hx rfl (hb hby at_30) ?_
    show Steps p.tables e below (s₁.setTop (mkF m 32 #[.val (.int p0), .val (.int p1), .val (.int p2), .val (.int p3), .val (.int p4), .val (.int p5), .val (.int x0), .val (.int x1), .val (.int x2), .val (.int x3), .unset, .unset, .unset, .unset, .unset, .unset, .unset, .unset, .unset] [(.int (24 : Int32)), (.int x0)])) _
    refine XS.ishl X0.here hx rfl (hb hby at_32) rfl ?_
    show Steps p.tables e below (s₁.setTop (mkF m 33 #[.val (.int p0), .val (.int p1), .val (.int p2), .val (.int p3), .val (.int p4), .val (.int p5), .val (.int x0), .val (.int x1), .val (.int x2), .val (.int x3), .unset, .unset, .unset, .unset, .unset, .unset, .unset, .unset, .unset] [(.int (x0 <<< ((24 : Int32) &&& 31)))])) _
    refine XS.iload X0.here hx rfl (hb hby at_33) rfl ?_
    show Steps p.tables e below (s₁.setTop (mkF m 35 #[.val (.int p0), .val (.int p1), .val (.int p2), .val (.int p3), .val (.int p4), .val (.int p5), .val (.int x0), .val (.int x1), .val (.int x2), .val (.int x3), .unset, .unset, .unset, .unset, .unset, .unset, .unset, .unset, .unset] [(.int x1), (.int (x0 <<< ((24 : Int32) &&& 31)))])) _
    refine XS.bipush X0.here hx rfl (hb hby at_35) ?_
    show Steps p.tables e below (s₁.setTop (mkF m 37 #[.val (.int p0), .val (.int p1), .val (.int p2), .val (.int p3), .val (.int p4), .val (.int p5), .val (.int x0), .val (.int x1), .val (.int x2), .val (.int x3), .unset, .unset, .unset, .unset, .unset, .unset, .unset, .unset, .unset] [(.int (16 : Int32)), (.int x1), (.int (x0 <<< ((24 : Int32) &&& 31)))])) _
    refine XS.ishl X0.here hx rfl (hb hby at_37) rfl ?_
    show Steps p.tables e below (s₁.setTop (mkF m 38 #[.val (.int p0), .val (.int p1), .val (.int p2), .val (.int p3), .val (.int p4), .val (.int p5), .val (.int x0), .val (.int x1), .val (.int x2), .val (.int x3), .unset, .unset, .unset, .unset, .unset, .unset, .unset, .unset, .unset] [(.int (x1 <<< ((16 : Int32) &&& 31))), (.int (x0 <<< ((24 : Int32) &&& 31)))])) _
    refine XS.ior X0.here hx rfl (hb hby at_38) rfl ?_
    show Steps p.tables e below (s₁.setTop (mkF m 39 #[.val (.int p0), .val (.int p1), .val (.int p2), .val (.int p3), .val (.int p4), .val (.int p5), .val (.int x0), .val (.int x1), .val (.int x2), .val (.int x3), .unset, .unset, .unset, .unset, .unset, .unset, .unset, .unset, .unset] [(.int ((x0 <<< ((24 : Int32) &&& 31)) ||| (x1 <<< ((16 : Int32) &&& 31))))])) _
    refine XS.iload X0.here hx rfl (hb hby at_39) rfl ?_
    show Steps p.tables e below (s₁.setTop (mkF m 41 #[.val (.int p0), .val (.int p1), .val (.int p2), .val (.int p3), .val (.int p4), .val (.int p5), .val (.int x0), .val (.int x1), .val (.int x2), .val (.int x3), .unset, .unset, .unset, .unset, .unset, .unset, .unset, .unset, .unset] [(.int x2), (.int ((x0 <<< ((24 : Int32) &&& 31)) ||| (x1 <<< ((16 : Int32) &&& 31))))])) _
    refine XS.bipush X0.here hx rfl (hb hby at_41) ?_
    show Steps p.tables e below (s₁.setTop (mkF m 43 #[.val (.int p0), .val (.int p1), .val (.int p2), .val (.int p3), .val (.int p4), .val (.int p5), .val (.int x0), .val (.int x1), .val (.int x2), .val (.int x3), .unset, .unset, .unset, .unset, .unset, .unset, .unset, .unset, .unset] [(.int (8 : Int32)), (.int x2), (.int ((x0 <<< ((24 : Int32) &&& 31)) ||| (x1 <<< ((16 : Int32) &&& 31))))])) _
    refine XS.ishl X0.here hx rfl (hb hby at_43) rfl ?_
    show Steps p.tables e below (s₁.setTop (mkF m 44 #[.val (.int p0), .val (.int p1), .val (.int p2), .val (.int p3), .val (.int p4), .val (.int p5), .val (.int x0), .val (.int x1), .val (.int x2), .val (.int x3), .unset, .unset, .unset, .unset, .unset, .unset, .unset, .unset, .unset] [(.int (x2 <<< ((8 : Int32) &&& 31))), (.int ((x0 <<< ((24 : Int32) &&& 31)) ||| (x1 <<< ((16 : Int32) &&& 31))))])) _
    refine XS.ior X0.here hx rfl (hb hby at_44) rfl ?_
    show Steps p.tables e below (s₁.setTop (mkF m 45 #[.val (.int p0), .val (.int p1), .val (.int p2), .val (.int p3), .val (.int p4), .val (.int p5), .val (.int x0), .val (.int x1), .val (.int x2), .val (.int x3), .unset, .unset, .unset, .unset, .unset, .unset, .unset, .unset, .unset] [(.int (((x0 <<< ((24 : Int32) &&& 31)) ||| (x1 <<< ((16 : Int32) &&& 31))) ||| (x2 <<< ((8 : Int32) &&& 31))))])) _
    refine XS.iload X0.here hx rfl (hb hby at_45) rfl ?_
    show Steps p.tables e below (s₁.setTop (mkF m 47 #[.val (.int p0), .val (.int p1), .val (.int p2), .val (.int p3), .val (.int p4), .val (.int p5), .val (.int x0), .val (.int x1), .val (.int x2), .val (.int x3), .unset, .unset, .unset, .unset, .unset, .unset, .unset, .unset, .unset] [(.int x3), (.int (((x0 <<< ((24 : Int32) &&& 31)) ||| (x1 <<< ((16 : Int32) &&& 31))) ||| (x2 <<< ((8 : Int32) &&& 31))))])) _
    refine XS.ior X0.here hx rfl (hb hby at_47) rfl ?_
    show Steps p.tables e below (s₁.setTop (mkF m 48 #[.val (.int p0), .val (.int p1), .val (.int p2), .val (.int p3), .val (.int p4), .val (.int p5), .val (.int x0), .val (.int x1), .val (.int x2), .val (.int x3), .unset, .unset, .unset, .unset, .unset, .unset, .unset, .unset, .unset] [(.int ((((x0 <<< ((24 : Int32) &&& 31)) ||| (x1 <<< ((16 : Int32) &&& 31))) ||| (x2 <<< ((8 : Int32) &&& 31))) ||| x3))])) _
    exact k
  refine own_go k2 ?_
  clear k2
  obtain ⟨ww, h_ww⟩ : ∃ z, z = ((((x0 <<< ((24 : Int32) &&& 31)) ||| (x1 <<< ((16 : Int32) &&& 31))) ||| (x2 <<< ((8 : Int32) &&& 31))) ||| x3) := ⟨_, rfl⟩
  rw [← h_ww]
  have hww : ww = own_w x0 x1 x2 x3 := h_ww
  obtain ⟨y0, y1, y2, y3⟩ := own_bytes r0 r1 r2 r3
  rw [← hww] at y0 y1 y2 y3
  have k3 : ∀ t, Steps p.tables e below (s₁.setTop (mkF m 62 #[.val (.int p0), .val (.int p1), .val (.int p2), .val (.int p3), .val (.int p4), .val (.int p5), .val (.int x0), .val (.int x1), .val (.int x2), .val (.int x3), .val (.int ww), .val (.int (p5 &&& (3 : Int32))), .val (.int (p4 &&& (3 : Int32))), .unset, .unset, .unset, .unset, .unset, .unset] [])) t → Steps p.tables e below (s₁.setTop (mkF m 48 #[.val (.int p0), .val (.int p1), .val (.int p2), .val (.int p3), .val (.int p4), .val (.int p5), .val (.int x0), .val (.int x1), .val (.int x2), .val (.int x3), .unset, .unset, .unset, .unset, .unset, .unset, .unset, .unset, .unset] [(.int ww)])) t := fun t k => by
    refine XS.istore X0.here hx rfl (hb hby at_48) rfl (l' := #[.val (.int p0), .val (.int p1), .val (.int p2), .val (.int p3), .val (.int p4), .val (.int p5), .val (.int x0), .val (.int x1), .val (.int x2), .val (.int x3), .val (.int ww), .unset, .unset, .unset, .unset, .unset, .unset, .unset, .unset]) rfl ?_
    show Steps p.tables e below (s₁.setTop (mkF m 50 #[.val (.int p0), .val (.int p1), .val (.int p2), .val (.int p3), .val (.int p4), .val (.int p5), .val (.int x0), .val (.int x1), .val (.int x2), .val (.int x3), .val (.int ww), .unset, .unset, .unset, .unset, .unset, .unset, .unset, .unset] [])) _
    refine XS.iload X0.here hx rfl (hb hby at_50) rfl ?_
    show Steps p.tables e below (s₁.setTop (mkF m 52 #[.val (.int p0), .val (.int p1), .val (.int p2), .val (.int p3), .val (.int p4), .val (.int p5), .val (.int x0), .val (.int x1), .val (.int x2), .val (.int x3), .val (.int ww), .unset, .unset, .unset, .unset, .unset, .unset, .unset, .unset] [(.int p5)])) _
    refine XS.iconst X0.here hx rfl (hb hby at_52) ?_
    show Steps p.tables e below (s₁.setTop (mkF m 53 #[.val (.int p0), .val (.int p1), .val (.int p2), .val (.int p3), .val (.int p4), .val (.int p5), .val (.int x0), .val (.int x1), .val (.int x2), .val (.int x3), .val (.int ww), .unset, .unset, .unset, .unset, .unset, .unset, .unset, .unset] [(.int (3 : Int32)), (.int p5)])) _
    refine XS.iand X0.here hx rfl (hb hby at_53) rfl ?_
    show Steps p.tables e below (s₁.setTop (mkF m 54 #[.val (.int p0), .val (.int p1), .val (.int p2), .val (.int p3), .val (.int p4), .val (.int p5), .val (.int x0), .val (.int x1), .val (.int x2), .val (.int x3), .val (.int ww), .unset, .unset, .unset, .unset, .unset, .unset, .unset, .unset] [(.int (p5 &&& (3 : Int32)))])) _
    refine XS.istore X0.here hx rfl (hb hby at_54) rfl (l' := #[.val (.int p0), .val (.int p1), .val (.int p2), .val (.int p3), .val (.int p4), .val (.int p5), .val (.int x0), .val (.int x1), .val (.int x2), .val (.int x3), .val (.int ww), .val (.int (p5 &&& (3 : Int32))), .unset, .unset, .unset, .unset, .unset, .unset, .unset]) rfl ?_
    show Steps p.tables e below (s₁.setTop (mkF m 56 #[.val (.int p0), .val (.int p1), .val (.int p2), .val (.int p3), .val (.int p4), .val (.int p5), .val (.int x0), .val (.int x1), .val (.int x2), .val (.int x3), .val (.int ww), .val (.int (p5 &&& (3 : Int32))), .unset, .unset, .unset, .unset, .unset, .unset, .unset] [])) _
    refine XS.iload X0.here hx rfl (hb hby at_56) rfl ?_
    show Steps p.tables e below (s₁.setTop (mkF m 58 #[.val (.int p0), .val (.int p1), .val (.int p2), .val (.int p3), .val (.int p4), .val (.int p5), .val (.int x0), .val (.int x1), .val (.int x2), .val (.int x3), .val (.int ww), .val (.int (p5 &&& (3 : Int32))), .unset, .unset, .unset, .unset, .unset, .unset, .unset] [(.int p4)])) _
    refine XS.iconst X0.here hx rfl (hb hby at_58) ?_
    show Steps p.tables e below (s₁.setTop (mkF m 59 #[.val (.int p0), .val (.int p1), .val (.int p2), .val (.int p3), .val (.int p4), .val (.int p5), .val (.int x0), .val (.int x1), .val (.int x2), .val (.int x3), .val (.int ww), .val (.int (p5 &&& (3 : Int32))), .unset, .unset, .unset, .unset, .unset, .unset, .unset] [(.int (3 : Int32)), (.int p4)])) _
    refine XS.iand X0.here hx rfl (hb hby at_59) rfl ?_
    show Steps p.tables e below (s₁.setTop (mkF m 60 #[.val (.int p0), .val (.int p1), .val (.int p2), .val (.int p3), .val (.int p4), .val (.int p5), .val (.int x0), .val (.int x1), .val (.int x2), .val (.int x3), .val (.int ww), .val (.int (p5 &&& (3 : Int32))), .unset, .unset, .unset, .unset, .unset, .unset, .unset] [(.int (p4 &&& (3 : Int32)))])) _
    refine XS.istore X0.here hx rfl (hb hby at_60) rfl (l' := #[.val (.int p0), .val (.int p1), .val (.int p2), .val (.int p3), .val (.int p4), .val (.int p5), .val (.int x0), .val (.int x1), .val (.int x2), .val (.int x3), .val (.int ww), .val (.int (p5 &&& (3 : Int32))), .val (.int (p4 &&& (3 : Int32))), .unset, .unset, .unset, .unset, .unset, .unset]) rfl ?_
    show Steps p.tables e below (s₁.setTop (mkF m 62 #[.val (.int p0), .val (.int p1), .val (.int p2), .val (.int p3), .val (.int p4), .val (.int p5), .val (.int x0), .val (.int x1), .val (.int x2), .val (.int x3), .val (.int ww), .val (.int (p5 &&& (3 : Int32))), .val (.int (p4 &&& (3 : Int32))), .unset, .unset, .unset, .unset, .unset, .unset] [])) _
    exact k
  refine own_go k3 ?_
  clear k3
  obtain ⟨q, h_q⟩ : ∃ z, z = (p5 &&& (3 : Int32)) := ⟨_, rfl⟩
  rw [← h_q]
  obtain ⟨sq, h_sq⟩ : ∃ z, z = (p4 &&& (3 : Int32)) := ⟨_, rfl⟩
  rw [← h_sq]
  have c1 : q = 0 ∨ q = 1 ∨ q = 2 ∨ q = 3 := by rw [h_q]; exact own_m3 _
  have c2 : sq = 0 ∨ sq = 1 ∨ sq = 2 ∨ sq = 3 := by rw [h_sq]; exact own_m3 _
  have hin : ¬ (sq + q) < 0 ∧ (sq + q) < 8 := by clear hww y0 y1 y2 y3; rcases c1 with c1 | c1 | c1 | c1 <;> rcases c2 with c2 | c2 | c2 | c2 <;> subst c1 <;> subst c2 <;> decide
  have hq0 : ((4 : Int32) * q) / (4 : Int32) = q ∧ ((4 : Int32) * q) % (4 : Int32) = 0 := by rcases c1 with c1 | c1 | c1 | c1 <;> subst c1 <;> decide
  have hq0b : ¬ (sq + (((4 : Int32) * q) / (4 : Int32))) < 0 ∧ (sq + (((4 : Int32) * q) / (4 : Int32))) < 8 := by rw [hq0.1]; exact hin
  have hq1 : (((4 : Int32) * q) + (1 : Int32)) / (4 : Int32) = q ∧ (((4 : Int32) * q) + (1 : Int32)) % (4 : Int32) = 1 := by rcases c1 with c1 | c1 | c1 | c1 <;> subst c1 <;> decide
  have hq1b : ¬ (sq + ((((4 : Int32) * q) + (1 : Int32)) / (4 : Int32))) < 0 ∧ (sq + ((((4 : Int32) * q) + (1 : Int32)) / (4 : Int32))) < 8 := by rw [hq1.1]; exact hin
  have hq2 : (((4 : Int32) * q) + (2 : Int32)) / (4 : Int32) = q ∧ (((4 : Int32) * q) + (2 : Int32)) % (4 : Int32) = 2 := by rcases c1 with c1 | c1 | c1 | c1 <;> subst c1 <;> decide
  have hq2b : ¬ (sq + ((((4 : Int32) * q) + (2 : Int32)) / (4 : Int32))) < 0 ∧ (sq + ((((4 : Int32) * q) + (2 : Int32)) / (4 : Int32))) < 8 := by rw [hq2.1]; exact hin
  have hq3 : (((4 : Int32) * q) + (3 : Int32)) / (4 : Int32) = q ∧ (((4 : Int32) * q) + (3 : Int32)) % (4 : Int32) = 3 := by rcases c1 with c1 | c1 | c1 | c1 <;> subst c1 <;> decide
  have hq3b : ¬ (sq + ((((4 : Int32) * q) + (3 : Int32)) / (4 : Int32))) < 0 ∧ (sq + ((((4 : Int32) * q) + (3 : Int32)) / (4 : Int32))) < 8 := by rw [hq3.1]; exact hin
  have hlt : (sq + q).toNatClampNeg < 8 := by rcases c1 with c1 | c1 | c1 | c1 <;> rcases c2 with c2 | c2 | c2 | c2 <;> subst c1 <;> subst c2 <;> decide
  have k4 : ∀ t, Steps p.tables e below (s₁.setTop (mkF m 64 #[.val (.int p0), .val (.int p1), .val (.int p2), .val (.int p3), .val (.int p4), .val (.int p5), .val (.int x0), .val (.int x1), .val (.int x2), .val (.int x3), .val (.int ww), .val (.int q), .val (.int sq), .unset, .unset, .unset, .unset, .unset, .unset] [(.int (8 : Int32))])) t → Steps p.tables e below (s₁.setTop (mkF m 62 #[.val (.int p0), .val (.int p1), .val (.int p2), .val (.int p3), .val (.int p4), .val (.int p5), .val (.int x0), .val (.int x1), .val (.int x2), .val (.int x3), .val (.int ww), .val (.int q), .val (.int sq), .unset, .unset, .unset, .unset, .unset, .unset] [])) t := fun t k => by
    refine XS.bipush X0.here hx rfl (hb hby at_62) ?_
    show Steps p.tables e below (s₁.setTop (mkF m 64 #[.val (.int p0), .val (.int p1), .val (.int p2), .val (.int p3), .val (.int p4), .val (.int p5), .val (.int x0), .val (.int x1), .val (.int x2), .val (.int x3), .val (.int ww), .val (.int q), .val (.int sq), .unset, .unset, .unset, .unset, .unset, .unset] [(.int (8 : Int32))])) _
    exact k
  refine own_go k4 ?_
  clear k4
  obtain ⟨T5, h5, k5, X5, e5, E5, A5, st5⟩ := newP X0 hx hZ (hw _ (List.mem_of_getElem? (i := 0) rfl)) e0 (g := (mkF m 64 #[.val (.int p0), .val (.int p1), .val (.int p2), .val (.int p3), .val (.int p4), .val (.int p5), .val (.int x0), .val (.int x1), .val (.int x2), .val (.int x3), .val (.int ww), .val (.int q), .val (.int sq), .unset, .unset, .unset, .unset, .unset, .unset] [(.int (8 : Int32))])) rfl (hb hby at_64) rfl (by decide) (cap := 8) (by decide) (by decide) (by decide) (by decide)
  obtain ⟨b5, g5⟩ : ∃ z, z = h0.size := ⟨_, rfl⟩
  rw [← g5] at A5 st5
  refine own_go st5 ?_
  have g_b5 : n0 ≤ b5 := Nat.le_trans Z0 (Nat.le_of_eq g5.symm)
  have Z5 : n0 ≤ h5.size := Nat.le_trans Z0 E5.1
  have V5 : Arv Z h5 b5 k5 .int (8 : Int32) [(.int (0 : Int32)), (.int (0 : Int32)), (.int (0 : Int32)), (.int (0 : Int32)), (.int (0 : Int32)), (.int (0 : Int32)), (.int (0 : Int32)), (.int (0 : Int32))] (.int (0 : Int32)) := (Arv.new A5 (by decide)).pad (pad_rep [] (.int (0 : Int32)) 8)
  have k6 : ∀ t, Steps p.tables e below (T5.setTop (mkF m 75 #[.val (.int p0), .val (.int p1), .val (.int p2), .val (.int p3), .val (.int p4), .val (.int p5), .val (.int x0), .val (.int x1), .val (.int x2), .val (.int x3), .val (.int ww), .val (.int q), .val (.int sq), .val (.ref b5), .unset, .unset, .unset, .unset, .unset] [(.int (ww ^^^ (-1 : Int32))), (.int (0 : Int32)), (.ref b5)])) t → Steps p.tables e below (T5.setTop (mkF m 66 #[.val (.int p0), .val (.int p1), .val (.int p2), .val (.int p3), .val (.int p4), .val (.int p5), .val (.int x0), .val (.int x1), .val (.int x2), .val (.int x3), .val (.int ww), .val (.int q), .val (.int sq), .unset, .unset, .unset, .unset, .unset, .unset] [(.ref b5)])) t := fun t k => by
    refine XS.astore X5.here hx rfl (hb hby at_66) rfl rfl (l' := #[.val (.int p0), .val (.int p1), .val (.int p2), .val (.int p3), .val (.int p4), .val (.int p5), .val (.int x0), .val (.int x1), .val (.int x2), .val (.int x3), .val (.int ww), .val (.int q), .val (.int sq), .val (.ref b5), .unset, .unset, .unset, .unset, .unset]) rfl ?_
    show Steps p.tables e below (T5.setTop (mkF m 68 #[.val (.int p0), .val (.int p1), .val (.int p2), .val (.int p3), .val (.int p4), .val (.int p5), .val (.int x0), .val (.int x1), .val (.int x2), .val (.int x3), .val (.int ww), .val (.int q), .val (.int sq), .val (.ref b5), .unset, .unset, .unset, .unset, .unset] [])) _
    refine XS.aload X5.here hx rfl (hb hby at_68) rfl rfl ?_
    show Steps p.tables e below (T5.setTop (mkF m 70 #[.val (.int p0), .val (.int p1), .val (.int p2), .val (.int p3), .val (.int p4), .val (.int p5), .val (.int x0), .val (.int x1), .val (.int x2), .val (.int x3), .val (.int ww), .val (.int q), .val (.int sq), .val (.ref b5), .unset, .unset, .unset, .unset, .unset] [(.ref b5)])) _
    refine XS.iconst X5.here hx rfl (hb hby at_70) ?_
    show Steps p.tables e below (T5.setTop (mkF m 71 #[.val (.int p0), .val (.int p1), .val (.int p2), .val (.int p3), .val (.int p4), .val (.int p5), .val (.int x0), .val (.int x1), .val (.int x2), .val (.int x3), .val (.int ww), .val (.int q), .val (.int sq), .val (.ref b5), .unset, .unset, .unset, .unset, .unset] [(.int (0 : Int32)), (.ref b5)])) _
    refine XS.iload X5.here hx rfl (hb hby at_71) rfl ?_
    show Steps p.tables e below (T5.setTop (mkF m 73 #[.val (.int p0), .val (.int p1), .val (.int p2), .val (.int p3), .val (.int p4), .val (.int p5), .val (.int x0), .val (.int x1), .val (.int x2), .val (.int x3), .val (.int ww), .val (.int q), .val (.int sq), .val (.ref b5), .unset, .unset, .unset, .unset, .unset] [(.int ww), (.int (0 : Int32)), (.ref b5)])) _
    refine XS.iconst X5.here hx rfl (hb hby at_73) ?_
    show Steps p.tables e below (T5.setTop (mkF m 74 #[.val (.int p0), .val (.int p1), .val (.int p2), .val (.int p3), .val (.int p4), .val (.int p5), .val (.int x0), .val (.int x1), .val (.int x2), .val (.int x3), .val (.int ww), .val (.int q), .val (.int sq), .val (.ref b5), .unset, .unset, .unset, .unset, .unset] [(.int (-1 : Int32)), (.int ww), (.int (0 : Int32)), (.ref b5)])) _
    refine XS.ixor X5.here hx rfl (hb hby at_74) rfl ?_
    show Steps p.tables e below (T5.setTop (mkF m 75 #[.val (.int p0), .val (.int p1), .val (.int p2), .val (.int p3), .val (.int p4), .val (.int p5), .val (.int x0), .val (.int x1), .val (.int x2), .val (.int x3), .val (.int ww), .val (.int q), .val (.int sq), .val (.ref b5), .unset, .unset, .unset, .unset, .unset] [(.int (ww ^^^ (-1 : Int32))), (.int (0 : Int32)), (.ref b5)])) _
    exact k
  refine own_go k6 ?_
  clear k6
  obtain ⟨cl7, Ar7, q7, S7, N7, H7, G7⟩ := id (V5)
  have hi7 : ¬ ((0 : Int32) < 0 ∨ cl7.slots.size ≤ ((0 : Int32)).toNatClampNeg) := inb_of S7 ⟨by decide, by decide⟩
  obtain ⟨T8, h8, X8, e8, W8, st8⟩ := stI X5 hx hZ e5 Ar7 (j := (0 : Int32)) hi7 (g := (mkF m 75 #[.val (.int p0), .val (.int p1), .val (.int p2), .val (.int p3), .val (.int p4), .val (.int p5), .val (.int x0), .val (.int x1), .val (.int x2), .val (.int x3), .val (.int ww), .val (.int q), .val (.int sq), .val (.ref b5), .unset, .unset, .unset, .unset, .unset] [(.int (ww ^^^ (-1 : Int32))), (.int (0 : Int32)), (.ref b5)])) rfl rfl (hb hby at_75)
  refine own_go st8 ?_
  have V8 : Arv Z h8 b5 k5 .int (8 : Int32) [(.int (ww ^^^ (-1 : Int32))), (.int (0 : Int32)), (.int (0 : Int32)), (.int (0 : Int32)), (.int (0 : Int32)), (.int (0 : Int32)), (.int (0 : Int32)), (.int (0 : Int32))] (.int (0 : Int32)) := Arv.set Ar7 q7 S7 N7 H7 G7 rfl W8 0 rfl (Nat.le_of_ble_eq_true rfl)
  have f8_0 : Arv Z h8 b5 k5 .int (8 : Int32) [(.int (ww ^^^ (-1 : Int32))), (.int (0 : Int32)), (.int (0 : Int32)), (.int (0 : Int32)), (.int (0 : Int32)), (.int (0 : Int32)), (.int (0 : Int32)), (.int (0 : Int32))] (.int (0 : Int32)) := V8
  have N8 := Fr.snoc X8 N0 g_b5
  have Z8 : n0 ≤ h8.size := Nat.le_trans Z5 (Keep.of_wr W8).1
  have k9 : ∀ t, Steps p.tables e below (T8.setTop (mkF m 83 #[.val (.int p0), .val (.int p1), .val (.int p2), .val (.int p3), .val (.int p4), .val (.int p5), .val (.int x0), .val (.int x1), .val (.int x2), .val (.int x3), .val (.int ww), .val (.int q), .val (.int sq), .val (.ref b5), .unset, .unset, .unset, .unset, .unset] [(.int (ww ^^^ (-1 : Int32))), (.int (1 : Int32)), (.ref b5)])) t → Steps p.tables e below (T8.setTop (mkF m 76 #[.val (.int p0), .val (.int p1), .val (.int p2), .val (.int p3), .val (.int p4), .val (.int p5), .val (.int x0), .val (.int x1), .val (.int x2), .val (.int x3), .val (.int ww), .val (.int q), .val (.int sq), .val (.ref b5), .unset, .unset, .unset, .unset, .unset] [])) t := fun t k => by
    refine XS.aload X8.here hx rfl (hb hby at_76) rfl rfl ?_
    show Steps p.tables e below (T8.setTop (mkF m 78 #[.val (.int p0), .val (.int p1), .val (.int p2), .val (.int p3), .val (.int p4), .val (.int p5), .val (.int x0), .val (.int x1), .val (.int x2), .val (.int x3), .val (.int ww), .val (.int q), .val (.int sq), .val (.ref b5), .unset, .unset, .unset, .unset, .unset] [(.ref b5)])) _
    refine XS.iconst X8.here hx rfl (hb hby at_78) ?_
    show Steps p.tables e below (T8.setTop (mkF m 79 #[.val (.int p0), .val (.int p1), .val (.int p2), .val (.int p3), .val (.int p4), .val (.int p5), .val (.int x0), .val (.int x1), .val (.int x2), .val (.int x3), .val (.int ww), .val (.int q), .val (.int sq), .val (.ref b5), .unset, .unset, .unset, .unset, .unset] [(.int (1 : Int32)), (.ref b5)])) _
    refine XS.iload X8.here hx rfl (hb hby at_79) rfl ?_
    show Steps p.tables e below (T8.setTop (mkF m 81 #[.val (.int p0), .val (.int p1), .val (.int p2), .val (.int p3), .val (.int p4), .val (.int p5), .val (.int x0), .val (.int x1), .val (.int x2), .val (.int x3), .val (.int ww), .val (.int q), .val (.int sq), .val (.ref b5), .unset, .unset, .unset, .unset, .unset] [(.int ww), (.int (1 : Int32)), (.ref b5)])) _
    refine XS.iconst X8.here hx rfl (hb hby at_81) ?_
    show Steps p.tables e below (T8.setTop (mkF m 82 #[.val (.int p0), .val (.int p1), .val (.int p2), .val (.int p3), .val (.int p4), .val (.int p5), .val (.int x0), .val (.int x1), .val (.int x2), .val (.int x3), .val (.int ww), .val (.int q), .val (.int sq), .val (.ref b5), .unset, .unset, .unset, .unset, .unset] [(.int (-1 : Int32)), (.int ww), (.int (1 : Int32)), (.ref b5)])) _
    refine XS.ixor X8.here hx rfl (hb hby at_82) rfl ?_
    show Steps p.tables e below (T8.setTop (mkF m 83 #[.val (.int p0), .val (.int p1), .val (.int p2), .val (.int p3), .val (.int p4), .val (.int p5), .val (.int x0), .val (.int x1), .val (.int x2), .val (.int x3), .val (.int ww), .val (.int q), .val (.int sq), .val (.ref b5), .unset, .unset, .unset, .unset, .unset] [(.int (ww ^^^ (-1 : Int32))), (.int (1 : Int32)), (.ref b5)])) _
    exact k
  refine own_go k9 ?_
  clear k9
  obtain ⟨cl10, Ar10, q10, S10, N10, H10, G10⟩ := id (f8_0)
  have hi10 : ¬ ((1 : Int32) < 0 ∨ cl10.slots.size ≤ ((1 : Int32)).toNatClampNeg) := inb_of S10 ⟨by decide, by decide⟩
  obtain ⟨T11, h11, X11, e11, W11, st11⟩ := stI X8 hx hZ e8 Ar10 (j := (1 : Int32)) hi10 (g := (mkF m 83 #[.val (.int p0), .val (.int p1), .val (.int p2), .val (.int p3), .val (.int p4), .val (.int p5), .val (.int x0), .val (.int x1), .val (.int x2), .val (.int x3), .val (.int ww), .val (.int q), .val (.int sq), .val (.ref b5), .unset, .unset, .unset, .unset, .unset] [(.int (ww ^^^ (-1 : Int32))), (.int (1 : Int32)), (.ref b5)])) rfl rfl (hb hby at_83)
  refine own_go st11 ?_
  have V11 : Arv Z h11 b5 k5 .int (8 : Int32) [(.int (ww ^^^ (-1 : Int32))), (.int (ww ^^^ (-1 : Int32))), (.int (0 : Int32)), (.int (0 : Int32)), (.int (0 : Int32)), (.int (0 : Int32)), (.int (0 : Int32)), (.int (0 : Int32))] (.int (0 : Int32)) := Arv.set Ar10 q10 S10 N10 H10 G10 rfl W11 1 rfl (Nat.le_of_ble_eq_true rfl)
  have f11_0 : Arv Z h11 b5 k5 .int (8 : Int32) [(.int (ww ^^^ (-1 : Int32))), (.int (ww ^^^ (-1 : Int32))), (.int (0 : Int32)), (.int (0 : Int32)), (.int (0 : Int32)), (.int (0 : Int32)), (.int (0 : Int32)), (.int (0 : Int32))] (.int (0 : Int32)) := V11
  have N11 := Fr.snoc X11 N8 g_b5
  have Z11 : n0 ≤ h11.size := Nat.le_trans Z8 (Keep.of_wr W11).1
  have k12 : ∀ t, Steps p.tables e below (T11.setTop (mkF m 91 #[.val (.int p0), .val (.int p1), .val (.int p2), .val (.int p3), .val (.int p4), .val (.int p5), .val (.int x0), .val (.int x1), .val (.int x2), .val (.int x3), .val (.int ww), .val (.int q), .val (.int sq), .val (.ref b5), .unset, .unset, .unset, .unset, .unset] [(.int (ww ^^^ (-1 : Int32))), (.int (2 : Int32)), (.ref b5)])) t → Steps p.tables e below (T11.setTop (mkF m 84 #[.val (.int p0), .val (.int p1), .val (.int p2), .val (.int p3), .val (.int p4), .val (.int p5), .val (.int x0), .val (.int x1), .val (.int x2), .val (.int x3), .val (.int ww), .val (.int q), .val (.int sq), .val (.ref b5), .unset, .unset, .unset, .unset, .unset] [])) t := fun t k => by
    refine XS.aload X11.here hx rfl (hb hby at_84) rfl rfl ?_
    show Steps p.tables e below (T11.setTop (mkF m 86 #[.val (.int p0), .val (.int p1), .val (.int p2), .val (.int p3), .val (.int p4), .val (.int p5), .val (.int x0), .val (.int x1), .val (.int x2), .val (.int x3), .val (.int ww), .val (.int q), .val (.int sq), .val (.ref b5), .unset, .unset, .unset, .unset, .unset] [(.ref b5)])) _
    refine XS.iconst X11.here hx rfl (hb hby at_86) ?_
    show Steps p.tables e below (T11.setTop (mkF m 87 #[.val (.int p0), .val (.int p1), .val (.int p2), .val (.int p3), .val (.int p4), .val (.int p5), .val (.int x0), .val (.int x1), .val (.int x2), .val (.int x3), .val (.int ww), .val (.int q), .val (.int sq), .val (.ref b5), .unset, .unset, .unset, .unset, .unset] [(.int (2 : Int32)), (.ref b5)])) _
    refine XS.iload X11.here hx rfl (hb hby at_87) rfl ?_
    show Steps p.tables e below (T11.setTop (mkF m 89 #[.val (.int p0), .val (.int p1), .val (.int p2), .val (.int p3), .val (.int p4), .val (.int p5), .val (.int x0), .val (.int x1), .val (.int x2), .val (.int x3), .val (.int ww), .val (.int q), .val (.int sq), .val (.ref b5), .unset, .unset, .unset, .unset, .unset] [(.int ww), (.int (2 : Int32)), (.ref b5)])) _
    refine XS.iconst X11.here hx rfl (hb hby at_89) ?_
    show Steps p.tables e below (T11.setTop (mkF m 90 #[.val (.int p0), .val (.int p1), .val (.int p2), .val (.int p3), .val (.int p4), .val (.int p5), .val (.int x0), .val (.int x1), .val (.int x2), .val (.int x3), .val (.int ww), .val (.int q), .val (.int sq), .val (.ref b5), .unset, .unset, .unset, .unset, .unset] [(.int (-1 : Int32)), (.int ww), (.int (2 : Int32)), (.ref b5)])) _
    refine XS.ixor X11.here hx rfl (hb hby at_90) rfl ?_
    show Steps p.tables e below (T11.setTop (mkF m 91 #[.val (.int p0), .val (.int p1), .val (.int p2), .val (.int p3), .val (.int p4), .val (.int p5), .val (.int x0), .val (.int x1), .val (.int x2), .val (.int x3), .val (.int ww), .val (.int q), .val (.int sq), .val (.ref b5), .unset, .unset, .unset, .unset, .unset] [(.int (ww ^^^ (-1 : Int32))), (.int (2 : Int32)), (.ref b5)])) _
    exact k
  refine own_go k12 ?_
  clear k12
  obtain ⟨cl13, Ar13, q13, S13, N13, H13, G13⟩ := id (f11_0)
  have hi13 : ¬ ((2 : Int32) < 0 ∨ cl13.slots.size ≤ ((2 : Int32)).toNatClampNeg) := inb_of S13 ⟨by decide, by decide⟩
  obtain ⟨T14, h14, X14, e14, W14, st14⟩ := stI X11 hx hZ e11 Ar13 (j := (2 : Int32)) hi13 (g := (mkF m 91 #[.val (.int p0), .val (.int p1), .val (.int p2), .val (.int p3), .val (.int p4), .val (.int p5), .val (.int x0), .val (.int x1), .val (.int x2), .val (.int x3), .val (.int ww), .val (.int q), .val (.int sq), .val (.ref b5), .unset, .unset, .unset, .unset, .unset] [(.int (ww ^^^ (-1 : Int32))), (.int (2 : Int32)), (.ref b5)])) rfl rfl (hb hby at_91)
  refine own_go st14 ?_
  have V14 : Arv Z h14 b5 k5 .int (8 : Int32) [(.int (ww ^^^ (-1 : Int32))), (.int (ww ^^^ (-1 : Int32))), (.int (ww ^^^ (-1 : Int32))), (.int (0 : Int32)), (.int (0 : Int32)), (.int (0 : Int32)), (.int (0 : Int32)), (.int (0 : Int32))] (.int (0 : Int32)) := Arv.set Ar13 q13 S13 N13 H13 G13 rfl W14 2 rfl (Nat.le_of_ble_eq_true rfl)
  have f14_0 : Arv Z h14 b5 k5 .int (8 : Int32) [(.int (ww ^^^ (-1 : Int32))), (.int (ww ^^^ (-1 : Int32))), (.int (ww ^^^ (-1 : Int32))), (.int (0 : Int32)), (.int (0 : Int32)), (.int (0 : Int32)), (.int (0 : Int32)), (.int (0 : Int32))] (.int (0 : Int32)) := V14
  have N14 := Fr.snoc X14 N11 g_b5
  have Z14 : n0 ≤ h14.size := Nat.le_trans Z11 (Keep.of_wr W14).1
  have k15 : ∀ t, Steps p.tables e below (T14.setTop (mkF m 99 #[.val (.int p0), .val (.int p1), .val (.int p2), .val (.int p3), .val (.int p4), .val (.int p5), .val (.int x0), .val (.int x1), .val (.int x2), .val (.int x3), .val (.int ww), .val (.int q), .val (.int sq), .val (.ref b5), .unset, .unset, .unset, .unset, .unset] [(.int (ww ^^^ (-1 : Int32))), (.int (3 : Int32)), (.ref b5)])) t → Steps p.tables e below (T14.setTop (mkF m 92 #[.val (.int p0), .val (.int p1), .val (.int p2), .val (.int p3), .val (.int p4), .val (.int p5), .val (.int x0), .val (.int x1), .val (.int x2), .val (.int x3), .val (.int ww), .val (.int q), .val (.int sq), .val (.ref b5), .unset, .unset, .unset, .unset, .unset] [])) t := fun t k => by
    refine XS.aload X14.here hx rfl (hb hby at_92) rfl rfl ?_
    show Steps p.tables e below (T14.setTop (mkF m 94 #[.val (.int p0), .val (.int p1), .val (.int p2), .val (.int p3), .val (.int p4), .val (.int p5), .val (.int x0), .val (.int x1), .val (.int x2), .val (.int x3), .val (.int ww), .val (.int q), .val (.int sq), .val (.ref b5), .unset, .unset, .unset, .unset, .unset] [(.ref b5)])) _
    refine XS.iconst X14.here hx rfl (hb hby at_94) ?_
    show Steps p.tables e below (T14.setTop (mkF m 95 #[.val (.int p0), .val (.int p1), .val (.int p2), .val (.int p3), .val (.int p4), .val (.int p5), .val (.int x0), .val (.int x1), .val (.int x2), .val (.int x3), .val (.int ww), .val (.int q), .val (.int sq), .val (.ref b5), .unset, .unset, .unset, .unset, .unset] [(.int (3 : Int32)), (.ref b5)])) _
    refine XS.iload X14.here hx rfl (hb hby at_95) rfl ?_
    show Steps p.tables e below (T14.setTop (mkF m 97 #[.val (.int p0), .val (.int p1), .val (.int p2), .val (.int p3), .val (.int p4), .val (.int p5), .val (.int x0), .val (.int x1), .val (.int x2), .val (.int x3), .val (.int ww), .val (.int q), .val (.int sq), .val (.ref b5), .unset, .unset, .unset, .unset, .unset] [(.int ww), (.int (3 : Int32)), (.ref b5)])) _
    refine XS.iconst X14.here hx rfl (hb hby at_97) ?_
    show Steps p.tables e below (T14.setTop (mkF m 98 #[.val (.int p0), .val (.int p1), .val (.int p2), .val (.int p3), .val (.int p4), .val (.int p5), .val (.int x0), .val (.int x1), .val (.int x2), .val (.int x3), .val (.int ww), .val (.int q), .val (.int sq), .val (.ref b5), .unset, .unset, .unset, .unset, .unset] [(.int (-1 : Int32)), (.int ww), (.int (3 : Int32)), (.ref b5)])) _
    refine XS.ixor X14.here hx rfl (hb hby at_98) rfl ?_
    show Steps p.tables e below (T14.setTop (mkF m 99 #[.val (.int p0), .val (.int p1), .val (.int p2), .val (.int p3), .val (.int p4), .val (.int p5), .val (.int x0), .val (.int x1), .val (.int x2), .val (.int x3), .val (.int ww), .val (.int q), .val (.int sq), .val (.ref b5), .unset, .unset, .unset, .unset, .unset] [(.int (ww ^^^ (-1 : Int32))), (.int (3 : Int32)), (.ref b5)])) _
    exact k
  refine own_go k15 ?_
  clear k15
  obtain ⟨cl16, Ar16, q16, S16, N16, H16, G16⟩ := id (f14_0)
  have hi16 : ¬ ((3 : Int32) < 0 ∨ cl16.slots.size ≤ ((3 : Int32)).toNatClampNeg) := inb_of S16 ⟨by decide, by decide⟩
  obtain ⟨T17, h17, X17, e17, W17, st17⟩ := stI X14 hx hZ e14 Ar16 (j := (3 : Int32)) hi16 (g := (mkF m 99 #[.val (.int p0), .val (.int p1), .val (.int p2), .val (.int p3), .val (.int p4), .val (.int p5), .val (.int x0), .val (.int x1), .val (.int x2), .val (.int x3), .val (.int ww), .val (.int q), .val (.int sq), .val (.ref b5), .unset, .unset, .unset, .unset, .unset] [(.int (ww ^^^ (-1 : Int32))), (.int (3 : Int32)), (.ref b5)])) rfl rfl (hb hby at_99)
  refine own_go st17 ?_
  have V17 : Arv Z h17 b5 k5 .int (8 : Int32) [(.int (ww ^^^ (-1 : Int32))), (.int (ww ^^^ (-1 : Int32))), (.int (ww ^^^ (-1 : Int32))), (.int (ww ^^^ (-1 : Int32))), (.int (0 : Int32)), (.int (0 : Int32)), (.int (0 : Int32)), (.int (0 : Int32))] (.int (0 : Int32)) := Arv.set Ar16 q16 S16 N16 H16 G16 rfl W17 3 rfl (Nat.le_of_ble_eq_true rfl)
  have f17_0 : Arv Z h17 b5 k5 .int (8 : Int32) [(.int (ww ^^^ (-1 : Int32))), (.int (ww ^^^ (-1 : Int32))), (.int (ww ^^^ (-1 : Int32))), (.int (ww ^^^ (-1 : Int32))), (.int (0 : Int32)), (.int (0 : Int32)), (.int (0 : Int32)), (.int (0 : Int32))] (.int (0 : Int32)) := V17
  have N17 := Fr.snoc X17 N14 g_b5
  have Z17 : n0 ≤ h17.size := Nat.le_trans Z14 (Keep.of_wr W17).1
  have k18 : ∀ t, Steps p.tables e below (T17.setTop (mkF m 107 #[.val (.int p0), .val (.int p1), .val (.int p2), .val (.int p3), .val (.int p4), .val (.int p5), .val (.int x0), .val (.int x1), .val (.int x2), .val (.int x3), .val (.int ww), .val (.int q), .val (.int sq), .val (.ref b5), .unset, .unset, .unset, .unset, .unset] [(.int (ww ^^^ (-1 : Int32))), (.int (4 : Int32)), (.ref b5)])) t → Steps p.tables e below (T17.setTop (mkF m 100 #[.val (.int p0), .val (.int p1), .val (.int p2), .val (.int p3), .val (.int p4), .val (.int p5), .val (.int x0), .val (.int x1), .val (.int x2), .val (.int x3), .val (.int ww), .val (.int q), .val (.int sq), .val (.ref b5), .unset, .unset, .unset, .unset, .unset] [])) t := fun t k => by
    refine XS.aload X17.here hx rfl (hb hby at_100) rfl rfl ?_
    show Steps p.tables e below (T17.setTop (mkF m 102 #[.val (.int p0), .val (.int p1), .val (.int p2), .val (.int p3), .val (.int p4), .val (.int p5), .val (.int x0), .val (.int x1), .val (.int x2), .val (.int x3), .val (.int ww), .val (.int q), .val (.int sq), .val (.ref b5), .unset, .unset, .unset, .unset, .unset] [(.ref b5)])) _
    refine XS.iconst X17.here hx rfl (hb hby at_102) ?_
    show Steps p.tables e below (T17.setTop (mkF m 103 #[.val (.int p0), .val (.int p1), .val (.int p2), .val (.int p3), .val (.int p4), .val (.int p5), .val (.int x0), .val (.int x1), .val (.int x2), .val (.int x3), .val (.int ww), .val (.int q), .val (.int sq), .val (.ref b5), .unset, .unset, .unset, .unset, .unset] [(.int (4 : Int32)), (.ref b5)])) _
    refine XS.iload X17.here hx rfl (hb hby at_103) rfl ?_
    show Steps p.tables e below (T17.setTop (mkF m 105 #[.val (.int p0), .val (.int p1), .val (.int p2), .val (.int p3), .val (.int p4), .val (.int p5), .val (.int x0), .val (.int x1), .val (.int x2), .val (.int x3), .val (.int ww), .val (.int q), .val (.int sq), .val (.ref b5), .unset, .unset, .unset, .unset, .unset] [(.int ww), (.int (4 : Int32)), (.ref b5)])) _
    refine XS.iconst X17.here hx rfl (hb hby at_105) ?_
    show Steps p.tables e below (T17.setTop (mkF m 106 #[.val (.int p0), .val (.int p1), .val (.int p2), .val (.int p3), .val (.int p4), .val (.int p5), .val (.int x0), .val (.int x1), .val (.int x2), .val (.int x3), .val (.int ww), .val (.int q), .val (.int sq), .val (.ref b5), .unset, .unset, .unset, .unset, .unset] [(.int (-1 : Int32)), (.int ww), (.int (4 : Int32)), (.ref b5)])) _
    refine XS.ixor X17.here hx rfl (hb hby at_106) rfl ?_
    show Steps p.tables e below (T17.setTop (mkF m 107 #[.val (.int p0), .val (.int p1), .val (.int p2), .val (.int p3), .val (.int p4), .val (.int p5), .val (.int x0), .val (.int x1), .val (.int x2), .val (.int x3), .val (.int ww), .val (.int q), .val (.int sq), .val (.ref b5), .unset, .unset, .unset, .unset, .unset] [(.int (ww ^^^ (-1 : Int32))), (.int (4 : Int32)), (.ref b5)])) _
    exact k
  refine own_go k18 ?_
  clear k18
  obtain ⟨cl19, Ar19, q19, S19, N19, H19, G19⟩ := id (f17_0)
  have hi19 : ¬ ((4 : Int32) < 0 ∨ cl19.slots.size ≤ ((4 : Int32)).toNatClampNeg) := inb_of S19 ⟨by decide, by decide⟩
  obtain ⟨T20, h20, X20, e20, W20, st20⟩ := stI X17 hx hZ e17 Ar19 (j := (4 : Int32)) hi19 (g := (mkF m 107 #[.val (.int p0), .val (.int p1), .val (.int p2), .val (.int p3), .val (.int p4), .val (.int p5), .val (.int x0), .val (.int x1), .val (.int x2), .val (.int x3), .val (.int ww), .val (.int q), .val (.int sq), .val (.ref b5), .unset, .unset, .unset, .unset, .unset] [(.int (ww ^^^ (-1 : Int32))), (.int (4 : Int32)), (.ref b5)])) rfl rfl (hb hby at_107)
  refine own_go st20 ?_
  have V20 : Arv Z h20 b5 k5 .int (8 : Int32) [(.int (ww ^^^ (-1 : Int32))), (.int (ww ^^^ (-1 : Int32))), (.int (ww ^^^ (-1 : Int32))), (.int (ww ^^^ (-1 : Int32))), (.int (ww ^^^ (-1 : Int32))), (.int (0 : Int32)), (.int (0 : Int32)), (.int (0 : Int32))] (.int (0 : Int32)) := Arv.set Ar19 q19 S19 N19 H19 G19 rfl W20 4 rfl (Nat.le_of_ble_eq_true rfl)
  have f20_0 : Arv Z h20 b5 k5 .int (8 : Int32) [(.int (ww ^^^ (-1 : Int32))), (.int (ww ^^^ (-1 : Int32))), (.int (ww ^^^ (-1 : Int32))), (.int (ww ^^^ (-1 : Int32))), (.int (ww ^^^ (-1 : Int32))), (.int (0 : Int32)), (.int (0 : Int32)), (.int (0 : Int32))] (.int (0 : Int32)) := V20
  have N20 := Fr.snoc X20 N17 g_b5
  have Z20 : n0 ≤ h20.size := Nat.le_trans Z17 (Keep.of_wr W20).1
  have k21 : ∀ t, Steps p.tables e below (T20.setTop (mkF m 115 #[.val (.int p0), .val (.int p1), .val (.int p2), .val (.int p3), .val (.int p4), .val (.int p5), .val (.int x0), .val (.int x1), .val (.int x2), .val (.int x3), .val (.int ww), .val (.int q), .val (.int sq), .val (.ref b5), .unset, .unset, .unset, .unset, .unset] [(.int (ww ^^^ (-1 : Int32))), (.int (5 : Int32)), (.ref b5)])) t → Steps p.tables e below (T20.setTop (mkF m 108 #[.val (.int p0), .val (.int p1), .val (.int p2), .val (.int p3), .val (.int p4), .val (.int p5), .val (.int x0), .val (.int x1), .val (.int x2), .val (.int x3), .val (.int ww), .val (.int q), .val (.int sq), .val (.ref b5), .unset, .unset, .unset, .unset, .unset] [])) t := fun t k => by
    refine XS.aload X20.here hx rfl (hb hby at_108) rfl rfl ?_
    show Steps p.tables e below (T20.setTop (mkF m 110 #[.val (.int p0), .val (.int p1), .val (.int p2), .val (.int p3), .val (.int p4), .val (.int p5), .val (.int x0), .val (.int x1), .val (.int x2), .val (.int x3), .val (.int ww), .val (.int q), .val (.int sq), .val (.ref b5), .unset, .unset, .unset, .unset, .unset] [(.ref b5)])) _
    refine XS.iconst X20.here hx rfl (hb hby at_110) ?_
    show Steps p.tables e below (T20.setTop (mkF m 111 #[.val (.int p0), .val (.int p1), .val (.int p2), .val (.int p3), .val (.int p4), .val (.int p5), .val (.int x0), .val (.int x1), .val (.int x2), .val (.int x3), .val (.int ww), .val (.int q), .val (.int sq), .val (.ref b5), .unset, .unset, .unset, .unset, .unset] [(.int (5 : Int32)), (.ref b5)])) _
    refine XS.iload X20.here hx rfl (hb hby at_111) rfl ?_
    show Steps p.tables e below (T20.setTop (mkF m 113 #[.val (.int p0), .val (.int p1), .val (.int p2), .val (.int p3), .val (.int p4), .val (.int p5), .val (.int x0), .val (.int x1), .val (.int x2), .val (.int x3), .val (.int ww), .val (.int q), .val (.int sq), .val (.ref b5), .unset, .unset, .unset, .unset, .unset] [(.int ww), (.int (5 : Int32)), (.ref b5)])) _
    refine XS.iconst X20.here hx rfl (hb hby at_113) ?_
    show Steps p.tables e below (T20.setTop (mkF m 114 #[.val (.int p0), .val (.int p1), .val (.int p2), .val (.int p3), .val (.int p4), .val (.int p5), .val (.int x0), .val (.int x1), .val (.int x2), .val (.int x3), .val (.int ww), .val (.int q), .val (.int sq), .val (.ref b5), .unset, .unset, .unset, .unset, .unset] [(.int (-1 : Int32)), (.int ww), (.int (5 : Int32)), (.ref b5)])) _
    refine XS.ixor X20.here hx rfl (hb hby at_114) rfl ?_
    show Steps p.tables e below (T20.setTop (mkF m 115 #[.val (.int p0), .val (.int p1), .val (.int p2), .val (.int p3), .val (.int p4), .val (.int p5), .val (.int x0), .val (.int x1), .val (.int x2), .val (.int x3), .val (.int ww), .val (.int q), .val (.int sq), .val (.ref b5), .unset, .unset, .unset, .unset, .unset] [(.int (ww ^^^ (-1 : Int32))), (.int (5 : Int32)), (.ref b5)])) _
    exact k
  refine own_go k21 ?_
  clear k21
  obtain ⟨cl22, Ar22, q22, S22, N22, H22, G22⟩ := id (f20_0)
  have hi22 : ¬ ((5 : Int32) < 0 ∨ cl22.slots.size ≤ ((5 : Int32)).toNatClampNeg) := inb_of S22 ⟨by decide, by decide⟩
  obtain ⟨T23, h23, X23, e23, W23, st23⟩ := stI X20 hx hZ e20 Ar22 (j := (5 : Int32)) hi22 (g := (mkF m 115 #[.val (.int p0), .val (.int p1), .val (.int p2), .val (.int p3), .val (.int p4), .val (.int p5), .val (.int x0), .val (.int x1), .val (.int x2), .val (.int x3), .val (.int ww), .val (.int q), .val (.int sq), .val (.ref b5), .unset, .unset, .unset, .unset, .unset] [(.int (ww ^^^ (-1 : Int32))), (.int (5 : Int32)), (.ref b5)])) rfl rfl (hb hby at_115)
  refine own_go st23 ?_
  have V23 : Arv Z h23 b5 k5 .int (8 : Int32) [(.int (ww ^^^ (-1 : Int32))), (.int (ww ^^^ (-1 : Int32))), (.int (ww ^^^ (-1 : Int32))), (.int (ww ^^^ (-1 : Int32))), (.int (ww ^^^ (-1 : Int32))), (.int (ww ^^^ (-1 : Int32))), (.int (0 : Int32)), (.int (0 : Int32))] (.int (0 : Int32)) := Arv.set Ar22 q22 S22 N22 H22 G22 rfl W23 5 rfl (Nat.le_of_ble_eq_true rfl)
  have f23_0 : Arv Z h23 b5 k5 .int (8 : Int32) [(.int (ww ^^^ (-1 : Int32))), (.int (ww ^^^ (-1 : Int32))), (.int (ww ^^^ (-1 : Int32))), (.int (ww ^^^ (-1 : Int32))), (.int (ww ^^^ (-1 : Int32))), (.int (ww ^^^ (-1 : Int32))), (.int (0 : Int32)), (.int (0 : Int32))] (.int (0 : Int32)) := V23
  have N23 := Fr.snoc X23 N20 g_b5
  have Z23 : n0 ≤ h23.size := Nat.le_trans Z20 (Keep.of_wr W23).1
  have k24 : ∀ t, Steps p.tables e below (T23.setTop (mkF m 124 #[.val (.int p0), .val (.int p1), .val (.int p2), .val (.int p3), .val (.int p4), .val (.int p5), .val (.int x0), .val (.int x1), .val (.int x2), .val (.int x3), .val (.int ww), .val (.int q), .val (.int sq), .val (.ref b5), .unset, .unset, .unset, .unset, .unset] [(.int (ww ^^^ (-1 : Int32))), (.int (6 : Int32)), (.ref b5)])) t → Steps p.tables e below (T23.setTop (mkF m 116 #[.val (.int p0), .val (.int p1), .val (.int p2), .val (.int p3), .val (.int p4), .val (.int p5), .val (.int x0), .val (.int x1), .val (.int x2), .val (.int x3), .val (.int ww), .val (.int q), .val (.int sq), .val (.ref b5), .unset, .unset, .unset, .unset, .unset] [])) t := fun t k => by
    refine XS.aload X23.here hx rfl (hb hby at_116) rfl rfl ?_
    show Steps p.tables e below (T23.setTop (mkF m 118 #[.val (.int p0), .val (.int p1), .val (.int p2), .val (.int p3), .val (.int p4), .val (.int p5), .val (.int x0), .val (.int x1), .val (.int x2), .val (.int x3), .val (.int ww), .val (.int q), .val (.int sq), .val (.ref b5), .unset, .unset, .unset, .unset, .unset] [(.ref b5)])) _
    refine XS.bipush X23.here hx rfl (hb hby at_118) ?_
    show Steps p.tables e below (T23.setTop (mkF m 120 #[.val (.int p0), .val (.int p1), .val (.int p2), .val (.int p3), .val (.int p4), .val (.int p5), .val (.int x0), .val (.int x1), .val (.int x2), .val (.int x3), .val (.int ww), .val (.int q), .val (.int sq), .val (.ref b5), .unset, .unset, .unset, .unset, .unset] [(.int (6 : Int32)), (.ref b5)])) _
    refine XS.iload X23.here hx rfl (hb hby at_120) rfl ?_
    show Steps p.tables e below (T23.setTop (mkF m 122 #[.val (.int p0), .val (.int p1), .val (.int p2), .val (.int p3), .val (.int p4), .val (.int p5), .val (.int x0), .val (.int x1), .val (.int x2), .val (.int x3), .val (.int ww), .val (.int q), .val (.int sq), .val (.ref b5), .unset, .unset, .unset, .unset, .unset] [(.int ww), (.int (6 : Int32)), (.ref b5)])) _
    refine XS.iconst X23.here hx rfl (hb hby at_122) ?_
    show Steps p.tables e below (T23.setTop (mkF m 123 #[.val (.int p0), .val (.int p1), .val (.int p2), .val (.int p3), .val (.int p4), .val (.int p5), .val (.int x0), .val (.int x1), .val (.int x2), .val (.int x3), .val (.int ww), .val (.int q), .val (.int sq), .val (.ref b5), .unset, .unset, .unset, .unset, .unset] [(.int (-1 : Int32)), (.int ww), (.int (6 : Int32)), (.ref b5)])) _
    refine XS.ixor X23.here hx rfl (hb hby at_123) rfl ?_
    show Steps p.tables e below (T23.setTop (mkF m 124 #[.val (.int p0), .val (.int p1), .val (.int p2), .val (.int p3), .val (.int p4), .val (.int p5), .val (.int x0), .val (.int x1), .val (.int x2), .val (.int x3), .val (.int ww), .val (.int q), .val (.int sq), .val (.ref b5), .unset, .unset, .unset, .unset, .unset] [(.int (ww ^^^ (-1 : Int32))), (.int (6 : Int32)), (.ref b5)])) _
    exact k
  refine own_go k24 ?_
  clear k24
  obtain ⟨cl25, Ar25, q25, S25, N25, H25, G25⟩ := id (f23_0)
  have hi25 : ¬ ((6 : Int32) < 0 ∨ cl25.slots.size ≤ ((6 : Int32)).toNatClampNeg) := inb_of S25 ⟨by decide, by decide⟩
  obtain ⟨T26, h26, X26, e26, W26, st26⟩ := stI X23 hx hZ e23 Ar25 (j := (6 : Int32)) hi25 (g := (mkF m 124 #[.val (.int p0), .val (.int p1), .val (.int p2), .val (.int p3), .val (.int p4), .val (.int p5), .val (.int x0), .val (.int x1), .val (.int x2), .val (.int x3), .val (.int ww), .val (.int q), .val (.int sq), .val (.ref b5), .unset, .unset, .unset, .unset, .unset] [(.int (ww ^^^ (-1 : Int32))), (.int (6 : Int32)), (.ref b5)])) rfl rfl (hb hby at_124)
  refine own_go st26 ?_
  have V26 : Arv Z h26 b5 k5 .int (8 : Int32) [(.int (ww ^^^ (-1 : Int32))), (.int (ww ^^^ (-1 : Int32))), (.int (ww ^^^ (-1 : Int32))), (.int (ww ^^^ (-1 : Int32))), (.int (ww ^^^ (-1 : Int32))), (.int (ww ^^^ (-1 : Int32))), (.int (ww ^^^ (-1 : Int32))), (.int (0 : Int32))] (.int (0 : Int32)) := Arv.set Ar25 q25 S25 N25 H25 G25 rfl W26 6 rfl (Nat.le_of_ble_eq_true rfl)
  have f26_0 : Arv Z h26 b5 k5 .int (8 : Int32) [(.int (ww ^^^ (-1 : Int32))), (.int (ww ^^^ (-1 : Int32))), (.int (ww ^^^ (-1 : Int32))), (.int (ww ^^^ (-1 : Int32))), (.int (ww ^^^ (-1 : Int32))), (.int (ww ^^^ (-1 : Int32))), (.int (ww ^^^ (-1 : Int32))), (.int (0 : Int32))] (.int (0 : Int32)) := V26
  have N26 := Fr.snoc X26 N23 g_b5
  have Z26 : n0 ≤ h26.size := Nat.le_trans Z23 (Keep.of_wr W26).1
  have k27 : ∀ t, Steps p.tables e below (T26.setTop (mkF m 133 #[.val (.int p0), .val (.int p1), .val (.int p2), .val (.int p3), .val (.int p4), .val (.int p5), .val (.int x0), .val (.int x1), .val (.int x2), .val (.int x3), .val (.int ww), .val (.int q), .val (.int sq), .val (.ref b5), .unset, .unset, .unset, .unset, .unset] [(.int (ww ^^^ (-1 : Int32))), (.int (7 : Int32)), (.ref b5)])) t → Steps p.tables e below (T26.setTop (mkF m 125 #[.val (.int p0), .val (.int p1), .val (.int p2), .val (.int p3), .val (.int p4), .val (.int p5), .val (.int x0), .val (.int x1), .val (.int x2), .val (.int x3), .val (.int ww), .val (.int q), .val (.int sq), .val (.ref b5), .unset, .unset, .unset, .unset, .unset] [])) t := fun t k => by
    refine XS.aload X26.here hx rfl (hb hby at_125) rfl rfl ?_
    show Steps p.tables e below (T26.setTop (mkF m 127 #[.val (.int p0), .val (.int p1), .val (.int p2), .val (.int p3), .val (.int p4), .val (.int p5), .val (.int x0), .val (.int x1), .val (.int x2), .val (.int x3), .val (.int ww), .val (.int q), .val (.int sq), .val (.ref b5), .unset, .unset, .unset, .unset, .unset] [(.ref b5)])) _
    refine XS.bipush X26.here hx rfl (hb hby at_127) ?_
    show Steps p.tables e below (T26.setTop (mkF m 129 #[.val (.int p0), .val (.int p1), .val (.int p2), .val (.int p3), .val (.int p4), .val (.int p5), .val (.int x0), .val (.int x1), .val (.int x2), .val (.int x3), .val (.int ww), .val (.int q), .val (.int sq), .val (.ref b5), .unset, .unset, .unset, .unset, .unset] [(.int (7 : Int32)), (.ref b5)])) _
    refine XS.iload X26.here hx rfl (hb hby at_129) rfl ?_
    show Steps p.tables e below (T26.setTop (mkF m 131 #[.val (.int p0), .val (.int p1), .val (.int p2), .val (.int p3), .val (.int p4), .val (.int p5), .val (.int x0), .val (.int x1), .val (.int x2), .val (.int x3), .val (.int ww), .val (.int q), .val (.int sq), .val (.ref b5), .unset, .unset, .unset, .unset, .unset] [(.int ww), (.int (7 : Int32)), (.ref b5)])) _
    refine XS.iconst X26.here hx rfl (hb hby at_131) ?_
    show Steps p.tables e below (T26.setTop (mkF m 132 #[.val (.int p0), .val (.int p1), .val (.int p2), .val (.int p3), .val (.int p4), .val (.int p5), .val (.int x0), .val (.int x1), .val (.int x2), .val (.int x3), .val (.int ww), .val (.int q), .val (.int sq), .val (.ref b5), .unset, .unset, .unset, .unset, .unset] [(.int (-1 : Int32)), (.int ww), (.int (7 : Int32)), (.ref b5)])) _
    refine XS.ixor X26.here hx rfl (hb hby at_132) rfl ?_
    show Steps p.tables e below (T26.setTop (mkF m 133 #[.val (.int p0), .val (.int p1), .val (.int p2), .val (.int p3), .val (.int p4), .val (.int p5), .val (.int x0), .val (.int x1), .val (.int x2), .val (.int x3), .val (.int ww), .val (.int q), .val (.int sq), .val (.ref b5), .unset, .unset, .unset, .unset, .unset] [(.int (ww ^^^ (-1 : Int32))), (.int (7 : Int32)), (.ref b5)])) _
    exact k
  refine own_go k27 ?_
  clear k27
  obtain ⟨cl28, Ar28, q28, S28, N28, H28, G28⟩ := id (f26_0)
  have hi28 : ¬ ((7 : Int32) < 0 ∨ cl28.slots.size ≤ ((7 : Int32)).toNatClampNeg) := inb_of S28 ⟨by decide, by decide⟩
  obtain ⟨T29, h29, X29, e29, W29, st29⟩ := stI X26 hx hZ e26 Ar28 (j := (7 : Int32)) hi28 (g := (mkF m 133 #[.val (.int p0), .val (.int p1), .val (.int p2), .val (.int p3), .val (.int p4), .val (.int p5), .val (.int x0), .val (.int x1), .val (.int x2), .val (.int x3), .val (.int ww), .val (.int q), .val (.int sq), .val (.ref b5), .unset, .unset, .unset, .unset, .unset] [(.int (ww ^^^ (-1 : Int32))), (.int (7 : Int32)), (.ref b5)])) rfl rfl (hb hby at_133)
  refine own_go st29 ?_
  have V29 : Arv Z h29 b5 k5 .int (8 : Int32) [(.int (ww ^^^ (-1 : Int32))), (.int (ww ^^^ (-1 : Int32))), (.int (ww ^^^ (-1 : Int32))), (.int (ww ^^^ (-1 : Int32))), (.int (ww ^^^ (-1 : Int32))), (.int (ww ^^^ (-1 : Int32))), (.int (ww ^^^ (-1 : Int32))), (.int (ww ^^^ (-1 : Int32)))] (.int (0 : Int32)) := Arv.set Ar28 q28 S28 N28 H28 G28 rfl W29 7 rfl (Nat.le_of_ble_eq_true rfl)
  have f29_0 : Arv Z h29 b5 k5 .int (8 : Int32) [(.int (ww ^^^ (-1 : Int32))), (.int (ww ^^^ (-1 : Int32))), (.int (ww ^^^ (-1 : Int32))), (.int (ww ^^^ (-1 : Int32))), (.int (ww ^^^ (-1 : Int32))), (.int (ww ^^^ (-1 : Int32))), (.int (ww ^^^ (-1 : Int32))), (.int (ww ^^^ (-1 : Int32)))] (.int (0 : Int32)) := V29
  have N29 := Fr.snoc X29 N26 g_b5
  have Z29 : n0 ≤ h29.size := Nat.le_trans Z26 (Keep.of_wr W29).1
  have k30 : ∀ t, Steps p.tables e below (T29.setTop (mkF m 143 #[.val (.int p0), .val (.int p1), .val (.int p2), .val (.int p3), .val (.int p4), .val (.int p5), .val (.int x0), .val (.int x1), .val (.int x2), .val (.int x3), .val (.int ww), .val (.int q), .val (.int sq), .val (.ref b5), .unset, .unset, .unset, .unset, .unset] [(.int ww), (.int (sq + q)), (.ref b5)])) t → Steps p.tables e below (T29.setTop (mkF m 134 #[.val (.int p0), .val (.int p1), .val (.int p2), .val (.int p3), .val (.int p4), .val (.int p5), .val (.int x0), .val (.int x1), .val (.int x2), .val (.int x3), .val (.int ww), .val (.int q), .val (.int sq), .val (.ref b5), .unset, .unset, .unset, .unset, .unset] [])) t := fun t k => by
    refine XS.aload X29.here hx rfl (hb hby at_134) rfl rfl ?_
    show Steps p.tables e below (T29.setTop (mkF m 136 #[.val (.int p0), .val (.int p1), .val (.int p2), .val (.int p3), .val (.int p4), .val (.int p5), .val (.int x0), .val (.int x1), .val (.int x2), .val (.int x3), .val (.int ww), .val (.int q), .val (.int sq), .val (.ref b5), .unset, .unset, .unset, .unset, .unset] [(.ref b5)])) _
    refine XS.iload X29.here hx rfl (hb hby at_136) rfl ?_
    show Steps p.tables e below (T29.setTop (mkF m 138 #[.val (.int p0), .val (.int p1), .val (.int p2), .val (.int p3), .val (.int p4), .val (.int p5), .val (.int x0), .val (.int x1), .val (.int x2), .val (.int x3), .val (.int ww), .val (.int q), .val (.int sq), .val (.ref b5), .unset, .unset, .unset, .unset, .unset] [(.int sq), (.ref b5)])) _
    refine XS.iload X29.here hx rfl (hb hby at_138) rfl ?_
    show Steps p.tables e below (T29.setTop (mkF m 140 #[.val (.int p0), .val (.int p1), .val (.int p2), .val (.int p3), .val (.int p4), .val (.int p5), .val (.int x0), .val (.int x1), .val (.int x2), .val (.int x3), .val (.int ww), .val (.int q), .val (.int sq), .val (.ref b5), .unset, .unset, .unset, .unset, .unset] [(.int q), (.int sq), (.ref b5)])) _
    refine XS.iadd X29.here hx rfl (hb hby at_140) rfl ?_
    show Steps p.tables e below (T29.setTop (mkF m 141 #[.val (.int p0), .val (.int p1), .val (.int p2), .val (.int p3), .val (.int p4), .val (.int p5), .val (.int x0), .val (.int x1), .val (.int x2), .val (.int x3), .val (.int ww), .val (.int q), .val (.int sq), .val (.ref b5), .unset, .unset, .unset, .unset, .unset] [(.int (sq + q)), (.ref b5)])) _
    refine XS.iload X29.here hx rfl (hb hby at_141) rfl ?_
    show Steps p.tables e below (T29.setTop (mkF m 143 #[.val (.int p0), .val (.int p1), .val (.int p2), .val (.int p3), .val (.int p4), .val (.int p5), .val (.int x0), .val (.int x1), .val (.int x2), .val (.int x3), .val (.int ww), .val (.int q), .val (.int sq), .val (.ref b5), .unset, .unset, .unset, .unset, .unset] [(.int ww), (.int (sq + q)), (.ref b5)])) _
    exact k
  refine own_go k30 ?_
  clear k30
  obtain ⟨cl31, Ar31, q31, S31, N31, H31, G31⟩ := id (f29_0)
  have hi31 : ¬ ((sq + q) < 0 ∨ cl31.slots.size ≤ ((sq + q)).toNatClampNeg) := inb_of S31 hin
  obtain ⟨T32, h32, X32, e32, W32, st32⟩ := stI X29 hx hZ e29 Ar31 (j := (sq + q)) hi31 (g := (mkF m 143 #[.val (.int p0), .val (.int p1), .val (.int p2), .val (.int p3), .val (.int p4), .val (.int p5), .val (.int x0), .val (.int x1), .val (.int x2), .val (.int x3), .val (.int ww), .val (.int q), .val (.int sq), .val (.ref b5), .unset, .unset, .unset, .unset, .unset] [(.int ww), (.int (sq + q)), (.ref b5)])) rfl rfl (hb hby at_143)
  refine own_go st32 ?_
  have V32 : Arv Z h32 b5 k5 .int (8 : Int32) ([(.int (ww ^^^ (-1 : Int32))), (.int (ww ^^^ (-1 : Int32))), (.int (ww ^^^ (-1 : Int32))), (.int (ww ^^^ (-1 : Int32))), (.int (ww ^^^ (-1 : Int32))), (.int (ww ^^^ (-1 : Int32))), (.int (ww ^^^ (-1 : Int32))), (.int (ww ^^^ (-1 : Int32)))].set (sq + q).toNatClampNeg (.int ww)) (.int (0 : Int32)) := Arv.set Ar31 q31 S31 N31 H31 G31 rfl W32 (sq + q).toNatClampNeg rfl hlt
  have f32_0 : Arv Z h32 b5 k5 .int (8 : Int32) ([(.int (ww ^^^ (-1 : Int32))), (.int (ww ^^^ (-1 : Int32))), (.int (ww ^^^ (-1 : Int32))), (.int (ww ^^^ (-1 : Int32))), (.int (ww ^^^ (-1 : Int32))), (.int (ww ^^^ (-1 : Int32))), (.int (ww ^^^ (-1 : Int32))), (.int (ww ^^^ (-1 : Int32)))].set (sq + q).toNatClampNeg (.int ww)) (.int (0 : Int32)) := V32
  have N32 := Fr.snoc X32 N29 g_b5
  have Z32 : n0 ≤ h32.size := Nat.le_trans Z29 (Keep.of_wr W32).1
  have hq0v : (([(.int (ww ^^^ (-1 : Int32))), (.int (ww ^^^ (-1 : Int32))), (.int (ww ^^^ (-1 : Int32))), (.int (ww ^^^ (-1 : Int32))), (.int (ww ^^^ (-1 : Int32))), (.int (ww ^^^ (-1 : Int32))), (.int (ww ^^^ (-1 : Int32))), (.int (ww ^^^ (-1 : Int32)))].set (sq + q).toNatClampNeg (.int ww)) : List Value).getD (sq + (((4 : Int32) * q) / (4 : Int32))).toNatClampNeg (.int (0 : Int32)) = .int ww := by rw [hq0.1]; simp [List.getD_eq_getElem?_getD, hlt]
  have hq1v : (([(.int (ww ^^^ (-1 : Int32))), (.int (ww ^^^ (-1 : Int32))), (.int (ww ^^^ (-1 : Int32))), (.int (ww ^^^ (-1 : Int32))), (.int (ww ^^^ (-1 : Int32))), (.int (ww ^^^ (-1 : Int32))), (.int (ww ^^^ (-1 : Int32))), (.int (ww ^^^ (-1 : Int32)))].set (sq + q).toNatClampNeg (.int ww)) : List Value).getD (sq + ((((4 : Int32) * q) + (1 : Int32)) / (4 : Int32))).toNatClampNeg (.int (0 : Int32)) = .int ww := by rw [hq1.1]; simp [List.getD_eq_getElem?_getD, hlt]
  have hq2v : (([(.int (ww ^^^ (-1 : Int32))), (.int (ww ^^^ (-1 : Int32))), (.int (ww ^^^ (-1 : Int32))), (.int (ww ^^^ (-1 : Int32))), (.int (ww ^^^ (-1 : Int32))), (.int (ww ^^^ (-1 : Int32))), (.int (ww ^^^ (-1 : Int32))), (.int (ww ^^^ (-1 : Int32)))].set (sq + q).toNatClampNeg (.int ww)) : List Value).getD (sq + ((((4 : Int32) * q) + (2 : Int32)) / (4 : Int32))).toNatClampNeg (.int (0 : Int32)) = .int ww := by rw [hq2.1]; simp [List.getD_eq_getElem?_getD, hlt]
  have hq3v : (([(.int (ww ^^^ (-1 : Int32))), (.int (ww ^^^ (-1 : Int32))), (.int (ww ^^^ (-1 : Int32))), (.int (ww ^^^ (-1 : Int32))), (.int (ww ^^^ (-1 : Int32))), (.int (ww ^^^ (-1 : Int32))), (.int (ww ^^^ (-1 : Int32))), (.int (ww ^^^ (-1 : Int32)))].set (sq + q).toNatClampNeg (.int ww)) : List Value).getD (sq + ((((4 : Int32) * q) + (3 : Int32)) / (4 : Int32))).toNatClampNeg (.int (0 : Int32)) = .int ww := by rw [hq3.1]; simp [List.getD_eq_getElem?_getD, hlt]
  have k34 : ∀ t, Steps p.tables e below (T32.setTop (mkF m 156 #[.val (.int p0), .val (.int p1), .val (.int p2), .val (.int p3), .val (.int p4), .val (.int p5), .val (.int x0), .val (.int x1), .val (.int x2), .val (.int x3), .val (.int ww), .val (.int q), .val (.int sq), .val (.ref b5), .val (.int ((4 : Int32) * q)), .unset, .unset, .unset, .unset] [(.int ((4 : Int32) * q)), (.int sq), (.ref b5)])) t → Steps p.tables e below (T32.setTop (mkF m 144 #[.val (.int p0), .val (.int p1), .val (.int p2), .val (.int p3), .val (.int p4), .val (.int p5), .val (.int x0), .val (.int x1), .val (.int x2), .val (.int x3), .val (.int ww), .val (.int q), .val (.int sq), .val (.ref b5), .unset, .unset, .unset, .unset, .unset] [])) t := fun t k => by
    refine XS.iconst X32.here hx rfl (hb hby at_144) ?_
    show Steps p.tables e below (T32.setTop (mkF m 145 #[.val (.int p0), .val (.int p1), .val (.int p2), .val (.int p3), .val (.int p4), .val (.int p5), .val (.int x0), .val (.int x1), .val (.int x2), .val (.int x3), .val (.int ww), .val (.int q), .val (.int sq), .val (.ref b5), .unset, .unset, .unset, .unset, .unset] [(.int (4 : Int32))])) _
    refine XS.iload X32.here hx rfl (hb hby at_145) rfl ?_
    show Steps p.tables e below (T32.setTop (mkF m 147 #[.val (.int p0), .val (.int p1), .val (.int p2), .val (.int p3), .val (.int p4), .val (.int p5), .val (.int x0), .val (.int x1), .val (.int x2), .val (.int x3), .val (.int ww), .val (.int q), .val (.int sq), .val (.ref b5), .unset, .unset, .unset, .unset, .unset] [(.int q), (.int (4 : Int32))])) _
    refine XS.imul X32.here hx rfl (hb hby at_147) rfl ?_
    show Steps p.tables e below (T32.setTop (mkF m 148 #[.val (.int p0), .val (.int p1), .val (.int p2), .val (.int p3), .val (.int p4), .val (.int p5), .val (.int x0), .val (.int x1), .val (.int x2), .val (.int x3), .val (.int ww), .val (.int q), .val (.int sq), .val (.ref b5), .unset, .unset, .unset, .unset, .unset] [(.int ((4 : Int32) * q))])) _
    refine XS.istore X32.here hx rfl (hb hby at_148) rfl (l' := #[.val (.int p0), .val (.int p1), .val (.int p2), .val (.int p3), .val (.int p4), .val (.int p5), .val (.int x0), .val (.int x1), .val (.int x2), .val (.int x3), .val (.int ww), .val (.int q), .val (.int sq), .val (.ref b5), .val (.int ((4 : Int32) * q)), .unset, .unset, .unset, .unset]) rfl ?_
    show Steps p.tables e below (T32.setTop (mkF m 150 #[.val (.int p0), .val (.int p1), .val (.int p2), .val (.int p3), .val (.int p4), .val (.int p5), .val (.int x0), .val (.int x1), .val (.int x2), .val (.int x3), .val (.int ww), .val (.int q), .val (.int sq), .val (.ref b5), .val (.int ((4 : Int32) * q)), .unset, .unset, .unset, .unset] [])) _
    refine XS.aload X32.here hx rfl (hb hby at_150) rfl rfl ?_
    show Steps p.tables e below (T32.setTop (mkF m 152 #[.val (.int p0), .val (.int p1), .val (.int p2), .val (.int p3), .val (.int p4), .val (.int p5), .val (.int x0), .val (.int x1), .val (.int x2), .val (.int x3), .val (.int ww), .val (.int q), .val (.int sq), .val (.ref b5), .val (.int ((4 : Int32) * q)), .unset, .unset, .unset, .unset] [(.ref b5)])) _
    refine XS.iload X32.here hx rfl (hb hby at_152) rfl ?_
    show Steps p.tables e below (T32.setTop (mkF m 154 #[.val (.int p0), .val (.int p1), .val (.int p2), .val (.int p3), .val (.int p4), .val (.int p5), .val (.int x0), .val (.int x1), .val (.int x2), .val (.int x3), .val (.int ww), .val (.int q), .val (.int sq), .val (.ref b5), .val (.int ((4 : Int32) * q)), .unset, .unset, .unset, .unset] [(.int sq), (.ref b5)])) _
    refine XS.iload X32.here hx rfl (hb hby at_154) rfl ?_
    show Steps p.tables e below (T32.setTop (mkF m 156 #[.val (.int p0), .val (.int p1), .val (.int p2), .val (.int p3), .val (.int p4), .val (.int p5), .val (.int x0), .val (.int x1), .val (.int x2), .val (.int x3), .val (.int ww), .val (.int q), .val (.int sq), .val (.ref b5), .val (.int ((4 : Int32) * q)), .unset, .unset, .unset, .unset] [(.int ((4 : Int32) * q)), (.int sq), (.ref b5)])) _
    exact k
  refine own_go k34 ?_
  clear k34
  obtain ⟨_, _, ⟨T33, L33, k33, n33⟩, -, X33, ⟨Lc33, hQ33, l33, y33, z33⟩, st33⟩ := Jvm.LawKit.callS X32 hx (y := (⟨"com/example/likelihood/likelihood/index/Postings", "shortLength", "([III)I"⟩ : MethodName)) hown (mvT hZ (hw _ (List.mem_of_getElem? (i := 1) rfl))) (mvT hZ (hw _ (List.mem_of_getElem? (i := 2) rfl))) (mvT hZ (hw _ (List.mem_of_getElem? (i := 3) rfl))) (mvT hZ (hw _ (List.mem_of_getElem? (i := 4) rfl))) (by decide) (backOf (W := 0) (own_rm_short l Z a0 hw [] b5 sq ((4 : Int32) * q) k5 (8 : Int32) ([(.int (ww ^^^ (-1 : Int32))), (.int (ww ^^^ (-1 : Int32))), (.int (ww ^^^ (-1 : Int32))), (.int (ww ^^^ (-1 : Int32))), (.int (ww ^^^ (-1 : Int32))), (.int (ww ^^^ (-1 : Int32))), (.int (ww ^^^ (-1 : Int32))), (.int (ww ^^^ (-1 : Int32)))].set (sq + q).toNatClampNeg (.int ww)) ww h32 n0 Z32 f32_0 hq0b hq0v) hZ (hw _ (List.mem_of_getElem? (i := 4) rfl)) (hw _ (List.mem_of_getElem? (i := 3) rfl)) (by decide) (by decide)) (g := (mkF m 156 #[.val (.int p0), .val (.int p1), .val (.int p2), .val (.int p3), .val (.int p4), .val (.int p5), .val (.int x0), .val (.int x1), .val (.int x2), .val (.int x3), .val (.int ww), .val (.int q), .val (.int sq), .val (.ref b5), .val (.int ((4 : Int32) * q)), .unset, .unset, .unset, .unset] [(.int ((4 : Int32) * q)), (.int sq), (.ref b5)])) rfl (by rw [hml]; rfl) (argsL := [(.ref b5), (.int sq), (.int ((4 : Int32) * q))]) (rest := []) (lenOf own_pd_285bIII29I rfl) rfl (by show 2 * 0 + _ ≤ _; exact Nat.le_of_eq rfl) (hb hby at_156) (fun _ _ => ⟨rfl, e32, (by decide : 1 + 0 ≤ _), (by decide : 8 + 0 ≤ _)⟩)
  dsimp only [Pt.U, Pt.locs, Pt.cells, Pt.slots] at X33 l33 y33 z33 st33 hQ33
  subst l33 y33 z33
  obtain ⟨rfl, N33q, eh33⟩ := hQ33
  have N33 := Fr.app N32 N33q
  refine own_go st33 ?_
  have k36 : ∀ t, Steps p.tables e below (T33.setTop (mkF m 169 #[.val (.int p0), .val (.int p1), .val (.int p2), .val (.int p3), .val (.int p4), .val (.int p5), .val (.int x0), .val (.int x1), .val (.int x2), .val (.int x3), .val (.int ww), .val (.int q), .val (.int sq), .val (.ref b5), .val (.int ((4 : Int32) * q)), .val (.int (own_byte ww ((((4 : Int32) * q)) % (4 : Int32)))), .unset, .unset, .unset] [(.int (((4 : Int32) * q) + (1 : Int32))), (.int sq), (.ref b5)])) t → Steps p.tables e below (T33.setTop (mkF m 159 #[.val (.int p0), .val (.int p1), .val (.int p2), .val (.int p3), .val (.int p4), .val (.int p5), .val (.int x0), .val (.int x1), .val (.int x2), .val (.int x3), .val (.int ww), .val (.int q), .val (.int sq), .val (.ref b5), .val (.int ((4 : Int32) * q)), .unset, .unset, .unset, .unset] [(.int (own_byte ww ((((4 : Int32) * q)) % (4 : Int32))))])) t := fun t k => by
    refine XS.istore X33.here hx rfl (hb hby at_159) rfl (l' := #[.val (.int p0), .val (.int p1), .val (.int p2), .val (.int p3), .val (.int p4), .val (.int p5), .val (.int x0), .val (.int x1), .val (.int x2), .val (.int x3), .val (.int ww), .val (.int q), .val (.int sq), .val (.ref b5), .val (.int ((4 : Int32) * q)), .val (.int (own_byte ww ((((4 : Int32) * q)) % (4 : Int32)))), .unset, .unset, .unset]) rfl ?_
    show Steps p.tables e below (T33.setTop (mkF m 161 #[.val (.int p0), .val (.int p1), .val (.int p2), .val (.int p3), .val (.int p4), .val (.int p5), .val (.int x0), .val (.int x1), .val (.int x2), .val (.int x3), .val (.int ww), .val (.int q), .val (.int sq), .val (.ref b5), .val (.int ((4 : Int32) * q)), .val (.int (own_byte ww ((((4 : Int32) * q)) % (4 : Int32)))), .unset, .unset, .unset] [])) _
    refine XS.aload X33.here hx rfl (hb hby at_161) rfl rfl ?_
    show Steps p.tables e below (T33.setTop (mkF m 163 #[.val (.int p0), .val (.int p1), .val (.int p2), .val (.int p3), .val (.int p4), .val (.int p5), .val (.int x0), .val (.int x1), .val (.int x2), .val (.int x3), .val (.int ww), .val (.int q), .val (.int sq), .val (.ref b5), .val (.int ((4 : Int32) * q)), .val (.int (own_byte ww ((((4 : Int32) * q)) % (4 : Int32)))), .unset, .unset, .unset] [(.ref b5)])) _
    refine XS.iload X33.here hx rfl (hb hby at_163) rfl ?_
    show Steps p.tables e below (T33.setTop (mkF m 165 #[.val (.int p0), .val (.int p1), .val (.int p2), .val (.int p3), .val (.int p4), .val (.int p5), .val (.int x0), .val (.int x1), .val (.int x2), .val (.int x3), .val (.int ww), .val (.int q), .val (.int sq), .val (.ref b5), .val (.int ((4 : Int32) * q)), .val (.int (own_byte ww ((((4 : Int32) * q)) % (4 : Int32)))), .unset, .unset, .unset] [(.int sq), (.ref b5)])) _
    refine XS.iload X33.here hx rfl (hb hby at_165) rfl ?_
    show Steps p.tables e below (T33.setTop (mkF m 167 #[.val (.int p0), .val (.int p1), .val (.int p2), .val (.int p3), .val (.int p4), .val (.int p5), .val (.int x0), .val (.int x1), .val (.int x2), .val (.int x3), .val (.int ww), .val (.int q), .val (.int sq), .val (.ref b5), .val (.int ((4 : Int32) * q)), .val (.int (own_byte ww ((((4 : Int32) * q)) % (4 : Int32)))), .unset, .unset, .unset] [(.int ((4 : Int32) * q)), (.int sq), (.ref b5)])) _
    refine XS.iconst X33.here hx rfl (hb hby at_167) ?_
    show Steps p.tables e below (T33.setTop (mkF m 168 #[.val (.int p0), .val (.int p1), .val (.int p2), .val (.int p3), .val (.int p4), .val (.int p5), .val (.int x0), .val (.int x1), .val (.int x2), .val (.int x3), .val (.int ww), .val (.int q), .val (.int sq), .val (.ref b5), .val (.int ((4 : Int32) * q)), .val (.int (own_byte ww ((((4 : Int32) * q)) % (4 : Int32)))), .unset, .unset, .unset] [(.int (1 : Int32)), (.int ((4 : Int32) * q)), (.int sq), (.ref b5)])) _
    refine XS.iadd X33.here hx rfl (hb hby at_168) rfl ?_
    show Steps p.tables e below (T33.setTop (mkF m 169 #[.val (.int p0), .val (.int p1), .val (.int p2), .val (.int p3), .val (.int p4), .val (.int p5), .val (.int x0), .val (.int x1), .val (.int x2), .val (.int x3), .val (.int ww), .val (.int q), .val (.int sq), .val (.ref b5), .val (.int ((4 : Int32) * q)), .val (.int (own_byte ww ((((4 : Int32) * q)) % (4 : Int32)))), .unset, .unset, .unset] [(.int (((4 : Int32) * q) + (1 : Int32))), (.int sq), (.ref b5)])) _
    exact k
  refine own_go k36 ?_
  clear k36
  obtain ⟨_, _, ⟨T35, L35, k35, n35⟩, -, X35, ⟨Lc35, hQ35, l35, y35, z35⟩, st35⟩ := Jvm.LawKit.callS X33 hx (y := (⟨"com/example/likelihood/likelihood/index/Postings", "shortLength", "([III)I"⟩ : MethodName)) hown (mvT hZ (hw _ (List.mem_of_getElem? (i := 1) rfl))) (mvT hZ (hw _ (List.mem_of_getElem? (i := 2) rfl))) (mvT hZ (hw _ (List.mem_of_getElem? (i := 3) rfl))) (mvT hZ (hw _ (List.mem_of_getElem? (i := 4) rfl))) (by decide) (backOf (W := 0) (own_rm_short l Z a0 hw [] b5 sq (((4 : Int32) * q) + (1 : Int32)) k5 (8 : Int32) ([(.int (ww ^^^ (-1 : Int32))), (.int (ww ^^^ (-1 : Int32))), (.int (ww ^^^ (-1 : Int32))), (.int (ww ^^^ (-1 : Int32))), (.int (ww ^^^ (-1 : Int32))), (.int (ww ^^^ (-1 : Int32))), (.int (ww ^^^ (-1 : Int32))), (.int (ww ^^^ (-1 : Int32)))].set (sq + q).toNatClampNeg (.int ww)) ww h32 n0 Z32 f32_0 hq1b hq1v) hZ (hw _ (List.mem_of_getElem? (i := 4) rfl)) (hw _ (List.mem_of_getElem? (i := 3) rfl)) (by decide) (by decide)) (g := (mkF m 169 #[.val (.int p0), .val (.int p1), .val (.int p2), .val (.int p3), .val (.int p4), .val (.int p5), .val (.int x0), .val (.int x1), .val (.int x2), .val (.int x3), .val (.int ww), .val (.int q), .val (.int sq), .val (.ref b5), .val (.int ((4 : Int32) * q)), .val (.int (own_byte ww ((((4 : Int32) * q)) % (4 : Int32)))), .unset, .unset, .unset] [(.int (((4 : Int32) * q) + (1 : Int32))), (.int sq), (.ref b5)])) rfl (by rw [hml]; rfl) (argsL := [(.ref b5), (.int sq), (.int (((4 : Int32) * q) + (1 : Int32)))]) (rest := []) (lenOf own_pd_285bIII29I rfl) rfl (by show 2 * 0 + _ ≤ _; exact Nat.le_of_eq rfl) (hb hby at_169) (fun _ _ => ⟨rfl, eh33, (by decide : 1 + 0 ≤ _), (by decide : 8 + 0 ≤ _)⟩)
  dsimp only [Pt.U, Pt.locs, Pt.cells, Pt.slots] at X35 l35 y35 z35 st35 hQ35
  subst l35 y35 z35
  obtain ⟨rfl, N35q, eh35⟩ := hQ35
  have N35 := Fr.app N33 N35q
  refine own_go st35 ?_
  have k38 : ∀ t, Steps p.tables e below (T35.setTop (mkF m 182 #[.val (.int p0), .val (.int p1), .val (.int p2), .val (.int p3), .val (.int p4), .val (.int p5), .val (.int x0), .val (.int x1), .val (.int x2), .val (.int x3), .val (.int ww), .val (.int q), .val (.int sq), .val (.ref b5), .val (.int ((4 : Int32) * q)), .val (.int (own_byte ww ((((4 : Int32) * q)) % (4 : Int32)))), .val (.int (own_byte ww (((((4 : Int32) * q) + (1 : Int32))) % (4 : Int32)))), .unset, .unset] [(.int (((4 : Int32) * q) + (2 : Int32))), (.int sq), (.ref b5)])) t → Steps p.tables e below (T35.setTop (mkF m 172 #[.val (.int p0), .val (.int p1), .val (.int p2), .val (.int p3), .val (.int p4), .val (.int p5), .val (.int x0), .val (.int x1), .val (.int x2), .val (.int x3), .val (.int ww), .val (.int q), .val (.int sq), .val (.ref b5), .val (.int ((4 : Int32) * q)), .val (.int (own_byte ww ((((4 : Int32) * q)) % (4 : Int32)))), .unset, .unset, .unset] [(.int (own_byte ww (((((4 : Int32) * q) + (1 : Int32))) % (4 : Int32))))])) t := fun t k => by
    refine XS.istore X35.here hx rfl (hb hby at_172) rfl (l' := #[.val (.int p0), .val (.int p1), .val (.int p2), .val (.int p3), .val (.int p4), .val (.int p5), .val (.int x0), .val (.int x1), .val (.int x2), .val (.int x3), .val (.int ww), .val (.int q), .val (.int sq), .val (.ref b5), .val (.int ((4 : Int32) * q)), .val (.int (own_byte ww ((((4 : Int32) * q)) % (4 : Int32)))), .val (.int (own_byte ww (((((4 : Int32) * q) + (1 : Int32))) % (4 : Int32)))), .unset, .unset]) rfl ?_
    show Steps p.tables e below (T35.setTop (mkF m 174 #[.val (.int p0), .val (.int p1), .val (.int p2), .val (.int p3), .val (.int p4), .val (.int p5), .val (.int x0), .val (.int x1), .val (.int x2), .val (.int x3), .val (.int ww), .val (.int q), .val (.int sq), .val (.ref b5), .val (.int ((4 : Int32) * q)), .val (.int (own_byte ww ((((4 : Int32) * q)) % (4 : Int32)))), .val (.int (own_byte ww (((((4 : Int32) * q) + (1 : Int32))) % (4 : Int32)))), .unset, .unset] [])) _
    refine XS.aload X35.here hx rfl (hb hby at_174) rfl rfl ?_
    show Steps p.tables e below (T35.setTop (mkF m 176 #[.val (.int p0), .val (.int p1), .val (.int p2), .val (.int p3), .val (.int p4), .val (.int p5), .val (.int x0), .val (.int x1), .val (.int x2), .val (.int x3), .val (.int ww), .val (.int q), .val (.int sq), .val (.ref b5), .val (.int ((4 : Int32) * q)), .val (.int (own_byte ww ((((4 : Int32) * q)) % (4 : Int32)))), .val (.int (own_byte ww (((((4 : Int32) * q) + (1 : Int32))) % (4 : Int32)))), .unset, .unset] [(.ref b5)])) _
    refine XS.iload X35.here hx rfl (hb hby at_176) rfl ?_
    show Steps p.tables e below (T35.setTop (mkF m 178 #[.val (.int p0), .val (.int p1), .val (.int p2), .val (.int p3), .val (.int p4), .val (.int p5), .val (.int x0), .val (.int x1), .val (.int x2), .val (.int x3), .val (.int ww), .val (.int q), .val (.int sq), .val (.ref b5), .val (.int ((4 : Int32) * q)), .val (.int (own_byte ww ((((4 : Int32) * q)) % (4 : Int32)))), .val (.int (own_byte ww (((((4 : Int32) * q) + (1 : Int32))) % (4 : Int32)))), .unset, .unset] [(.int sq), (.ref b5)])) _
    refine XS.iload X35.here hx rfl (hb hby at_178) rfl ?_
    show Steps p.tables e below (T35.setTop (mkF m 180 #[.val (.int p0), .val (.int p1), .val (.int p2), .val (.int p3), .val (.int p4), .val (.int p5), .val (.int x0), .val (.int x1), .val (.int x2), .val (.int x3), .val (.int ww), .val (.int q), .val (.int sq), .val (.ref b5), .val (.int ((4 : Int32) * q)), .val (.int (own_byte ww ((((4 : Int32) * q)) % (4 : Int32)))), .val (.int (own_byte ww (((((4 : Int32) * q) + (1 : Int32))) % (4 : Int32)))), .unset, .unset] [(.int ((4 : Int32) * q)), (.int sq), (.ref b5)])) _
    refine XS.iconst X35.here hx rfl (hb hby at_180) ?_
    show Steps p.tables e below (T35.setTop (mkF m 181 #[.val (.int p0), .val (.int p1), .val (.int p2), .val (.int p3), .val (.int p4), .val (.int p5), .val (.int x0), .val (.int x1), .val (.int x2), .val (.int x3), .val (.int ww), .val (.int q), .val (.int sq), .val (.ref b5), .val (.int ((4 : Int32) * q)), .val (.int (own_byte ww ((((4 : Int32) * q)) % (4 : Int32)))), .val (.int (own_byte ww (((((4 : Int32) * q) + (1 : Int32))) % (4 : Int32)))), .unset, .unset] [(.int (2 : Int32)), (.int ((4 : Int32) * q)), (.int sq), (.ref b5)])) _
    refine XS.iadd X35.here hx rfl (hb hby at_181) rfl ?_
    show Steps p.tables e below (T35.setTop (mkF m 182 #[.val (.int p0), .val (.int p1), .val (.int p2), .val (.int p3), .val (.int p4), .val (.int p5), .val (.int x0), .val (.int x1), .val (.int x2), .val (.int x3), .val (.int ww), .val (.int q), .val (.int sq), .val (.ref b5), .val (.int ((4 : Int32) * q)), .val (.int (own_byte ww ((((4 : Int32) * q)) % (4 : Int32)))), .val (.int (own_byte ww (((((4 : Int32) * q) + (1 : Int32))) % (4 : Int32)))), .unset, .unset] [(.int (((4 : Int32) * q) + (2 : Int32))), (.int sq), (.ref b5)])) _
    exact k
  refine own_go k38 ?_
  clear k38
  obtain ⟨_, _, ⟨T37, L37, k37, n37⟩, -, X37, ⟨Lc37, hQ37, l37, y37, z37⟩, st37⟩ := Jvm.LawKit.callS X35 hx (y := (⟨"com/example/likelihood/likelihood/index/Postings", "shortLength", "([III)I"⟩ : MethodName)) hown (mvT hZ (hw _ (List.mem_of_getElem? (i := 1) rfl))) (mvT hZ (hw _ (List.mem_of_getElem? (i := 2) rfl))) (mvT hZ (hw _ (List.mem_of_getElem? (i := 3) rfl))) (mvT hZ (hw _ (List.mem_of_getElem? (i := 4) rfl))) (by decide) (backOf (W := 0) (own_rm_short l Z a0 hw [] b5 sq (((4 : Int32) * q) + (2 : Int32)) k5 (8 : Int32) ([(.int (ww ^^^ (-1 : Int32))), (.int (ww ^^^ (-1 : Int32))), (.int (ww ^^^ (-1 : Int32))), (.int (ww ^^^ (-1 : Int32))), (.int (ww ^^^ (-1 : Int32))), (.int (ww ^^^ (-1 : Int32))), (.int (ww ^^^ (-1 : Int32))), (.int (ww ^^^ (-1 : Int32)))].set (sq + q).toNatClampNeg (.int ww)) ww h32 n0 Z32 f32_0 hq2b hq2v) hZ (hw _ (List.mem_of_getElem? (i := 4) rfl)) (hw _ (List.mem_of_getElem? (i := 3) rfl)) (by decide) (by decide)) (g := (mkF m 182 #[.val (.int p0), .val (.int p1), .val (.int p2), .val (.int p3), .val (.int p4), .val (.int p5), .val (.int x0), .val (.int x1), .val (.int x2), .val (.int x3), .val (.int ww), .val (.int q), .val (.int sq), .val (.ref b5), .val (.int ((4 : Int32) * q)), .val (.int (own_byte ww ((((4 : Int32) * q)) % (4 : Int32)))), .val (.int (own_byte ww (((((4 : Int32) * q) + (1 : Int32))) % (4 : Int32)))), .unset, .unset] [(.int (((4 : Int32) * q) + (2 : Int32))), (.int sq), (.ref b5)])) rfl (by rw [hml]; rfl) (argsL := [(.ref b5), (.int sq), (.int (((4 : Int32) * q) + (2 : Int32)))]) (rest := []) (lenOf own_pd_285bIII29I rfl) rfl (by show 2 * 0 + _ ≤ _; exact Nat.le_of_eq rfl) (hb hby at_182) (fun _ _ => ⟨rfl, eh35, (by decide : 1 + 0 ≤ _), (by decide : 8 + 0 ≤ _)⟩)
  dsimp only [Pt.U, Pt.locs, Pt.cells, Pt.slots] at X37 l37 y37 z37 st37 hQ37
  subst l37 y37 z37
  obtain ⟨rfl, N37q, eh37⟩ := hQ37
  have N37 := Fr.app N35 N37q
  refine own_go st37 ?_
  have k40 : ∀ t, Steps p.tables e below (T37.setTop (mkF m 195 #[.val (.int p0), .val (.int p1), .val (.int p2), .val (.int p3), .val (.int p4), .val (.int p5), .val (.int x0), .val (.int x1), .val (.int x2), .val (.int x3), .val (.int ww), .val (.int q), .val (.int sq), .val (.ref b5), .val (.int ((4 : Int32) * q)), .val (.int (own_byte ww ((((4 : Int32) * q)) % (4 : Int32)))), .val (.int (own_byte ww (((((4 : Int32) * q) + (1 : Int32))) % (4 : Int32)))), .val (.int (own_byte ww (((((4 : Int32) * q) + (2 : Int32))) % (4 : Int32)))), .unset] [(.int (((4 : Int32) * q) + (3 : Int32))), (.int sq), (.ref b5)])) t → Steps p.tables e below (T37.setTop (mkF m 185 #[.val (.int p0), .val (.int p1), .val (.int p2), .val (.int p3), .val (.int p4), .val (.int p5), .val (.int x0), .val (.int x1), .val (.int x2), .val (.int x3), .val (.int ww), .val (.int q), .val (.int sq), .val (.ref b5), .val (.int ((4 : Int32) * q)), .val (.int (own_byte ww ((((4 : Int32) * q)) % (4 : Int32)))), .val (.int (own_byte ww (((((4 : Int32) * q) + (1 : Int32))) % (4 : Int32)))), .unset, .unset] [(.int (own_byte ww (((((4 : Int32) * q) + (2 : Int32))) % (4 : Int32))))])) t := fun t k => by
    refine XS.istore X37.here hx rfl (hb hby at_185) rfl (l' := #[.val (.int p0), .val (.int p1), .val (.int p2), .val (.int p3), .val (.int p4), .val (.int p5), .val (.int x0), .val (.int x1), .val (.int x2), .val (.int x3), .val (.int ww), .val (.int q), .val (.int sq), .val (.ref b5), .val (.int ((4 : Int32) * q)), .val (.int (own_byte ww ((((4 : Int32) * q)) % (4 : Int32)))), .val (.int (own_byte ww (((((4 : Int32) * q) + (1 : Int32))) % (4 : Int32)))), .val (.int (own_byte ww (((((4 : Int32) * q) + (2 : Int32))) % (4 : Int32)))), .unset]) rfl ?_
    show Steps p.tables e below (T37.setTop (mkF m 187 #[.val (.int p0), .val (.int p1), .val (.int p2), .val (.int p3), .val (.int p4), .val (.int p5), .val (.int x0), .val (.int x1), .val (.int x2), .val (.int x3), .val (.int ww), .val (.int q), .val (.int sq), .val (.ref b5), .val (.int ((4 : Int32) * q)), .val (.int (own_byte ww ((((4 : Int32) * q)) % (4 : Int32)))), .val (.int (own_byte ww (((((4 : Int32) * q) + (1 : Int32))) % (4 : Int32)))), .val (.int (own_byte ww (((((4 : Int32) * q) + (2 : Int32))) % (4 : Int32)))), .unset] [])) _
    refine XS.aload X37.here hx rfl (hb hby at_187) rfl rfl ?_
    show Steps p.tables e below (T37.setTop (mkF m 189 #[.val (.int p0), .val (.int p1), .val (.int p2), .val (.int p3), .val (.int p4), .val (.int p5), .val (.int x0), .val (.int x1), .val (.int x2), .val (.int x3), .val (.int ww), .val (.int q), .val (.int sq), .val (.ref b5), .val (.int ((4 : Int32) * q)), .val (.int (own_byte ww ((((4 : Int32) * q)) % (4 : Int32)))), .val (.int (own_byte ww (((((4 : Int32) * q) + (1 : Int32))) % (4 : Int32)))), .val (.int (own_byte ww (((((4 : Int32) * q) + (2 : Int32))) % (4 : Int32)))), .unset] [(.ref b5)])) _
    refine XS.iload X37.here hx rfl (hb hby at_189) rfl ?_
    show Steps p.tables e below (T37.setTop (mkF m 191 #[.val (.int p0), .val (.int p1), .val (.int p2), .val (.int p3), .val (.int p4), .val (.int p5), .val (.int x0), .val (.int x1), .val (.int x2), .val (.int x3), .val (.int ww), .val (.int q), .val (.int sq), .val (.ref b5), .val (.int ((4 : Int32) * q)), .val (.int (own_byte ww ((((4 : Int32) * q)) % (4 : Int32)))), .val (.int (own_byte ww (((((4 : Int32) * q) + (1 : Int32))) % (4 : Int32)))), .val (.int (own_byte ww (((((4 : Int32) * q) + (2 : Int32))) % (4 : Int32)))), .unset] [(.int sq), (.ref b5)])) _
    refine XS.iload X37.here hx rfl (hb hby at_191) rfl ?_
    show Steps p.tables e below (T37.setTop (mkF m 193 #[.val (.int p0), .val (.int p1), .val (.int p2), .val (.int p3), .val (.int p4), .val (.int p5), .val (.int x0), .val (.int x1), .val (.int x2), .val (.int x3), .val (.int ww), .val (.int q), .val (.int sq), .val (.ref b5), .val (.int ((4 : Int32) * q)), .val (.int (own_byte ww ((((4 : Int32) * q)) % (4 : Int32)))), .val (.int (own_byte ww (((((4 : Int32) * q) + (1 : Int32))) % (4 : Int32)))), .val (.int (own_byte ww (((((4 : Int32) * q) + (2 : Int32))) % (4 : Int32)))), .unset] [(.int ((4 : Int32) * q)), (.int sq), (.ref b5)])) _
    refine XS.iconst X37.here hx rfl (hb hby at_193) ?_
    show Steps p.tables e below (T37.setTop (mkF m 194 #[.val (.int p0), .val (.int p1), .val (.int p2), .val (.int p3), .val (.int p4), .val (.int p5), .val (.int x0), .val (.int x1), .val (.int x2), .val (.int x3), .val (.int ww), .val (.int q), .val (.int sq), .val (.ref b5), .val (.int ((4 : Int32) * q)), .val (.int (own_byte ww ((((4 : Int32) * q)) % (4 : Int32)))), .val (.int (own_byte ww (((((4 : Int32) * q) + (1 : Int32))) % (4 : Int32)))), .val (.int (own_byte ww (((((4 : Int32) * q) + (2 : Int32))) % (4 : Int32)))), .unset] [(.int (3 : Int32)), (.int ((4 : Int32) * q)), (.int sq), (.ref b5)])) _
    refine XS.iadd X37.here hx rfl (hb hby at_194) rfl ?_
    show Steps p.tables e below (T37.setTop (mkF m 195 #[.val (.int p0), .val (.int p1), .val (.int p2), .val (.int p3), .val (.int p4), .val (.int p5), .val (.int x0), .val (.int x1), .val (.int x2), .val (.int x3), .val (.int ww), .val (.int q), .val (.int sq), .val (.ref b5), .val (.int ((4 : Int32) * q)), .val (.int (own_byte ww ((((4 : Int32) * q)) % (4 : Int32)))), .val (.int (own_byte ww (((((4 : Int32) * q) + (1 : Int32))) % (4 : Int32)))), .val (.int (own_byte ww (((((4 : Int32) * q) + (2 : Int32))) % (4 : Int32)))), .unset] [(.int (((4 : Int32) * q) + (3 : Int32))), (.int sq), (.ref b5)])) _
    exact k
  refine own_go k40 ?_
  clear k40
  obtain ⟨_, _, ⟨T39, L39, k39, n39⟩, -, X39, ⟨Lc39, hQ39, l39, y39, z39⟩, st39⟩ := Jvm.LawKit.callS X37 hx (y := (⟨"com/example/likelihood/likelihood/index/Postings", "shortLength", "([III)I"⟩ : MethodName)) hown (mvT hZ (hw _ (List.mem_of_getElem? (i := 1) rfl))) (mvT hZ (hw _ (List.mem_of_getElem? (i := 2) rfl))) (mvT hZ (hw _ (List.mem_of_getElem? (i := 3) rfl))) (mvT hZ (hw _ (List.mem_of_getElem? (i := 4) rfl))) (by decide) (backOf (W := 0) (own_rm_short l Z a0 hw [] b5 sq (((4 : Int32) * q) + (3 : Int32)) k5 (8 : Int32) ([(.int (ww ^^^ (-1 : Int32))), (.int (ww ^^^ (-1 : Int32))), (.int (ww ^^^ (-1 : Int32))), (.int (ww ^^^ (-1 : Int32))), (.int (ww ^^^ (-1 : Int32))), (.int (ww ^^^ (-1 : Int32))), (.int (ww ^^^ (-1 : Int32))), (.int (ww ^^^ (-1 : Int32)))].set (sq + q).toNatClampNeg (.int ww)) ww h32 n0 Z32 f32_0 hq3b hq3v) hZ (hw _ (List.mem_of_getElem? (i := 4) rfl)) (hw _ (List.mem_of_getElem? (i := 3) rfl)) (by decide) (by decide)) (g := (mkF m 195 #[.val (.int p0), .val (.int p1), .val (.int p2), .val (.int p3), .val (.int p4), .val (.int p5), .val (.int x0), .val (.int x1), .val (.int x2), .val (.int x3), .val (.int ww), .val (.int q), .val (.int sq), .val (.ref b5), .val (.int ((4 : Int32) * q)), .val (.int (own_byte ww ((((4 : Int32) * q)) % (4 : Int32)))), .val (.int (own_byte ww (((((4 : Int32) * q) + (1 : Int32))) % (4 : Int32)))), .val (.int (own_byte ww (((((4 : Int32) * q) + (2 : Int32))) % (4 : Int32)))), .unset] [(.int (((4 : Int32) * q) + (3 : Int32))), (.int sq), (.ref b5)])) rfl (by rw [hml]; rfl) (argsL := [(.ref b5), (.int sq), (.int (((4 : Int32) * q) + (3 : Int32)))]) (rest := []) (lenOf own_pd_285bIII29I rfl) rfl (by show 2 * 0 + _ ≤ _; exact Nat.le_of_eq rfl) (hb hby at_195) (fun _ _ => ⟨rfl, eh37, (by decide : 1 + 0 ≤ _), (by decide : 8 + 0 ≤ _)⟩)
  dsimp only [Pt.U, Pt.locs, Pt.cells, Pt.slots] at X39 l39 y39 z39 st39 hQ39
  subst l39 y39 z39
  obtain ⟨rfl, N39q, eh39⟩ := hQ39
  have N39 := Fr.app N37 N39q
  refine own_go st39 ?_
  have k41 : ∀ t, Steps p.tables e below (T39.setTop (mkF m 233 #[.val (.int p0), .val (.int p1), .val (.int p2), .val (.int p3), .val (.int p4), .val (.int p5), .val (.int x0), .val (.int x1), .val (.int x2), .val (.int x3), .val (.int ww), .val (.int q), .val (.int sq), .val (.ref b5), .val (.int ((4 : Int32) * q)), .val (.int (own_byte ww ((((4 : Int32) * q)) % (4 : Int32)))), .val (.int (own_byte ww (((((4 : Int32) * q) + (1 : Int32))) % (4 : Int32)))), .val (.int (own_byte ww (((((4 : Int32) * q) + (2 : Int32))) % (4 : Int32)))), .val (.int (own_byte ww (((((4 : Int32) * q) + (3 : Int32))) % (4 : Int32))))] [(.int (1 : Int32))])) t → Steps p.tables e below (T39.setTop (mkF m 198 #[.val (.int p0), .val (.int p1), .val (.int p2), .val (.int p3), .val (.int p4), .val (.int p5), .val (.int x0), .val (.int x1), .val (.int x2), .val (.int x3), .val (.int ww), .val (.int q), .val (.int sq), .val (.ref b5), .val (.int ((4 : Int32) * q)), .val (.int (own_byte ww ((((4 : Int32) * q)) % (4 : Int32)))), .val (.int (own_byte ww (((((4 : Int32) * q) + (1 : Int32))) % (4 : Int32)))), .val (.int (own_byte ww (((((4 : Int32) * q) + (2 : Int32))) % (4 : Int32)))), .unset] [(.int (own_byte ww (((((4 : Int32) * q) + (3 : Int32))) % (4 : Int32))))])) t := fun t k => by
    refine XS.istore X39.here hx rfl (hb hby at_198) rfl (l' := #[.val (.int p0), .val (.int p1), .val (.int p2), .val (.int p3), .val (.int p4), .val (.int p5), .val (.int x0), .val (.int x1), .val (.int x2), .val (.int x3), .val (.int ww), .val (.int q), .val (.int sq), .val (.ref b5), .val (.int ((4 : Int32) * q)), .val (.int (own_byte ww ((((4 : Int32) * q)) % (4 : Int32)))), .val (.int (own_byte ww (((((4 : Int32) * q) + (1 : Int32))) % (4 : Int32)))), .val (.int (own_byte ww (((((4 : Int32) * q) + (2 : Int32))) % (4 : Int32)))), .val (.int (own_byte ww (((((4 : Int32) * q) + (3 : Int32))) % (4 : Int32))))]) rfl ?_
    show Steps p.tables e below (T39.setTop (mkF m 200 #[.val (.int p0), .val (.int p1), .val (.int p2), .val (.int p3), .val (.int p4), .val (.int p5), .val (.int x0), .val (.int x1), .val (.int x2), .val (.int x3), .val (.int ww), .val (.int q), .val (.int sq), .val (.ref b5), .val (.int ((4 : Int32) * q)), .val (.int (own_byte ww ((((4 : Int32) * q)) % (4 : Int32)))), .val (.int (own_byte ww (((((4 : Int32) * q) + (1 : Int32))) % (4 : Int32)))), .val (.int (own_byte ww (((((4 : Int32) * q) + (2 : Int32))) % (4 : Int32)))), .val (.int (own_byte ww (((((4 : Int32) * q) + (3 : Int32))) % (4 : Int32))))] [])) _
    refine XS.iload X39.here hx rfl (hb hby at_200) rfl ?_
    show Steps p.tables e below (T39.setTop (mkF m 202 #[.val (.int p0), .val (.int p1), .val (.int p2), .val (.int p3), .val (.int p4), .val (.int p5), .val (.int x0), .val (.int x1), .val (.int x2), .val (.int x3), .val (.int ww), .val (.int q), .val (.int sq), .val (.ref b5), .val (.int ((4 : Int32) * q)), .val (.int (own_byte ww ((((4 : Int32) * q)) % (4 : Int32)))), .val (.int (own_byte ww (((((4 : Int32) * q) + (1 : Int32))) % (4 : Int32)))), .val (.int (own_byte ww (((((4 : Int32) * q) + (2 : Int32))) % (4 : Int32)))), .val (.int (own_byte ww (((((4 : Int32) * q) + (3 : Int32))) % (4 : Int32))))] [(.int (own_byte ww ((((4 : Int32) * q)) % (4 : Int32))))])) _
    refine XS.iload X39.here hx rfl (hb hby at_202) rfl ?_
    show Steps p.tables e below (T39.setTop (mkF m 204 #[.val (.int p0), .val (.int p1), .val (.int p2), .val (.int p3), .val (.int p4), .val (.int p5), .val (.int x0), .val (.int x1), .val (.int x2), .val (.int x3), .val (.int ww), .val (.int q), .val (.int sq), .val (.ref b5), .val (.int ((4 : Int32) * q)), .val (.int (own_byte ww ((((4 : Int32) * q)) % (4 : Int32)))), .val (.int (own_byte ww (((((4 : Int32) * q) + (1 : Int32))) % (4 : Int32)))), .val (.int (own_byte ww (((((4 : Int32) * q) + (2 : Int32))) % (4 : Int32)))), .val (.int (own_byte ww (((((4 : Int32) * q) + (3 : Int32))) % (4 : Int32))))] [(.int x0), (.int (own_byte ww ((((4 : Int32) * q)) % (4 : Int32))))])) _
    refine XS.icmpNo X39.here hx rfl (hb hby at_204) rfl (teq (by show own_byte ww (_ % (4 : Int32)) = _; rw [hq0.2]; exact y0)).2 ?_
    show Steps p.tables e below (T39.setTop (mkF m 207 #[.val (.int p0), .val (.int p1), .val (.int p2), .val (.int p3), .val (.int p4), .val (.int p5), .val (.int x0), .val (.int x1), .val (.int x2), .val (.int x3), .val (.int ww), .val (.int q), .val (.int sq), .val (.ref b5), .val (.int ((4 : Int32) * q)), .val (.int (own_byte ww ((((4 : Int32) * q)) % (4 : Int32)))), .val (.int (own_byte ww (((((4 : Int32) * q) + (1 : Int32))) % (4 : Int32)))), .val (.int (own_byte ww (((((4 : Int32) * q) + (2 : Int32))) % (4 : Int32)))), .val (.int (own_byte ww (((((4 : Int32) * q) + (3 : Int32))) % (4 : Int32))))] [])) _
    refine XS.iload X39.here hx rfl (hb hby at_207) rfl ?_
    show Steps p.tables e below (T39.setTop (mkF m 209 #[.val (.int p0), .val (.int p1), .val (.int p2), .val (.int p3), .val (.int p4), .val (.int p5), .val (.int x0), .val (.int x1), .val (.int x2), .val (.int x3), .val (.int ww), .val (.int q), .val (.int sq), .val (.ref b5), .val (.int ((4 : Int32) * q)), .val (.int (own_byte ww ((((4 : Int32) * q)) % (4 : Int32)))), .val (.int (own_byte ww (((((4 : Int32) * q) + (1 : Int32))) % (4 : Int32)))), .val (.int (own_byte ww (((((4 : Int32) * q) + (2 : Int32))) % (4 : Int32)))), .val (.int (own_byte ww (((((4 : Int32) * q) + (3 : Int32))) % (4 : Int32))))] [(.int (own_byte ww (((((4 : Int32) * q) + (1 : Int32))) % (4 : Int32))))])) _
    refine XS.iload X39.here hx rfl (hb hby at_209) rfl ?_
    show Steps p.tables e below (T39.setTop (mkF m 211 #[.val (.int p0), .val (.int p1), .val (.int p2), .val (.int p3), .val (.int p4), .val (.int p5), .val (.int x0), .val (.int x1), .val (.int x2), .val (.int x3), .val (.int ww), .val (.int q), .val (.int sq), .val (.ref b5), .val (.int ((4 : Int32) * q)), .val (.int (own_byte ww ((((4 : Int32) * q)) % (4 : Int32)))), .val (.int (own_byte ww (((((4 : Int32) * q) + (1 : Int32))) % (4 : Int32)))), .val (.int (own_byte ww (((((4 : Int32) * q) + (2 : Int32))) % (4 : Int32)))), .val (.int (own_byte ww (((((4 : Int32) * q) + (3 : Int32))) % (4 : Int32))))] [(.int x1), (.int (own_byte ww (((((4 : Int32) * q) + (1 : Int32))) % (4 : Int32))))])) _
    refine XS.icmpNo X39.here hx rfl (hb hby at_211) rfl (teq (by show own_byte ww (_ % (4 : Int32)) = _; rw [hq1.2]; exact y1)).2 ?_
    show Steps p.tables e below (T39.setTop (mkF m 214 #[.val (.int p0), .val (.int p1), .val (.int p2), .val (.int p3), .val (.int p4), .val (.int p5), .val (.int x0), .val (.int x1), .val (.int x2), .val (.int x3), .val (.int ww), .val (.int q), .val (.int sq), .val (.ref b5), .val (.int ((4 : Int32) * q)), .val (.int (own_byte ww ((((4 : Int32) * q)) % (4 : Int32)))), .val (.int (own_byte ww (((((4 : Int32) * q) + (1 : Int32))) % (4 : Int32)))), .val (.int (own_byte ww (((((4 : Int32) * q) + (2 : Int32))) % (4 : Int32)))), .val (.int (own_byte ww (((((4 : Int32) * q) + (3 : Int32))) % (4 : Int32))))] [])) _
    refine XS.iload X39.here hx rfl (hb hby at_214) rfl ?_
    show Steps p.tables e below (T39.setTop (mkF m 216 #[.val (.int p0), .val (.int p1), .val (.int p2), .val (.int p3), .val (.int p4), .val (.int p5), .val (.int x0), .val (.int x1), .val (.int x2), .val (.int x3), .val (.int ww), .val (.int q), .val (.int sq), .val (.ref b5), .val (.int ((4 : Int32) * q)), .val (.int (own_byte ww ((((4 : Int32) * q)) % (4 : Int32)))), .val (.int (own_byte ww (((((4 : Int32) * q) + (1 : Int32))) % (4 : Int32)))), .val (.int (own_byte ww (((((4 : Int32) * q) + (2 : Int32))) % (4 : Int32)))), .val (.int (own_byte ww (((((4 : Int32) * q) + (3 : Int32))) % (4 : Int32))))] [(.int (own_byte ww (((((4 : Int32) * q) + (2 : Int32))) % (4 : Int32))))])) _
    refine XS.iload X39.here hx rfl (hb hby at_216) rfl ?_
    show Steps p.tables e below (T39.setTop (mkF m 218 #[.val (.int p0), .val (.int p1), .val (.int p2), .val (.int p3), .val (.int p4), .val (.int p5), .val (.int x0), .val (.int x1), .val (.int x2), .val (.int x3), .val (.int ww), .val (.int q), .val (.int sq), .val (.ref b5), .val (.int ((4 : Int32) * q)), .val (.int (own_byte ww ((((4 : Int32) * q)) % (4 : Int32)))), .val (.int (own_byte ww (((((4 : Int32) * q) + (1 : Int32))) % (4 : Int32)))), .val (.int (own_byte ww (((((4 : Int32) * q) + (2 : Int32))) % (4 : Int32)))), .val (.int (own_byte ww (((((4 : Int32) * q) + (3 : Int32))) % (4 : Int32))))] [(.int x2), (.int (own_byte ww (((((4 : Int32) * q) + (2 : Int32))) % (4 : Int32))))])) _
    refine XS.icmpNo X39.here hx rfl (hb hby at_218) rfl (teq (by show own_byte ww (_ % (4 : Int32)) = _; rw [hq2.2]; exact y2)).2 ?_
    show Steps p.tables e below (T39.setTop (mkF m 221 #[.val (.int p0), .val (.int p1), .val (.int p2), .val (.int p3), .val (.int p4), .val (.int p5), .val (.int x0), .val (.int x1), .val (.int x2), .val (.int x3), .val (.int ww), .val (.int q), .val (.int sq), .val (.ref b5), .val (.int ((4 : Int32) * q)), .val (.int (own_byte ww ((((4 : Int32) * q)) % (4 : Int32)))), .val (.int (own_byte ww (((((4 : Int32) * q) + (1 : Int32))) % (4 : Int32)))), .val (.int (own_byte ww (((((4 : Int32) * q) + (2 : Int32))) % (4 : Int32)))), .val (.int (own_byte ww (((((4 : Int32) * q) + (3 : Int32))) % (4 : Int32))))] [])) _
    refine XS.iload X39.here hx rfl (hb hby at_221) rfl ?_
    show Steps p.tables e below (T39.setTop (mkF m 223 #[.val (.int p0), .val (.int p1), .val (.int p2), .val (.int p3), .val (.int p4), .val (.int p5), .val (.int x0), .val (.int x1), .val (.int x2), .val (.int x3), .val (.int ww), .val (.int q), .val (.int sq), .val (.ref b5), .val (.int ((4 : Int32) * q)), .val (.int (own_byte ww ((((4 : Int32) * q)) % (4 : Int32)))), .val (.int (own_byte ww (((((4 : Int32) * q) + (1 : Int32))) % (4 : Int32)))), .val (.int (own_byte ww (((((4 : Int32) * q) + (2 : Int32))) % (4 : Int32)))), .val (.int (own_byte ww (((((4 : Int32) * q) + (3 : Int32))) % (4 : Int32))))] [(.int (own_byte ww (((((4 : Int32) * q) + (3 : Int32))) % (4 : Int32))))])) _
    refine XS.iload X39.here hx rfl (hb hby at_223) rfl ?_
    show Steps p.tables e below (T39.setTop (mkF m 225 #[.val (.int p0), .val (.int p1), .val (.int p2), .val (.int p3), .val (.int p4), .val (.int p5), .val (.int x0), .val (.int x1), .val (.int x2), .val (.int x3), .val (.int ww), .val (.int q), .val (.int sq), .val (.ref b5), .val (.int ((4 : Int32) * q)), .val (.int (own_byte ww ((((4 : Int32) * q)) % (4 : Int32)))), .val (.int (own_byte ww (((((4 : Int32) * q) + (1 : Int32))) % (4 : Int32)))), .val (.int (own_byte ww (((((4 : Int32) * q) + (2 : Int32))) % (4 : Int32)))), .val (.int (own_byte ww (((((4 : Int32) * q) + (3 : Int32))) % (4 : Int32))))] [(.int x3), (.int (own_byte ww (((((4 : Int32) * q) + (3 : Int32))) % (4 : Int32))))])) _
    refine XS.icmpNo X39.here hx rfl (hb hby at_225) rfl (teq (by show own_byte ww (_ % (4 : Int32)) = _; rw [hq3.2]; exact y3)).2 ?_
    show Steps p.tables e below (T39.setTop (mkF m 228 #[.val (.int p0), .val (.int p1), .val (.int p2), .val (.int p3), .val (.int p4), .val (.int p5), .val (.int x0), .val (.int x1), .val (.int x2), .val (.int x3), .val (.int ww), .val (.int q), .val (.int sq), .val (.ref b5), .val (.int ((4 : Int32) * q)), .val (.int (own_byte ww ((((4 : Int32) * q)) % (4 : Int32)))), .val (.int (own_byte ww (((((4 : Int32) * q) + (1 : Int32))) % (4 : Int32)))), .val (.int (own_byte ww (((((4 : Int32) * q) + (2 : Int32))) % (4 : Int32)))), .val (.int (own_byte ww (((((4 : Int32) * q) + (3 : Int32))) % (4 : Int32))))] [])) _
    refine XS.iconst X39.here hx rfl (hb hby at_228) ?_
    show Steps p.tables e below (T39.setTop (mkF m 229 #[.val (.int p0), .val (.int p1), .val (.int p2), .val (.int p3), .val (.int p4), .val (.int p5), .val (.int x0), .val (.int x1), .val (.int x2), .val (.int x3), .val (.int ww), .val (.int q), .val (.int sq), .val (.ref b5), .val (.int ((4 : Int32) * q)), .val (.int (own_byte ww ((((4 : Int32) * q)) % (4 : Int32)))), .val (.int (own_byte ww (((((4 : Int32) * q) + (1 : Int32))) % (4 : Int32)))), .val (.int (own_byte ww (((((4 : Int32) * q) + (2 : Int32))) % (4 : Int32)))), .val (.int (own_byte ww (((((4 : Int32) * q) + (3 : Int32))) % (4 : Int32))))] [(.int (1 : Int32))])) _
    refine XS.goto X39.here hx rfl (pc0 := 229) (pc' := 233) rfl (hb hby at_229) (by decide) (by decide) ?_
    show Steps p.tables e below (T39.setTop (mkF m 233 #[.val (.int p0), .val (.int p1), .val (.int p2), .val (.int p3), .val (.int p4), .val (.int p5), .val (.int x0), .val (.int x1), .val (.int x2), .val (.int x3), .val (.int ww), .val (.int q), .val (.int sq), .val (.ref b5), .val (.int ((4 : Int32) * q)), .val (.int (own_byte ww ((((4 : Int32) * q)) % (4 : Int32)))), .val (.int (own_byte ww (((((4 : Int32) * q) + (1 : Int32))) % (4 : Int32)))), .val (.int (own_byte ww (((((4 : Int32) * q) + (2 : Int32))) % (4 : Int32)))), .val (.int (own_byte ww (((((4 : Int32) * q) + (3 : Int32))) % (4 : Int32))))] [(.int (1 : Int32))])) _
    exact k
  refine own_go k41 ?_
  clear k41
  obtain ⟨fs, hr, hrun, hended, hW, hsame⟩ := X39.leave (v := some (.int (nar .boolean (1 : Int32)))) (fun h => by rw [Bd.returns] at h; cases h)
  refine ⟨_, _, retN X39 hx (t := .boolean) Bd.returns (by simp) (hb hby at_233) hr, hPf _ _ ⟨hrun, hended, _, _, rfl, ?_, ⟨_, rfl⟩, hW, hsame.mono (by decide) (by decide)⟩⟩
  show own_Q_law Z p0 p1 p2 p3 p4 p5 h0 n0 _ T39.heap _
  rw [eh39]
  exact ⟨rfl, N39⟩
set_option maxRecDepth 65536 in
set_option maxHeartbeats 40000000 in
theorem own_comes {Post : Tables → Env → Array Value → State → Outcome → State → Prop} (hpost : ∀ tb e args s v u, (limb_1_1.after args s (.returned v) u = true ∧ limb_1_2.after args s (.returned v) u = true ∧ True) → FrameEnd s (.returned v) u (Jvm.fieldLocs frame_1_writes args s ++ Jvm.arrayLocs frame_1_arrays args s ++ Jvm.staticLocs frame_1_statics s) 16 128 → Post tb e args s (.returned v) u) :
    ArmFor flags0 classFile x code maxLocals ret World_1 tables_1 room_1 Calls_1 rest_1 Pre_1 Post := by
  intro l hfl _ _ p e ha hc hk s m args below hf hA hF happ hP
  obtain ⟨hcalls, hrest, hpre⟩ := hP
  obtain ⟨-, -, -, hnamed, -, -, -, hat⟩ := (Spec.applies_iff hf).mp happ
  obtain ⟨hg, hn⟩ := and_e (Cond.before_iff.mp (show (Jvm.Cond.and given_1 narrow_1).before args s = true from hpre))
  obtain ⟨hg1a, hg1b⟩ := and_e hg
  obtain ⟨hg2a, hg2b⟩ := and_e hg1b
  obtain ⟨hg3a, hg3b⟩ := and_e hg2b
  obtain ⟨hg4a, hg4b⟩ := and_e hg3b
  obtain ⟨hg5a, hg5b⟩ := and_e hg4b
  obtain ⟨hg6a, hg6b⟩ := and_e hg5b
  obtain ⟨w0, w1, w2, w3, w4, w5, rfl⟩ : ∃ w0 w1 w2 w3 w4 w5 : Value, args = #[w0, w1, w2, w3, w4, w5] := by
    have hs : args.size = 6 := by simpa [Cond.value, given_1] using hg1a
    obtain ⟨L⟩ := args
    match L, hs with
    | [w0, w1, w2, w3, w4, w5], _ => exact ⟨w0, w1, w2, w3, w4, w5, rfl⟩
  have hw := fun d (hd : d ∈ tables_1) => atoms_spec (ws := Jvm.Cond.code x code maxLocals ret :: tables_1) hat d (List.mem_cons_of_mem _ hd)
  have hfit : Fit s := fun {y c} hc i hi => by
    obtain ⟨ha, rfl⟩ := Array.getElem?_eq_some_iff.mp hc
    have q := List.all_eq_true.mp ((Array.all_eq_true_iff_forall_mem.mp hF) _ (Array.getElem_mem ha)) i (List.mem_range.mpr hi)
    simpa [Array.getElem?_eq_getElem hi] using q
  obtain ⟨i0, ei0⟩ := is_v hg2a
  obtain rfl : w0 = (.int i0) := Option.some.inj ei0
  obtain ⟨i1, ei1⟩ := is_v hg3a
  obtain rfl : w1 = (.int i1) := Option.some.inj ei1
  obtain ⟨i2, ei2⟩ := is_v hg4a
  obtain rfl : w2 = (.int i2) := Option.some.inj ei2
  obtain ⟨i3, ei3⟩ := is_v hg5a
  obtain rfl : w3 = (.int i3) := Option.some.inj ei3
  obtain ⟨i4, ei4⟩ := is_v hg6a
  obtain rfl : w4 = (.int i4) := Option.some.inj ei4
  obtain ⟨i5, ei5⟩ := is_v hg6b
  obtain rfl : w5 = (.int i5) := Option.some.inj ei5
  obtain ⟨n, o, h1, h2, h3, _, L, rfl, ⟨rfl, N⟩, hq⟩ := own_rm_law l s _ hw tables_1 i0 i1 i2 i3 i4 i5 s.heap s.heap.size (Nat.le_refl _) p e ha hc hk s m _ below hf ((Spec.applies_iff_loose hf).mp happ).1 ⟨rfl, State.Warmed39.refl s, rfl⟩ trivial
  refine ⟨n, _, h1, h2, h3, hpost _ _ _ _ _ _ ⟨Cond.after_iff.mpr rfl, Cond.after_iff.mpr (eq_i res_at (Term.int_eval (1)) rfl), trivial⟩ ⟨hq.1, hq.2.1, (hq.2.2.sift fun y hy => Or.inr (N y hy)).mono (by decide) (by decide)⟩⟩
theorem main_1_1 : Claimed_1_1 := own_comes fun _ _ _ _ _ _ h hF => ⟨h.1, hF⟩
theorem main_1_2 : Claimed_1_2 := own_comes fun _ _ _ _ _ _ h hF => ⟨h.2.1, hF⟩
end Jvm.Pilot.@@N@@
namespace Jvm.Pilot.@@N@@
open Jvm Jvm.ClassFile Sem Op Lib Jvm.Free Jvm.Stand Jvm.Pilot.@@N@@.Jvm.D
/-! MADE BY PROGRAM (witnessworld.py) out of the Statement's table words and the real class files: 11 classes; the members and pool entries that the words name. The judged class is class 1, her method 1. -/
namespace start1
open Jvm.ClassFile
def u (s : String) : CpInfo := .utf8 (stringToUtf16 s)
/-- a pool by its gaps: so many unusable entries, then the entry; so many at the end -/
def gap : Nat → List CpInfo → List CpInfo
  | 0, r => r
  | n + 1, r => .unusable :: gap n r
def poolList (es : List (Nat × CpInfo)) (last : Nat) : List CpInfo := es.foldr (fun e r => gap e.1 (e.2 :: r)) (gap last [])
def pool (es : List (Nat × CpInfo)) (last : Nat) : Array CpInfo := ⟨poolList es last⟩
def fileOf (pool : Array CpInfo) (this : Nat) (attrs : Array Attribute := #[]) (ms : Array MethodInfo := #[]) (fl : Nat := 33) (sup : Nat := 0) (ifs : Array Nat := #[]) (fds : Array FieldInfo := #[]) : ClassFile where
  minorVersion := 0
  majorVersion := 65
  constantPool := pool
  accessFlags := fl
  thisClass := this
  superClass := sup
  interfaces := ifs
  fields := fds
  methods := ms
  attributes := attrs
def plain (name : String) (sup : Option ClassId) : Class where
  name := name
  kind := .ordinary
  loader := none
  accessFlags := 33
  super := sup
  interfaces := #[]
  cf := none
  fields := #[]
  methods := #[]
  instanceTypes := #[]
  staticTypes := #[]
  resolved := #[]
  callSites := []
  init := .initialized
  statics := none
  mirror := none

def pool0 : Array CpInfo := pool [(5, u "<init>"), (0, u "()V"), (1, .class_ 10), (1, u "java/lang/Object")] 113

def k0m0 : Method := { name := "<init>", desc := "()V", sig := { parameters := [], returnType := none }, accessFlags := 1, code := none }
/-- java/lang/Object -/
def k0 : Class := { plain "java/lang/Object" none with
  accessFlags := 33
  interfaces := #[]
  cf := some (fileOf pool0 8 #[] #[{ accessFlags := 1, nameIndex := 5, descriptorIndex := 6, attributes := #[] }] 33 0 #[] #[])
  fields := #[]
  methods := #[k0m0]
  instanceTypes := #[]
  staticTypes := #[]
  resolved := Array.replicate 124 none
  statics := none }

def pool1 : Array CpInfo := pool [(2, .class_ 4), (1, u "java/lang/Object"), (0, u "<init>"), (0, u "()V"), (0, .methodref 8 9), (0, .class_ 10), (0, .nameAndType 11 12), (0, u "com/example/likelihood/likelihood/index/Postings"), (0, u "shortLength"), (0, u "([III)I"), (0, .class_ 14), (0, u "com/example/likelihood/likelihood/index/PostingsShortLengthPinLaw"), (2, u "law"), (0, u "(IIIIII)Z")] 5

def k1m0 : Method := { name := "<init>", desc := "()V", sig := { parameters := [], returnType := none }, accessFlags := 1, code := none }
def k1c1 : Code := { maxStack := 4, maxLocals := 19, code := code, exceptionTable := #[], attributes := #[] }
def k1m1 : Method := { name := "law", desc := "(IIIIII)Z", sig := { parameters := [.int, .int, .int, .int, .int, .int], returnType := some .boolean }, accessFlags := 9, code := some k1c1 }
/-- com/example/likelihood/likelihood/index/PostingsShortLengthPinLaw -/
def k1 : Class := { plain "com/example/likelihood/likelihood/index/PostingsShortLengthPinLaw" (some 0) with
  accessFlags := 49
  interfaces := #[]
  cf := some (fileOf pool1 13 #[] #[{ accessFlags := 1, nameIndex := 5, descriptorIndex := 6, attributes := #[] }, { accessFlags := 9, nameIndex := 17, descriptorIndex := 18, attributes := #[] }] 49 2 #[] #[])
  fields := #[]
  methods := #[k1m0, k1m1]
  instanceTypes := #[]
  staticTypes := #[]
  resolved := Array.replicate 24 none
  statics := none }

def pool2 : Array CpInfo := pool [(1, .class_ 2), (0, u "java/lang/AutoCloseable"), (0, .class_ 4), (0, u "java/lang/Object")] 7

/-- java/lang/AutoCloseable -/
def k2 : Class := { plain "java/lang/AutoCloseable" (some 0) with
  accessFlags := 1537
  interfaces := #[]
  cf := some (fileOf pool2 1 #[] #[] 1537 3 #[] #[])
  fields := #[]
  methods := #[]
  instanceTypes := #[]
  staticTypes := #[]
  resolved := Array.replicate 12 none
  statics := none }

def pool3 : Array CpInfo := pool [(1, .class_ 2), (0, u "java/io/Closeable"), (0, .class_ 4), (0, u "java/lang/Object"), (0, .class_ 6), (0, u "java/lang/AutoCloseable")] 7

/-- java/io/Closeable -/
def k3 : Class := { plain "java/io/Closeable" (some 0) with
  accessFlags := 1537
  interfaces := #[2]
  cf := some (fileOf pool3 1 #[] #[] 1537 3 #[5] #[])
  fields := #[]
  methods := #[]
  instanceTypes := #[]
  staticTypes := #[]
  resolved := Array.replicate 14 none
  statics := none }

def pool4 : Array CpInfo := pool [(2, .class_ 4), (1, u "java/lang/Object"), (3, .class_ 10), (1, u "com/example/likelihood/likelihood/index/Postings"), (0, u "values"), (0, u "[I"), (2, u "size"), (0, u "I"), (8, u "frequenciesStart"), (2, u "shortLengthsStart"), (7, u "minLengthsStart"), (2, u "blockMaxFrequencies"), (2, u "documentLengths"), (2, u "pool"), (0, u "Lcom/example/likelihood/likelihood/index/ArrayPool;"), (2, u "shortLength"), (0, u "([III)I"), (30, u "EMPTY"), (0, u "Lcom/example/likelihood/likelihood/index/Postings;"), (0, .class_ 84), (0, u "java/io/Closeable"), (0, u "SCANNED_POSTINGS")] 19

def k4c0 : Code := { maxStack := 5, maxLocals := 4, code := prog_44_method_12_code, exceptionTable := #[], attributes := #[] }
def k4m0 : Method := { name := "shortLength", desc := "([III)I", sig := { parameters := [(.array .int), .int, .int], returnType := some .int }, accessFlags := 8, code := some k4c0 }
/-- com/example/likelihood/likelihood/index/Postings -/
def k4 : Class := { plain "com/example/likelihood/likelihood/index/Postings" (some 0) with
  accessFlags := 33
  interfaces := #[3]
  cf := some (fileOf pool4 8 #[] #[{ accessFlags := 8, nameIndex := 49, descriptorIndex := 50, attributes := #[] }] 33 2 #[83] #[{ accessFlags := 25, nameIndex := 81, descriptorIndex := 82, attributes := #[] }, { accessFlags := 26, nameIndex := 85, descriptorIndex := 16, attributes := #[] }, { accessFlags := 18, nameIndex := 15, descriptorIndex := 16, attributes := #[] }, { accessFlags := 18, nameIndex := 25, descriptorIndex := 16, attributes := #[] }, { accessFlags := 18, nameIndex := 28, descriptorIndex := 16, attributes := #[] }, { accessFlags := 18, nameIndex := 36, descriptorIndex := 16, attributes := #[] }, { accessFlags := 18, nameIndex := 39, descriptorIndex := 12, attributes := #[] }, { accessFlags := 18, nameIndex := 42, descriptorIndex := 12, attributes := #[] }, { accessFlags := 18, nameIndex := 45, descriptorIndex := 46, attributes := #[] }, { accessFlags := 2, nameIndex := 11, descriptorIndex := 12, attributes := #[] }])
  fields := #[{ name := "EMPTY", type := (.object "com/example/likelihood/likelihood/index/Postings"), accessFlags := 25, slot := 0, constantValue := 0 }, { name := "SCANNED_POSTINGS", type := .int, accessFlags := 26, slot := 1, constantValue := 0 }, { name := "size", type := .int, accessFlags := 18, slot := 0, constantValue := 0 }, { name := "frequenciesStart", type := .int, accessFlags := 18, slot := 1, constantValue := 0 }, { name := "shortLengthsStart", type := .int, accessFlags := 18, slot := 2, constantValue := 0 }, { name := "minLengthsStart", type := .int, accessFlags := 18, slot := 3, constantValue := 0 }, { name := "blockMaxFrequencies", type := (.array .int), accessFlags := 18, slot := 4, constantValue := 0 }, { name := "documentLengths", type := (.array .int), accessFlags := 18, slot := 5, constantValue := 0 }, { name := "pool", type := (.object "com/example/likelihood/likelihood/index/ArrayPool"), accessFlags := 18, slot := 6, constantValue := 0 }, { name := "values", type := (.array .int), accessFlags := 2, slot := 7, constantValue := 0 }]
  methods := #[k4m0]
  instanceTypes := #[.int, .int, .int, .int, (.array .int), (.array .int), (.object "com/example/likelihood/likelihood/index/ArrayPool"), (.array .int)]
  staticTypes := #[(.object "com/example/likelihood/likelihood/index/Postings"), .int]
  resolved := Array.replicate 105 none
  statics := none }

def pool5 : Array CpInfo := pool [(1, u "java/lang/Cloneable"), (0, .class_ 1), (0, u "java/lang/Object"), (0, .class_ 3)] 3

/-- java/lang/Cloneable -/
def k5 : Class := { plain "java/lang/Cloneable" (some 0) with
  accessFlags := 1537
  interfaces := #[]
  cf := some (fileOf pool5 2 #[] #[] 1537 4 #[] #[])
  fields := #[]
  methods := #[]
  instanceTypes := #[]
  staticTypes := #[]
  resolved := Array.replicate 8 none
  statics := none }

def pool6 : Array CpInfo := pool [(1, u "java/io/Serializable"), (0, .class_ 1), (0, u "java/lang/Object"), (0, .class_ 3)] 3

/-- java/io/Serializable -/
def k6 : Class := { plain "java/io/Serializable" (some 0) with
  accessFlags := 1537
  interfaces := #[]
  cf := some (fileOf pool6 2 #[] #[] 1537 4 #[] #[])
  fields := #[]
  methods := #[]
  instanceTypes := #[]
  staticTypes := #[]
  resolved := Array.replicate 8 none
  statics := none }

/-- the primitive byte -/
def k7 : Class := { plain "byte" none with kind := .primitive 'B', accessFlags := 0x411 }
/-- [B -/
def k8 : Class := { plain "[B" (some 0) with kind := .array 7 .byte, interfaces := #[5, 6], accessFlags := 1041 }

/-- the primitive int -/
def k9 : Class := { plain "int" none with kind := .primitive 'I', accessFlags := 0x411 }
/-- [I -/
def k10 : Class := { plain "[I" (some 0) with kind := .array 9 .int, interfaces := #[5, 6], accessFlags := 1041 }

def heap : Heap := #[]
def classes : Array Class := #[k0, k1, k2, k3, k4, k5, k6, k7, k8, k9, k10]
def interned : List (Array UInt16 × Addr) := []
def slotsUsed : Nat := 0
def theMethod : MethodId := ⟨1, 1⟩
def args0 : Array Value := #[.int 5, .int 5, .int 5, .int 5, .int 5, .int 5]
def aboutOver (below : List Frame) : State where
  vm := { classes := classes, interned := interned.toArray }
  heap := heap
  slotsUsed := slotsUsed
  threads := #[{ frames := .invoking theMethod args0 :: below }]
def below0 : List Frame := [.native { method := ⟨0, 0⟩, args := #[] }]
def about1 : State := aboutOver below0
def p0 : Program := .bare "" "" ""
def e0 : Env := launch0.env 0 0 0
theorem w_frames : about1.frames = Frame.invoking theMethod args0 :: below0 := rfl
set_option maxRecDepth 65536 in
theorem w_args : argsFit about1.vm theMethod args0 = true := by decide +kernel
set_option maxRecDepth 65536 in
theorem w_heap : heapFits about1 = true := by decide +kernel
set_option maxRecDepth 65536 in
theorem w_runnable : about1.curStatus? = some .runnable := by decide +kernel
set_option maxRecDepth 65536 in
theorem w_alone : about1.alone = true := by decide +kernel
set_option maxRecDepth 65536 in
theorem w_named : about1.methodNamed? x = some theMethod := by decide +kernel
set_option maxRecDepth 65536 in
theorem w_hears : about1.hears theMethod below0 = true := by decide +kernel
set_option maxRecDepth 65536 in
theorem w_ripe : about1.ripe theMethod args0 below0 = true := by decide +kernel
theorem w_running : about1.status = .running := rfl
set_option maxRecDepth 65536 in
theorem w_room : about1.hasRoom e0.platform room_1 = true :=
  launch0.hasRoom_least _ room_1 (by decide +kernel) (by decide +kernel) (by decide +kernel) (by decide +kernel) (by decide +kernel) (by decide +kernel)
theorem allAtoms_all (ts : List Jvm.Cond) (a : Array Jvm.Value) (st : Jvm.State) : (allAtoms ts).before a st = ts.all (fun c => c.before a st) := by
  induction ts with
  | nil => rfl
  | cons c t ih =>
    show (Jvm.Cond.and c (allAtoms t)).before a st = _
    rw [Jvm.Cond.before_and, ih, List.all_cons]
def words1 : List Jvm.Cond := Jvm.Cond.code x code maxLocals ret :: tables_1
/-- a 'code' word, met by the world's own term for the bytes: nothing is compared byte by byte -/
theorem code_word {y : MethodName} {bytes : ByteArray} {mx : Nat} {rt : Option FieldType} {a : Array Value} {s : State} {m : MethodId} {meth : Method} {c : Code} (h1 : s.methodNamed? y = some m) (h2 : s.vm.method? m = some meth) (h3 : meth.code = some c) (h4 : c.code = bytes)
    (h5 : (c.maxLocals == mx && c.exceptionTable.isEmpty && decide (c.maxStack ≤ mostOperands) && decide (meth.sig.returnType = rt) && !meth.locks && decide (parseMethodDescriptor y.desc = some meth.sig)) = true) : (Jvm.Cond.code y bytes mx rt).before a s = true := by
  simp only [Bool.and_eq_true, beq_iff_eq, Bool.not_eq_true', decide_eq_true_eq] at h5
  obtain ⟨⟨⟨⟨⟨g1, g2⟩, g3⟩, g4⟩, g5⟩, g6⟩ := h5
  simp [Cond.before, Cond.holds, Cond.value, h1, h2, h3, h4, g1, g2, g3, g4, g5, g6]
def isCode : Jvm.Cond → Bool
  | .code _ _ _ _ => true
  | _ => false
theorem all_split {L : List Jvm.Cond} {P : Jvm.Cond → Bool} (h1 : L.all (fun c => isCode c || P c) = true) (h2 : ∀ c ∈ L.filter isCode, P c = true) : L.all P = true := by
  refine List.all_eq_true.mpr fun c hc => ?_
  have h := List.all_eq_true.mp h1 c hc
  rcases Bool.eq_false_or_eq_true (isCode c) with hi | hi
  · exact h2 c (List.mem_filter.mpr ⟨hc, hi⟩)
  · simpa [hi] using h
set_option maxRecDepth 65536 in
theorem w_c0 : (Jvm.Cond.code x code maxLocals ret).before args0 about1 = true := code_word (m := ⟨1, 1⟩) (meth := k1m1) (c := k1c1) (by decide +kernel) rfl rfl rfl (by decide +kernel)
set_option maxRecDepth 65536 in
theorem w_c1 : (Jvm.Cond.code ({ cls := "com/example/likelihood/likelihood/index/Postings", name := "shortLength", desc := "([III)I" } : Jvm.MethodName) prog_44_method_12_code (4 : Nat) (Option.some Jvm.ClassFile.FieldType.int)).before args0 about1 = true := code_word (m := ⟨4, 0⟩) (meth := k4m0) (c := k4c0) (by decide +kernel) rfl rfl rfl (by decide +kernel)
def codes1 : List Jvm.Cond := [Jvm.Cond.code x code maxLocals ret, Jvm.Cond.code ({ cls := "com/example/likelihood/likelihood/index/Postings", name := "shortLength", desc := "([III)I" } : Jvm.MethodName) prog_44_method_12_code (4 : Nat) (Option.some Jvm.ClassFile.FieldType.int)]
set_option maxRecDepth 65536 in
theorem codes_eq : words1.filter isCode = codes1 := rfl
theorem w_codes : ∀ c ∈ words1.filter isCode, c.before args0 about1 = true := by
  rw [codes_eq]
  intro c hc
  simp only [codes1, List.mem_cons, List.not_mem_nil, or_false] at hc
  rcases hc with rfl | rfl
  · exact w_c0
  · exact w_c1
set_option maxRecDepth 65536 in
theorem w_t1 : words1.all (fun c => isCode c || c.before args0 about1) = true := by decide +kernel
theorem w_tables : (allAtoms (Jvm.Cond.code x code maxLocals ret :: tables_1)).before args0 about1 = true := by
  rw [allAtoms_all]
  show words1.all (fun c => c.before args0 about1) = true
  refine all_split ?_ w_codes
  rw [w_t1]
set_option maxRecDepth 65536 in
theorem w_case : (Jvm.Cond.and given_1 narrow_1).before args0 about1 = true := by decide +kernel
theorem w_applies : (headSpec (Jvm.Cond.code x code maxLocals ret :: tables_1) room_1).applies x e0.platform about1 = true :=
  (Spec.applies_iff w_frames).mpr ⟨w_running, w_runnable, w_alone, w_named, w_hears, w_ripe, w_room, w_tables⟩
theorem atStart : AtStart classFile x code maxLocals ret World_1 tables_1 room_1 Calls_1 rest_1 Pre_1 launch0 p0 e0 about1 theMethod args0 below0 :=
  ⟨lists_1, trivial, launch0.admits_env _ _ _, launch0.least_env, fairChoices_fair.cas, fairChoices_fair.clock, w_frames, w_args, w_heap, w_applies, trivial, trivial, w_case⟩
end start1
theorem witness_1 : WitnessClaimed_1 := ⟨start1.p0, start1.e0, start1.about1, start1.theMethod, start1.args0, start1.below0, start1.atStart⟩
end Jvm.Pilot.@@N@@
