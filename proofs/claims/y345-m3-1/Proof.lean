import JvmDerived
import JvmDerived.Pilot.@@N@@Statement
import JvmDerived.Pilot.@@N@@Code
set_option linter.unusedVariables false
set_option linter.unusedSimpArgs false
namespace Jvm.Pilot.@@N@@
open Jvm Jvm.ClassFile Sem Op Lib Jvm.Free Jvm.Stand Jvm.LawKit Jvm.RoadKit Bundle Jvm.Pilot.@@N@@.Jvm.D
theorem own_go {α β : Sort _} {A B : α → Prop} {P : α → β → Prop} (k : ∀ t, A t → B t) (h : ∃ t o, A t ∧ P t o) : ∃ t o, B t ∧ P t o := by
  obtain ⟨t, o, h1, h2⟩ := h
  exact ⟨t, o, k t h1, h2⟩
theorem own_abs {α β : Sort _} {A : α → Prop} {P : α → β → Prop} (h : ∀ P' : α → β → Prop, (∀ t o, P t o → P' t o) → ∃ t o, A t ∧ P' t o) : ∃ t o, A t ∧ P t o := h P fun _ _ q => q
theorem own_cat1 {v : Value} (h : v.isRef = true) : v.category = 1 := by rcases ref_cases h with rfl | ⟨_, rfl⟩ <;> rfl
theorem own_slot1 {v : Value} (h : v.isRef = true) : Slot.val v = .unset ∨ ∃ w, Slot.val v = .val w ∧ w.category = 1 := Or.inr ⟨v, rfl, own_cat1 h⟩
theorem own_nar {C : String} {w : Value} (h : w.isRef = true) : narrow (.object C) w = w := by rcases ref_cases h with rfl | ⟨_, rfl⟩ <;> rfl
def own_sp (cl : Cell) (i : Int32) : Int32 := if i < (256 : Int32) then (if atv cl i = (1 : Int32) then 1 else 0) else 0
def own_ex (i : Int32) : Int32 := if i = (32 : Int32) then 1 else if i = (9 : Int32) then 1 else if i = (10 : Int32) then 1 else if i = (12 : Int32) then 1 else if i = (13 : Int32) then 1 else 0
theorem own_kinds {cl : Cell} (h1 : ∀ j : Int32, ¬ j < 0 → j < 256 → (9 : Int32) ≤ j ∨ atv cl j = 0) (h9 : atv cl 9 = 1) (h10 : atv cl 10 = 1) (h11 : atv cl 11 = 0) (h12 : atv cl 12 = 1) (h13 : atv cl 13 = 1)
    (h14 : ∀ j : Int32, ¬ j < 0 → j < 256 → j < (14 : Int32) ∨ (32 : Int32) ≤ j ∨ atv cl j = 0) (h32 : atv cl 32 = 1) (h33 : atv cl 33 = 0) (h34 : atv cl 34 = 2)
    (h35 : ∀ j : Int32, ¬ j < 0 → j < 256 → j < (35 : Int32) ∨ (40 : Int32) ≤ j ∨ atv cl j = 0) (h40 : atv cl 40 = 2) (h41 : atv cl 41 = 2)
    (h42 : ∀ j : Int32, ¬ j < 0 → j < 256 → j < (42 : Int32) ∨ atv cl j = 0) (j : Int32) (h0 : ¬ j < 0) : own_sp cl j = own_ex j := by
  unfold own_sp own_ex
  by_cases c32 : j = 32
  · subst c32; rw [if_pos (by decide), h32]; rfl
  by_cases c9 : j = 9
  · subst c9; rw [if_pos (by decide), h9]; rfl
  by_cases c10 : j = 10
  · subst c10; rw [if_pos (by decide), h10]; rfl
  by_cases c12 : j = 12
  · subst c12; rw [if_pos (by decide), h12]; rfl
  by_cases c13 : j = 13
  · subst c13; rw [if_pos (by decide), h13]; rfl
  rw [if_neg c32, if_neg c9, if_neg c10, if_neg c12, if_neg c13]
  by_cases c : j < 256
  · rw [if_pos c]
    by_cases c11 : j = 11
    · subst c11; rw [h11]; rfl
    by_cases c33 : j = 33
    · subst c33; rw [h33]; rfl
    by_cases c34 : j = 34
    · subst c34; rw [h34]; rfl
    by_cases c40 : j = 40
    · subst c40; rw [h40]; rfl
    by_cases c41 : j = 41
    · subst c41; rw [h41]; rfl
    have z : atv cl j = 0 := by
      rcases h1 j h0 c with a | a
      · rcases h14 j h0 c with b | b | b
        · exfalso
          have n : ∀ k : Int32, ¬ j = k → j.toInt ≠ k.toInt := fun k q r => q (Int32.toInt_inj.mp r)
          have n9 := n _ c9; have n10 := n _ c10; have n11 := n _ c11; have n12 := n _ c12; have n13 := n _ c13
          rw [Int32.le_iff_toInt_le] at a; rw [Int32.lt_iff_toInt_lt] at b
          simp only [show (9 : Int32).toInt = 9 from rfl, show (10 : Int32).toInt = 10 from rfl, show (11 : Int32).toInt = 11 from rfl, show (12 : Int32).toInt = 12 from rfl, show (13 : Int32).toInt = 13 from rfl, show (14 : Int32).toInt = 14 from rfl] at *
          omega
        · rcases h35 j h0 c with d | d | d
          · exfalso
            have n : ∀ k : Int32, ¬ j = k → j.toInt ≠ k.toInt := fun k q r => q (Int32.toInt_inj.mp r)
            have n32 := n _ c32; have n33 := n _ c33; have n34 := n _ c34
            rw [Int32.le_iff_toInt_le] at b; rw [Int32.lt_iff_toInt_lt] at d
            simp only [show (32 : Int32).toInt = 32 from rfl, show (33 : Int32).toInt = 33 from rfl, show (34 : Int32).toInt = 34 from rfl, show (35 : Int32).toInt = 35 from rfl] at *
            omega
          · rcases h42 j h0 c with f | f
            · exfalso
              have n : ∀ k : Int32, ¬ j = k → j.toInt ≠ k.toInt := fun k q r => q (Int32.toInt_inj.mp r)
              have n40 := n _ c40; have n41 := n _ c41
              rw [Int32.le_iff_toInt_le] at d; rw [Int32.lt_iff_toInt_lt] at f
              simp only [show (40 : Int32).toInt = 40 from rfl, show (41 : Int32).toInt = 41 from rfl, show (42 : Int32).toInt = 42 from rfl] at *
              omega
            · exact f
          · exact d
        · exact b
      · exact a
    rw [z]; rfl
  · rw [if_neg c]
theorem own_nn (x m : Int32) (h : 0 ≤ m.toInt) : ¬ (x &&& m) < 0 := by
  rw [Int32.lt_iff_toInt_lt]; have := (c_and x m h).1
  show ¬ (x &&& m).toInt < 0; omega
theorem own_d_prog_54_method_9_code_0 : decode prog_54_method_9_code 0 = .ok (.iload_n 0, 1) := by decide +kernel
theorem own_d_prog_54_method_9_code_1 : decode prog_54_method_9_code 1 = .ok (.getstatic 43, 3) := by decide +kernel
theorem own_d_prog_54_method_9_code_4 : decode prog_54_method_9_code 4 = .ok (.arraylength, 1) := by decide +kernel
theorem own_d_prog_54_method_9_code_5 : decode prog_54_method_9_code 5 = .ok (.if_icmp .ge 16, 3) := by decide +kernel
theorem own_d_prog_54_method_9_code_8 : decode prog_54_method_9_code 8 = .ok (.getstatic 43, 3) := by decide +kernel
theorem own_d_prog_54_method_9_code_11 : decode prog_54_method_9_code 11 = .ok (.iload_n 0, 1) := by decide +kernel
theorem own_d_prog_54_method_9_code_12 : decode prog_54_method_9_code 12 = .ok (.baload, 1) := by decide +kernel
theorem own_d_prog_54_method_9_code_13 : decode prog_54_method_9_code 13 = .ok (.iconst 1, 1) := by decide +kernel
theorem own_d_prog_54_method_9_code_14 : decode prog_54_method_9_code 14 = .ok (.if_icmp .ne 7, 3) := by decide +kernel
theorem own_d_prog_54_method_9_code_17 : decode prog_54_method_9_code 17 = .ok (.iconst 1, 1) := by decide +kernel
theorem own_d_prog_54_method_9_code_18 : decode prog_54_method_9_code 18 = .ok (.goto 4, 3) := by decide +kernel
theorem own_d_prog_54_method_9_code_22 : decode prog_54_method_9_code 22 = .ok (.ireturn, 1) := by decide +kernel
theorem own_d_prog_54_method_9_code_21 : decode prog_54_method_9_code 21 = .ok (.iconst 0, 1) := by decide +kernel
theorem own_ef_isSpace (m : MethodId) (x0 : Int32) : entryFrame m #[(.int x0)] 1 = mkF m 0 #[.val (.int x0)] [] := by first | (simp [entryFrame, mkF, argsToLocals, Value.category]; done) | rfl
def own_Q_isSpace (Z : State) (ix : Int32) (kd : Addr) (cl : Cell) (h0 : Heap) (n0 : Nat) (v : Option Value) (h : Heap) (L : List Loc) : Prop := v = some (.int (own_sp cl ix)) ∧ Fr n0 L ∧ h = h0
theorem own_pn_com_example_fimpl_fimpl_netlist_EdifLexer : plainName "com/example/fimpl/fimpl/netlist/EdifLexer" = true := by first | (simp [plainName, overriddenIn]; done) | decide +kernel
set_option maxRecDepth 65536 in
set_option maxHeartbeats 40000000 in
theorem own_rm_isSpace (l : Launch) (Z : State) (a0 : Array Value) (hw : ∀ d ∈ tables_1, d.before a0 Z = true) (ws : List Jvm.Cond) (ix : Int32) (kd : Addr) (cl : Cell) (h0 : Heap) (n0 : Nat) (Z0 : n0 ≤ h0.size) (S0 : Sta Z h0 "com/example/fimpl/fimpl/netlist/EdifLexer" "KINDS" "[B" (.ref kd)) (TB : Tab Z h0 kd cl .byte (256 : Int32)) (hnn : ¬ ix < 0) :
    MetFree l (⟨"com/example/fimpl/fimpl/netlist/EdifLexer", "isSpace", "(I)Z"⟩ : MethodName) (head1 (Jvm.Cond.code (⟨"com/example/fimpl/fimpl/netlist/EdifLexer", "isSpace", "(I)Z"⟩ : MethodName) prog_54_method_9_code 1 (some .boolean) :: ws) ({ frames := 0, cells := 0, slots := 0, locals := 0 } : Room)) (fun a U => a = #[(.int ix)] ∧ Z.Warmed39 U.vm ∧ U.heap = h0) (fun _ _ _ _ _ => True) (fun _ U o U' => ∃ v L, o = .returned v ∧ own_Q_isSpace Z ix kd cl h0 n0 v U'.heap L ∧ FrameEnd U o U' L ({ frames := 0, cells := 0, slots := 0, locals := 0 } : Room).cells ({ frames := 0, cells := 0, slots := 0, locals := 0 } : Room).slots) := by
  refine MetFree.of_bodySF (plainFor_of_name own_pn_com_example_fimpl_fimpl_netlist_EdifLexer) hisR ?_
  intro p e s m args below meth c s₁ Bd hml0 hP hKq_
  obtain ⟨rfl, hZ, hh⟩ := hP
  have hx := Bd.exec
  have hby := Bd.bytes
  have hml : c.maxLocals = 1 := hml0
  have hown : s.vm.findClass "com/example/fimpl/fimpl/netlist/EdifLexer" = some m.cls := findClass_of_methodNamed Bd.named
  have hnm := (name_of_methodNamed Bd.named Bd.method).1
  have X0 : Stand p l e ({ frames := 0, cells := 0, slots := 0, locals := 0 } : Room) s m #[(.int ix)] below meth c s₁ [] 0 0 := Stand.of_body Bd
  have e0 : s₁.heap = h0 := by rw [← hh, Bd.state]; rfl
  have N0 := Fr.nil n0
  have pre0 : ∀ t, Steps p.tables e below (s₁.setTop (mkF m 0 #[.val (.int ix)] [])) t → Steps p.tables e below (s₁.setTop (entryFrame m #[(.int ix)] 1)) t := fun t k => castTop (own_ef_isSpace m ix) k
  refine own_go pre0 ?_
  refine own_abs ?_
  intro Pf hPf
  have k1 : ∀ t, Steps p.tables e below (s₁.setTop (mkF m 1 #[.val (.int ix)] [(.int ix)])) t → Steps p.tables e below (s₁.setTop (mkF m 0 #[.val (.int ix)] [])) t := fun t k => by
    refine XS.iloadN X0.here hx rfl (hb hby own_d_prog_54_method_9_code_0) rfl ?_
    show Steps p.tables e below (s₁.setTop (mkF m 1 #[.val (.int ix)] [(.int ix)])) _
    exact k
  refine own_go k1 ?_
  clear k1
  obtain ⟨T2, X2, e2, st2⟩ := getS2 X0 hx hZ hown (host := "") (Or.inl (hw _ (List.mem_of_getElem? (i := 9) rfl))) Via.refl e0 S0 (g := (mkF m 1 #[.val (.int ix)] [(.int ix)])) rfl (hb hby own_d_prog_54_method_9_code_1)
  refine own_go st2 ?_
  obtain ⟨Ar3, S3, N3, -⟩ := id (TB)
  have k4 : ∀ t, Steps p.tables e below (T2.setTop (mkF m 5 #[.val (.int ix)] [(.int (256 : Int32)), (.int ix)])) t → Steps p.tables e below (T2.setTop (mkF m 4 #[.val (.int ix)] [(.ref kd), (.int ix)])) t := fun t k => by
    refine X2.arraylength hx (by rw [e2]; exact Ar3.1) (State.isArrayOf_alike hZ.alike Ar3.2.1) (g := (mkF m 4 #[.val (.int ix)] [(.ref kd), (.int ix)])) rfl rfl (hb hby own_d_prog_54_method_9_code_4) _ ?_
    rw [len_of S3 N3]
    show Steps p.tables e below (T2.setTop (mkF m 5 #[.val (.int ix)] [(.int (256 : Int32)), (.int ix)])) _
    exact k
  refine own_go k4 ?_
  clear k4
  by_cases hc5_5 : ix < (256 : Int32)
  · skip
    have k6 : ∀ t, Steps p.tables e below (T2.setTop (mkF m 8 #[.val (.int ix)] [])) t → Steps p.tables e below (T2.setTop (mkF m 5 #[.val (.int ix)] [(.int (256 : Int32)), (.int ix)])) t := fun t k => by
      refine XS.icmpNo X2.here hx rfl (hb hby own_d_prog_54_method_9_code_5) rfl (tlt hc5_5).2.1 ?_
      show Steps p.tables e below (T2.setTop (mkF m 8 #[.val (.int ix)] [])) _
      exact k
    refine own_go k6 ?_
    clear k6
    obtain ⟨T7, X7, e7, st7⟩ := getS2 X2 hx hZ hown (host := "") (Or.inl (hw _ (List.mem_of_getElem? (i := 9) rfl))) Via.refl e2 S0 (g := (mkF m 8 #[.val (.int ix)] [])) rfl (hb hby own_d_prog_54_method_9_code_8)
    refine own_go st7 ?_
    have k8 : ∀ t, Steps p.tables e below (T7.setTop (mkF m 12 #[.val (.int ix)] [(.int ix), (.ref kd)])) t → Steps p.tables e below (T7.setTop (mkF m 11 #[.val (.int ix)] [(.ref kd)])) t := fun t k => by
      refine XS.iloadN X7.here hx rfl (hb hby own_d_prog_54_method_9_code_11) rfl ?_
      show Steps p.tables e below (T7.setTop (mkF m 12 #[.val (.int ix)] [(.int ix), (.ref kd)])) _
      exact k
    refine own_go k8 ?_
    clear k8
    obtain ⟨Ar9, S9, -, H9⟩ := id (TB)
    have hi9 : ¬ (ix < 0 ∨ cl.slots.size ≤ (ix).toNatClampNeg) := inb_of S9 ⟨hnn, hc5_5⟩
    have hv9 : cl.slots[(ix).toNatClampNeg]? = some (.int (atv cl ix)) := H9 _ hi9
    have k10 : ∀ t, Steps p.tables e below (T7.setTop (mkF m 14 #[.val (.int ix)] [(.int (1 : Int32)), (.int (atv cl ix))])) t → Steps p.tables e below (T7.setTop (mkF m 12 #[.val (.int ix)] [(.int ix), (.ref kd)])) t := fun t k => by
      refine X7.baloadBytes hx (j := ix) (v := (.int (atv cl ix))) (by rw [e7]; exact Ar9.1) (State.isArrayOf_alike hZ.alike Ar9.2.1) Ar9.2.2 hi9 hv9 (g := (mkF m 12 #[.val (.int ix)] [(.int ix), (.ref kd)])) rfl rfl (hb hby own_d_prog_54_method_9_code_12) _ ?_
      show Steps p.tables e below (T7.setTop (mkF m 13 #[.val (.int ix)] [(.int (atv cl ix))])) _
      refine XS.iconst X7.here hx rfl (hb hby own_d_prog_54_method_9_code_13) ?_
      show Steps p.tables e below (T7.setTop (mkF m 14 #[.val (.int ix)] [(.int (1 : Int32)), (.int (atv cl ix))])) _
      exact k
    refine own_go k10 ?_
    clear k10
    by_cases hc14_11 : (atv cl ix) = (1 : Int32)
    · skip
      have k12 : ∀ t, Steps p.tables e below (T7.setTop (mkF m 22 #[.val (.int ix)] [(.int (1 : Int32))])) t → Steps p.tables e below (T7.setTop (mkF m 14 #[.val (.int ix)] [(.int (1 : Int32)), (.int (atv cl ix))])) t := fun t k => by
        refine XS.icmpNo X7.here hx rfl (hb hby own_d_prog_54_method_9_code_14) rfl (teq hc14_11).2 ?_
        show Steps p.tables e below (T7.setTop (mkF m 17 #[.val (.int ix)] [])) _
        refine XS.iconst X7.here hx rfl (hb hby own_d_prog_54_method_9_code_17) ?_
        show Steps p.tables e below (T7.setTop (mkF m 18 #[.val (.int ix)] [(.int (1 : Int32))])) _
        refine XS.goto X7.here hx rfl (pc0 := 18) (pc' := 22) rfl (hb hby own_d_prog_54_method_9_code_18) (by decide) (by decide) ?_
        show Steps p.tables e below (T7.setTop (mkF m 22 #[.val (.int ix)] [(.int (1 : Int32))])) _
        exact k
      refine own_go k12 ?_
      clear k12
      obtain ⟨fs, hr, hrun, hended, hW, hsame⟩ := X7.leave (v := some (.int (nar .boolean (1 : Int32)))) (fun h => by rw [Bd.returns] at h; cases h)
      refine ⟨_, _, retN X7 hx (t := .boolean) Bd.returns (by simp) (hb hby own_d_prog_54_method_9_code_22) hr, hPf _ _ ⟨hrun, hended, _, _, rfl, ?_, ⟨_, rfl⟩, hW, hsame.mono (by decide) (by decide)⟩⟩
      show own_Q_isSpace Z ix kd cl h0 n0 _ T7.heap _
      rw [e7]
      exact ⟨by unfold own_sp; rw [if_pos hc5_5, if_pos hc14_11]; rfl, N0, rfl⟩
    · skip
      have k13 : ∀ t, Steps p.tables e below (T7.setTop (mkF m 22 #[.val (.int ix)] [(.int (0 : Int32))])) t → Steps p.tables e below (T7.setTop (mkF m 14 #[.val (.int ix)] [(.int (1 : Int32)), (.int (atv cl ix))])) t := fun t k => by
        refine XS.icmpYes X7.here hx rfl (pc0 := 14) (pc' := 21) rfl (hb hby own_d_prog_54_method_9_code_14) rfl (feq hc14_11).2 (by decide) (by decide) ?_
        show Steps p.tables e below (T7.setTop (mkF m 21 #[.val (.int ix)] [])) _
        refine XS.iconst X7.here hx rfl (hb hby own_d_prog_54_method_9_code_21) ?_
        show Steps p.tables e below (T7.setTop (mkF m 22 #[.val (.int ix)] [(.int (0 : Int32))])) _
        exact k
      refine own_go k13 ?_
      clear k13
      obtain ⟨fs, hr, hrun, hended, hW, hsame⟩ := X7.leave (v := some (.int (nar .boolean (0 : Int32)))) (fun h => by rw [Bd.returns] at h; cases h)
      refine ⟨_, _, retN X7 hx (t := .boolean) Bd.returns (by simp) (hb hby own_d_prog_54_method_9_code_22) hr, hPf _ _ ⟨hrun, hended, _, _, rfl, ?_, ⟨_, rfl⟩, hW, hsame.mono (by decide) (by decide)⟩⟩
      show own_Q_isSpace Z ix kd cl h0 n0 _ T7.heap _
      rw [e7]
      exact ⟨by unfold own_sp; rw [if_pos hc5_5, if_neg hc14_11]; rfl, N0, rfl⟩
  · skip
    have k14 : ∀ t, Steps p.tables e below (T2.setTop (mkF m 22 #[.val (.int ix)] [(.int (0 : Int32))])) t → Steps p.tables e below (T2.setTop (mkF m 5 #[.val (.int ix)] [(.int (256 : Int32)), (.int ix)])) t := fun t k => by
      refine XS.icmpYes X2.here hx rfl (pc0 := 5) (pc' := 21) rfl (hb hby own_d_prog_54_method_9_code_5) rfl (flt hc5_5).2.1 (by decide) (by decide) ?_
      show Steps p.tables e below (T2.setTop (mkF m 21 #[.val (.int ix)] [])) _
      refine XS.iconst X2.here hx rfl (hb hby own_d_prog_54_method_9_code_21) ?_
      show Steps p.tables e below (T2.setTop (mkF m 22 #[.val (.int ix)] [(.int (0 : Int32))])) _
      exact k
    refine own_go k14 ?_
    clear k14
    obtain ⟨fs, hr, hrun, hended, hW, hsame⟩ := X2.leave (v := some (.int (nar .boolean (0 : Int32)))) (fun h => by rw [Bd.returns] at h; cases h)
    refine ⟨_, _, retN X2 hx (t := .boolean) Bd.returns (by simp) (hb hby own_d_prog_54_method_9_code_22) hr, hPf _ _ ⟨hrun, hended, _, _, rfl, ?_, ⟨_, rfl⟩, hW, hsame.mono (by decide) (by decide)⟩⟩
    show own_Q_isSpace Z ix kd cl h0 n0 _ T2.heap _
    rw [e2]
    exact ⟨by unfold own_sp; rw [if_neg hc5_5]; rfl, N0, rfl⟩
theorem own_d_method_2_code_0 : decode method_2_code 0 = .ok (.iload_n 0, 1) := by decide +kernel
theorem own_d_method_2_code_1 : decode method_2_code 1 = .ok (.bipush 32, 2) := by decide +kernel
theorem own_d_method_2_code_3 : decode method_2_code 3 = .ok (.if_icmp .eq 27, 3) := by decide +kernel
theorem own_d_method_2_code_30 : decode method_2_code 30 = .ok (.iconst 1, 1) := by decide +kernel
theorem own_d_method_2_code_31 : decode method_2_code 31 = .ok (.goto 4, 3) := by decide +kernel
theorem own_d_method_2_code_35 : decode method_2_code 35 = .ok (.ireturn, 1) := by decide +kernel
theorem own_d_method_2_code_6 : decode method_2_code 6 = .ok (.iload_n 0, 1) := by decide +kernel
theorem own_d_method_2_code_7 : decode method_2_code 7 = .ok (.bipush 9, 2) := by decide +kernel
theorem own_d_method_2_code_9 : decode method_2_code 9 = .ok (.if_icmp .eq 21, 3) := by decide +kernel
theorem own_d_method_2_code_12 : decode method_2_code 12 = .ok (.iload_n 0, 1) := by decide +kernel
theorem own_d_method_2_code_13 : decode method_2_code 13 = .ok (.bipush 10, 2) := by decide +kernel
theorem own_d_method_2_code_15 : decode method_2_code 15 = .ok (.if_icmp .eq 15, 3) := by decide +kernel
theorem own_d_method_2_code_18 : decode method_2_code 18 = .ok (.iload_n 0, 1) := by decide +kernel
theorem own_d_method_2_code_19 : decode method_2_code 19 = .ok (.bipush 12, 2) := by decide +kernel
theorem own_d_method_2_code_21 : decode method_2_code 21 = .ok (.if_icmp .eq 9, 3) := by decide +kernel
theorem own_d_method_2_code_24 : decode method_2_code 24 = .ok (.iload_n 0, 1) := by decide +kernel
theorem own_d_method_2_code_25 : decode method_2_code 25 = .ok (.bipush 13, 2) := by decide +kernel
theorem own_d_method_2_code_27 : decode method_2_code 27 = .ok (.if_icmp .ne 7, 3) := by decide +kernel
theorem own_d_method_2_code_34 : decode method_2_code 34 = .ok (.iconst 0, 1) := by decide +kernel
theorem own_ef_expected (m : MethodId) (x0 : Int32) : entryFrame m #[(.int x0)] 1 = mkF m 0 #[.val (.int x0)] [] := by first | (simp [entryFrame, mkF, argsToLocals, Value.category]; done) | rfl
def own_Q_expected (Z : State) (ix : Int32)  (h0 : Heap) (n0 : Nat) (v : Option Value) (h : Heap) (L : List Loc) : Prop := v = some (.int (own_ex ix)) ∧ Fr n0 L ∧ h = h0
theorem own_pn_com_example_fimpl_fimpl_netlist_EdifLexerIsSpacePinLaw : plainName "com/example/fimpl/fimpl/netlist/EdifLexerIsSpacePinLaw" = true := by first | (simp [plainName, overriddenIn]; done) | decide +kernel
set_option maxRecDepth 65536 in
set_option maxHeartbeats 40000000 in
theorem own_rm_expected (l : Launch) (Z : State) (a0 : Array Value) (hw : ∀ d ∈ tables_1, d.before a0 Z = true) (ws : List Jvm.Cond) (ix : Int32)  (h0 : Heap) (n0 : Nat) (Z0 : n0 ≤ h0.size) :
    MetFree l (⟨"com/example/fimpl/fimpl/netlist/EdifLexerIsSpacePinLaw", "expected", "(I)Z"⟩ : MethodName) (head1 (Jvm.Cond.code (⟨"com/example/fimpl/fimpl/netlist/EdifLexerIsSpacePinLaw", "expected", "(I)Z"⟩ : MethodName) method_2_code 1 (some .boolean) :: ws) ({ frames := 0, cells := 0, slots := 0, locals := 0 } : Room)) (fun a U => a = #[(.int ix)] ∧ Z.Warmed39 U.vm ∧ U.heap = h0) (fun _ _ _ _ _ => True) (fun _ U o U' => ∃ v L, o = .returned v ∧ own_Q_expected Z ix h0 n0 v U'.heap L ∧ FrameEnd U o U' L ({ frames := 0, cells := 0, slots := 0, locals := 0 } : Room).cells ({ frames := 0, cells := 0, slots := 0, locals := 0 } : Room).slots) := by
  refine MetFree.of_bodySF (plainFor_of_name own_pn_com_example_fimpl_fimpl_netlist_EdifLexerIsSpacePinLaw) hisR ?_
  intro p e s m args below meth c s₁ Bd hml0 hP hKq_
  obtain ⟨rfl, hZ, hh⟩ := hP
  have hx := Bd.exec
  have hby := Bd.bytes
  have hml : c.maxLocals = 1 := hml0
  have hown : s.vm.findClass "com/example/fimpl/fimpl/netlist/EdifLexerIsSpacePinLaw" = some m.cls := findClass_of_methodNamed Bd.named
  have hnm := (name_of_methodNamed Bd.named Bd.method).1
  have X0 : Stand p l e ({ frames := 0, cells := 0, slots := 0, locals := 0 } : Room) s m #[(.int ix)] below meth c s₁ [] 0 0 := Stand.of_body Bd
  have e0 : s₁.heap = h0 := by rw [← hh, Bd.state]; rfl
  have N0 := Fr.nil n0
  have pre0 : ∀ t, Steps p.tables e below (s₁.setTop (mkF m 0 #[.val (.int ix)] [])) t → Steps p.tables e below (s₁.setTop (entryFrame m #[(.int ix)] 1)) t := fun t k => castTop (own_ef_expected m ix) k
  refine own_go pre0 ?_
  refine own_abs ?_
  intro Pf hPf
  have k1 : ∀ t, Steps p.tables e below (s₁.setTop (mkF m 3 #[.val (.int ix)] [(.int (32 : Int32)), (.int ix)])) t → Steps p.tables e below (s₁.setTop (mkF m 0 #[.val (.int ix)] [])) t := fun t k => by
    refine XS.iloadN X0.here hx rfl (hb hby own_d_method_2_code_0) rfl ?_
    show Steps p.tables e below (s₁.setTop (mkF m 1 #[.val (.int ix)] [(.int ix)])) _
    refine XS.bipush X0.here hx rfl (hb hby own_d_method_2_code_1) ?_
    show Steps p.tables e below (s₁.setTop (mkF m 3 #[.val (.int ix)] [(.int (32 : Int32)), (.int ix)])) _
    exact k
  refine own_go k1 ?_
  clear k1
  by_cases hc3_2 : ix = (32 : Int32)
  · skip
    have k3 : ∀ t, Steps p.tables e below (s₁.setTop (mkF m 35 #[.val (.int ix)] [(.int (1 : Int32))])) t → Steps p.tables e below (s₁.setTop (mkF m 3 #[.val (.int ix)] [(.int (32 : Int32)), (.int ix)])) t := fun t k => by
      refine XS.icmpYes X0.here hx rfl (pc0 := 3) (pc' := 30) rfl (hb hby own_d_method_2_code_3) rfl (teq hc3_2).1 (by decide) (by decide) ?_
      show Steps p.tables e below (s₁.setTop (mkF m 30 #[.val (.int ix)] [])) _
      refine XS.iconst X0.here hx rfl (hb hby own_d_method_2_code_30) ?_
      show Steps p.tables e below (s₁.setTop (mkF m 31 #[.val (.int ix)] [(.int (1 : Int32))])) _
      refine XS.goto X0.here hx rfl (pc0 := 31) (pc' := 35) rfl (hb hby own_d_method_2_code_31) (by decide) (by decide) ?_
      show Steps p.tables e below (s₁.setTop (mkF m 35 #[.val (.int ix)] [(.int (1 : Int32))])) _
      exact k
    refine own_go k3 ?_
    clear k3
    obtain ⟨fs, hr, hrun, hended, hW, hsame⟩ := X0.leave (v := some (.int (nar .boolean (1 : Int32)))) (fun h => by rw [Bd.returns] at h; cases h)
    refine ⟨_, _, retN X0 hx (t := .boolean) Bd.returns (by simp) (hb hby own_d_method_2_code_35) hr, hPf _ _ ⟨hrun, hended, _, _, rfl, ?_, ⟨_, rfl⟩, hW, hsame.mono (by decide) (by decide)⟩⟩
    show own_Q_expected Z ix h0 n0 _ s₁.heap _
    rw [e0]
    exact ⟨by unfold own_ex; rw [if_pos hc3_2]; rfl, N0, rfl⟩
  · skip
    have k4 : ∀ t, Steps p.tables e below (s₁.setTop (mkF m 9 #[.val (.int ix)] [(.int (9 : Int32)), (.int ix)])) t → Steps p.tables e below (s₁.setTop (mkF m 3 #[.val (.int ix)] [(.int (32 : Int32)), (.int ix)])) t := fun t k => by
      refine XS.icmpNo X0.here hx rfl (hb hby own_d_method_2_code_3) rfl (feq hc3_2).1 ?_
      show Steps p.tables e below (s₁.setTop (mkF m 6 #[.val (.int ix)] [])) _
      refine XS.iloadN X0.here hx rfl (hb hby own_d_method_2_code_6) rfl ?_
      show Steps p.tables e below (s₁.setTop (mkF m 7 #[.val (.int ix)] [(.int ix)])) _
      refine XS.bipush X0.here hx rfl (hb hby own_d_method_2_code_7) ?_
      show Steps p.tables e below (s₁.setTop (mkF m 9 #[.val (.int ix)] [(.int (9 : Int32)), (.int ix)])) _
      exact k
    refine own_go k4 ?_
    clear k4
    by_cases hc9_5 : ix = (9 : Int32)
    · skip
      have k6 : ∀ t, Steps p.tables e below (s₁.setTop (mkF m 35 #[.val (.int ix)] [(.int (1 : Int32))])) t → Steps p.tables e below (s₁.setTop (mkF m 9 #[.val (.int ix)] [(.int (9 : Int32)), (.int ix)])) t := fun t k => by
        refine XS.icmpYes X0.here hx rfl (pc0 := 9) (pc' := 30) rfl (hb hby own_d_method_2_code_9) rfl (teq hc9_5).1 (by decide) (by decide) ?_
        show Steps p.tables e below (s₁.setTop (mkF m 30 #[.val (.int ix)] [])) _
        refine XS.iconst X0.here hx rfl (hb hby own_d_method_2_code_30) ?_
        show Steps p.tables e below (s₁.setTop (mkF m 31 #[.val (.int ix)] [(.int (1 : Int32))])) _
        refine XS.goto X0.here hx rfl (pc0 := 31) (pc' := 35) rfl (hb hby own_d_method_2_code_31) (by decide) (by decide) ?_
        show Steps p.tables e below (s₁.setTop (mkF m 35 #[.val (.int ix)] [(.int (1 : Int32))])) _
        exact k
      refine own_go k6 ?_
      clear k6
      obtain ⟨fs, hr, hrun, hended, hW, hsame⟩ := X0.leave (v := some (.int (nar .boolean (1 : Int32)))) (fun h => by rw [Bd.returns] at h; cases h)
      refine ⟨_, _, retN X0 hx (t := .boolean) Bd.returns (by simp) (hb hby own_d_method_2_code_35) hr, hPf _ _ ⟨hrun, hended, _, _, rfl, ?_, ⟨_, rfl⟩, hW, hsame.mono (by decide) (by decide)⟩⟩
      show own_Q_expected Z ix h0 n0 _ s₁.heap _
      rw [e0]
      exact ⟨by unfold own_ex; rw [if_neg hc3_2, if_pos hc9_5]; rfl, N0, rfl⟩
    · skip
      have k7 : ∀ t, Steps p.tables e below (s₁.setTop (mkF m 15 #[.val (.int ix)] [(.int (10 : Int32)), (.int ix)])) t → Steps p.tables e below (s₁.setTop (mkF m 9 #[.val (.int ix)] [(.int (9 : Int32)), (.int ix)])) t := fun t k => by
        refine XS.icmpNo X0.here hx rfl (hb hby own_d_method_2_code_9) rfl (feq hc9_5).1 ?_
        show Steps p.tables e below (s₁.setTop (mkF m 12 #[.val (.int ix)] [])) _
        refine XS.iloadN X0.here hx rfl (hb hby own_d_method_2_code_12) rfl ?_
        show Steps p.tables e below (s₁.setTop (mkF m 13 #[.val (.int ix)] [(.int ix)])) _
        refine XS.bipush X0.here hx rfl (hb hby own_d_method_2_code_13) ?_
        show Steps p.tables e below (s₁.setTop (mkF m 15 #[.val (.int ix)] [(.int (10 : Int32)), (.int ix)])) _
        exact k
      refine own_go k7 ?_
      clear k7
      by_cases hc15_8 : ix = (10 : Int32)
      · skip
        have k9 : ∀ t, Steps p.tables e below (s₁.setTop (mkF m 35 #[.val (.int ix)] [(.int (1 : Int32))])) t → Steps p.tables e below (s₁.setTop (mkF m 15 #[.val (.int ix)] [(.int (10 : Int32)), (.int ix)])) t := fun t k => by
          refine XS.icmpYes X0.here hx rfl (pc0 := 15) (pc' := 30) rfl (hb hby own_d_method_2_code_15) rfl (teq hc15_8).1 (by decide) (by decide) ?_
          show Steps p.tables e below (s₁.setTop (mkF m 30 #[.val (.int ix)] [])) _
          refine XS.iconst X0.here hx rfl (hb hby own_d_method_2_code_30) ?_
          show Steps p.tables e below (s₁.setTop (mkF m 31 #[.val (.int ix)] [(.int (1 : Int32))])) _
          refine XS.goto X0.here hx rfl (pc0 := 31) (pc' := 35) rfl (hb hby own_d_method_2_code_31) (by decide) (by decide) ?_
          show Steps p.tables e below (s₁.setTop (mkF m 35 #[.val (.int ix)] [(.int (1 : Int32))])) _
          exact k
        refine own_go k9 ?_
        clear k9
        obtain ⟨fs, hr, hrun, hended, hW, hsame⟩ := X0.leave (v := some (.int (nar .boolean (1 : Int32)))) (fun h => by rw [Bd.returns] at h; cases h)
        refine ⟨_, _, retN X0 hx (t := .boolean) Bd.returns (by simp) (hb hby own_d_method_2_code_35) hr, hPf _ _ ⟨hrun, hended, _, _, rfl, ?_, ⟨_, rfl⟩, hW, hsame.mono (by decide) (by decide)⟩⟩
        show own_Q_expected Z ix h0 n0 _ s₁.heap _
        rw [e0]
        exact ⟨by unfold own_ex; rw [if_neg hc3_2, if_neg hc9_5, if_pos hc15_8]; rfl, N0, rfl⟩
      · skip
        have k10 : ∀ t, Steps p.tables e below (s₁.setTop (mkF m 21 #[.val (.int ix)] [(.int (12 : Int32)), (.int ix)])) t → Steps p.tables e below (s₁.setTop (mkF m 15 #[.val (.int ix)] [(.int (10 : Int32)), (.int ix)])) t := fun t k => by
          refine XS.icmpNo X0.here hx rfl (hb hby own_d_method_2_code_15) rfl (feq hc15_8).1 ?_
          show Steps p.tables e below (s₁.setTop (mkF m 18 #[.val (.int ix)] [])) _
          refine XS.iloadN X0.here hx rfl (hb hby own_d_method_2_code_18) rfl ?_
          show Steps p.tables e below (s₁.setTop (mkF m 19 #[.val (.int ix)] [(.int ix)])) _
          refine XS.bipush X0.here hx rfl (hb hby own_d_method_2_code_19) ?_
          show Steps p.tables e below (s₁.setTop (mkF m 21 #[.val (.int ix)] [(.int (12 : Int32)), (.int ix)])) _
          exact k
        refine own_go k10 ?_
        clear k10
        by_cases hc21_11 : ix = (12 : Int32)
        · skip
          have k12 : ∀ t, Steps p.tables e below (s₁.setTop (mkF m 35 #[.val (.int ix)] [(.int (1 : Int32))])) t → Steps p.tables e below (s₁.setTop (mkF m 21 #[.val (.int ix)] [(.int (12 : Int32)), (.int ix)])) t := fun t k => by
            refine XS.icmpYes X0.here hx rfl (pc0 := 21) (pc' := 30) rfl (hb hby own_d_method_2_code_21) rfl (teq hc21_11).1 (by decide) (by decide) ?_
            show Steps p.tables e below (s₁.setTop (mkF m 30 #[.val (.int ix)] [])) _
            refine XS.iconst X0.here hx rfl (hb hby own_d_method_2_code_30) ?_
            show Steps p.tables e below (s₁.setTop (mkF m 31 #[.val (.int ix)] [(.int (1 : Int32))])) _
            refine XS.goto X0.here hx rfl (pc0 := 31) (pc' := 35) rfl (hb hby own_d_method_2_code_31) (by decide) (by decide) ?_
            show Steps p.tables e below (s₁.setTop (mkF m 35 #[.val (.int ix)] [(.int (1 : Int32))])) _
            exact k
          refine own_go k12 ?_
          clear k12
          obtain ⟨fs, hr, hrun, hended, hW, hsame⟩ := X0.leave (v := some (.int (nar .boolean (1 : Int32)))) (fun h => by rw [Bd.returns] at h; cases h)
          refine ⟨_, _, retN X0 hx (t := .boolean) Bd.returns (by simp) (hb hby own_d_method_2_code_35) hr, hPf _ _ ⟨hrun, hended, _, _, rfl, ?_, ⟨_, rfl⟩, hW, hsame.mono (by decide) (by decide)⟩⟩
          show own_Q_expected Z ix h0 n0 _ s₁.heap _
          rw [e0]
          exact ⟨by unfold own_ex; rw [if_neg hc3_2, if_neg hc9_5, if_neg hc15_8, if_pos hc21_11]; rfl, N0, rfl⟩
        · skip
          have k13 : ∀ t, Steps p.tables e below (s₁.setTop (mkF m 27 #[.val (.int ix)] [(.int (13 : Int32)), (.int ix)])) t → Steps p.tables e below (s₁.setTop (mkF m 21 #[.val (.int ix)] [(.int (12 : Int32)), (.int ix)])) t := fun t k => by
            refine XS.icmpNo X0.here hx rfl (hb hby own_d_method_2_code_21) rfl (feq hc21_11).1 ?_
            show Steps p.tables e below (s₁.setTop (mkF m 24 #[.val (.int ix)] [])) _
            refine XS.iloadN X0.here hx rfl (hb hby own_d_method_2_code_24) rfl ?_
            show Steps p.tables e below (s₁.setTop (mkF m 25 #[.val (.int ix)] [(.int ix)])) _
            refine XS.bipush X0.here hx rfl (hb hby own_d_method_2_code_25) ?_
            show Steps p.tables e below (s₁.setTop (mkF m 27 #[.val (.int ix)] [(.int (13 : Int32)), (.int ix)])) _
            exact k
          refine own_go k13 ?_
          clear k13
          by_cases hc27_14 : ix = (13 : Int32)
          · skip
            have k15 : ∀ t, Steps p.tables e below (s₁.setTop (mkF m 35 #[.val (.int ix)] [(.int (1 : Int32))])) t → Steps p.tables e below (s₁.setTop (mkF m 27 #[.val (.int ix)] [(.int (13 : Int32)), (.int ix)])) t := fun t k => by
              refine XS.icmpNo X0.here hx rfl (hb hby own_d_method_2_code_27) rfl (teq hc27_14).2 ?_
              show Steps p.tables e below (s₁.setTop (mkF m 30 #[.val (.int ix)] [])) _
              refine XS.iconst X0.here hx rfl (hb hby own_d_method_2_code_30) ?_
              show Steps p.tables e below (s₁.setTop (mkF m 31 #[.val (.int ix)] [(.int (1 : Int32))])) _
              refine XS.goto X0.here hx rfl (pc0 := 31) (pc' := 35) rfl (hb hby own_d_method_2_code_31) (by decide) (by decide) ?_
              show Steps p.tables e below (s₁.setTop (mkF m 35 #[.val (.int ix)] [(.int (1 : Int32))])) _
              exact k
            refine own_go k15 ?_
            clear k15
            obtain ⟨fs, hr, hrun, hended, hW, hsame⟩ := X0.leave (v := some (.int (nar .boolean (1 : Int32)))) (fun h => by rw [Bd.returns] at h; cases h)
            refine ⟨_, _, retN X0 hx (t := .boolean) Bd.returns (by simp) (hb hby own_d_method_2_code_35) hr, hPf _ _ ⟨hrun, hended, _, _, rfl, ?_, ⟨_, rfl⟩, hW, hsame.mono (by decide) (by decide)⟩⟩
            show own_Q_expected Z ix h0 n0 _ s₁.heap _
            rw [e0]
            exact ⟨by unfold own_ex; rw [if_neg hc3_2, if_neg hc9_5, if_neg hc15_8, if_neg hc21_11, if_pos hc27_14]; rfl, N0, rfl⟩
          · skip
            have k16 : ∀ t, Steps p.tables e below (s₁.setTop (mkF m 35 #[.val (.int ix)] [(.int (0 : Int32))])) t → Steps p.tables e below (s₁.setTop (mkF m 27 #[.val (.int ix)] [(.int (13 : Int32)), (.int ix)])) t := fun t k => by
              refine XS.icmpYes X0.here hx rfl (pc0 := 27) (pc' := 34) rfl (hb hby own_d_method_2_code_27) rfl (feq hc27_14).2 (by decide) (by decide) ?_
              show Steps p.tables e below (s₁.setTop (mkF m 34 #[.val (.int ix)] [])) _
              refine XS.iconst X0.here hx rfl (hb hby own_d_method_2_code_34) ?_
              show Steps p.tables e below (s₁.setTop (mkF m 35 #[.val (.int ix)] [(.int (0 : Int32))])) _
              exact k
            refine own_go k16 ?_
            clear k16
            obtain ⟨fs, hr, hrun, hended, hW, hsame⟩ := X0.leave (v := some (.int (nar .boolean (0 : Int32)))) (fun h => by rw [Bd.returns] at h; cases h)
            refine ⟨_, _, retN X0 hx (t := .boolean) Bd.returns (by simp) (hb hby own_d_method_2_code_35) hr, hPf _ _ ⟨hrun, hended, _, _, rfl, ?_, ⟨_, rfl⟩, hW, hsame.mono (by decide) (by decide)⟩⟩
            show own_Q_expected Z ix h0 n0 _ s₁.heap _
            rw [e0]
            exact ⟨by unfold own_ex; rw [if_neg hc3_2, if_neg hc9_5, if_neg hc15_8, if_neg hc21_11, if_neg hc27_14]; rfl, N0, rfl⟩
theorem own_d_method_3_code_0 : decode method_3_code 0 = .ok (.iload_n 0, 1) := by decide +kernel
theorem own_d_method_3_code_1 : decode method_3_code 1 = .ok (.invokestatic 7, 3) := by decide +kernel
theorem own_pd_28I29Z : parseMethodDescriptor "(I)Z" = some ⟨[.int], some .boolean⟩ := by decide +kernel
theorem own_d_method_3_code_4 : decode method_3_code 4 = .ok (.iload_n 0, 1) := by decide +kernel
theorem own_d_method_3_code_5 : decode method_3_code 5 = .ok (.invokestatic 13, 3) := by decide +kernel
theorem own_d_method_3_code_8 : decode method_3_code 8 = .ok (.if_icmp .ne 7, 3) := by decide +kernel
theorem own_d_method_3_code_11 : decode method_3_code 11 = .ok (.iconst 1, 1) := by decide +kernel
theorem own_d_method_3_code_12 : decode method_3_code 12 = .ok (.goto 4, 3) := by decide +kernel
theorem own_d_method_3_code_16 : decode method_3_code 16 = .ok (.ireturn, 1) := by decide +kernel
theorem own_ef_agrees (m : MethodId) (x0 : Int32) : entryFrame m #[(.int x0)] 1 = mkF m 0 #[.val (.int x0)] [] := by first | (simp [entryFrame, mkF, argsToLocals, Value.category]; done) | rfl
def own_Q_agrees (Z : State) (ix : Int32) (kd : Addr) (cl : Cell) (h0 : Heap) (n0 : Nat) (v : Option Value) (h : Heap) (L : List Loc) : Prop := v = some (.int 1) ∧ Fr n0 L ∧ h = h0
set_option maxRecDepth 65536 in
set_option maxHeartbeats 40000000 in
theorem own_rm_agrees (l : Launch) (Z : State) (a0 : Array Value) (hw : ∀ d ∈ tables_1, d.before a0 Z = true) (ws : List Jvm.Cond) (ix : Int32) (kd : Addr) (cl : Cell) (h0 : Heap) (n0 : Nat) (Z0 : n0 ≤ h0.size) (S0 : Sta Z h0 "com/example/fimpl/fimpl/netlist/EdifLexer" "KINDS" "[B" (.ref kd)) (TB : Tab Z h0 kd cl .byte (256 : Int32)) (hnn : ¬ ix < 0) (hag : own_sp cl ix = own_ex ix) :
    MetFree l (⟨"com/example/fimpl/fimpl/netlist/EdifLexerIsSpacePinLaw", "agrees", "(I)Z"⟩ : MethodName) (head1 (Jvm.Cond.code (⟨"com/example/fimpl/fimpl/netlist/EdifLexerIsSpacePinLaw", "agrees", "(I)Z"⟩ : MethodName) method_3_code 1 (some .boolean) :: ws) ({ frames := 1, cells := 0, slots := 0, locals := 13 } : Room)) (fun a U => a = #[(.int ix)] ∧ Z.Warmed39 U.vm ∧ U.heap = h0) (fun _ _ _ _ _ => True) (fun _ U o U' => ∃ v L, o = .returned v ∧ own_Q_agrees Z ix kd cl h0 n0 v U'.heap L ∧ FrameEnd U o U' L ({ frames := 1, cells := 0, slots := 0, locals := 13 } : Room).cells ({ frames := 1, cells := 0, slots := 0, locals := 13 } : Room).slots) := by
  refine MetFree.of_bodySF (plainFor_of_name own_pn_com_example_fimpl_fimpl_netlist_EdifLexerIsSpacePinLaw) hisR ?_
  intro p e s m args below meth c s₁ Bd hml0 hP hKq_
  obtain ⟨rfl, hZ, hh⟩ := hP
  have hx := Bd.exec
  have hby := Bd.bytes
  have hml : c.maxLocals = 1 := hml0
  have hown : s.vm.findClass "com/example/fimpl/fimpl/netlist/EdifLexerIsSpacePinLaw" = some m.cls := findClass_of_methodNamed Bd.named
  have hnm := (name_of_methodNamed Bd.named Bd.method).1
  have X0 : Stand p l e ({ frames := 1, cells := 0, slots := 0, locals := 13 } : Room) s m #[(.int ix)] below meth c s₁ [] 0 0 := Stand.of_body Bd
  have e0 : s₁.heap = h0 := by rw [← hh, Bd.state]; rfl
  have N0 := Fr.nil n0
  have pre0 : ∀ t, Steps p.tables e below (s₁.setTop (mkF m 0 #[.val (.int ix)] [])) t → Steps p.tables e below (s₁.setTop (entryFrame m #[(.int ix)] 1)) t := fun t k => castTop (own_ef_agrees m ix) k
  refine own_go pre0 ?_
  refine own_abs ?_
  intro Pf hPf
  have k2 : ∀ t, Steps p.tables e below (s₁.setTop (mkF m 1 #[.val (.int ix)] [(.int ix)])) t → Steps p.tables e below (s₁.setTop (mkF m 0 #[.val (.int ix)] [])) t := fun t k => by
    refine XS.iloadN X0.here hx rfl (hb hby own_d_method_3_code_0) rfl ?_
    show Steps p.tables e below (s₁.setTop (mkF m 1 #[.val (.int ix)] [(.int ix)])) _
    exact k
  refine own_go k2 ?_
  clear k2
  obtain ⟨_, _, ⟨T1, L1, k1, n1⟩, -, X1, ⟨Lc1, hQ1, l1, y1, z1⟩, st1⟩ := Jvm.LawKit.callS X0 hx (y := (⟨"com/example/fimpl/fimpl/netlist/EdifLexer", "isSpace", "(I)Z"⟩ : MethodName)) hown (mvT hZ (hw _ (List.mem_of_getElem? (i := 5) rfl))) (mvT hZ (hw _ (List.mem_of_getElem? (i := 6) rfl))) (mvT hZ (hw _ (List.mem_of_getElem? (i := 7) rfl))) (mvT hZ (hw _ (List.mem_of_getElem? (i := 8) rfl))) (by decide) (backOf (W := 0) (own_rm_isSpace l Z a0 hw [] ix kd cl h0 n0 Z0 S0 TB hnn) hZ (hw _ (List.mem_of_getElem? (i := 8) rfl)) (hw _ (List.mem_of_getElem? (i := 7) rfl)) (by decide) (by decide)) (g := (mkF m 1 #[.val (.int ix)] [(.int ix)])) rfl (by rw [hml]; rfl) (argsL := [(.int ix)]) (rest := []) (lenOf own_pd_28I29Z rfl) rfl (by show 2 * 0 + _ ≤ _; exact Nat.le_of_eq rfl) (hb hby own_d_method_3_code_1) (fun _ _ => ⟨rfl, e0, (by decide : 0 + 0 ≤ _), (by decide : 0 + 0 ≤ _)⟩)
  dsimp only [Pt.U, Pt.locs, Pt.cells, Pt.slots] at X1 l1 y1 z1 st1 hQ1
  subst l1 y1 z1
  obtain ⟨rfl, N1q, eh1⟩ := hQ1
  have N1 := Fr.app N0 N1q
  refine own_go st1 ?_
  have k4 : ∀ t, Steps p.tables e below (T1.setTop (mkF m 5 #[.val (.int ix)] [(.int ix), (.int (own_sp cl ix))])) t → Steps p.tables e below (T1.setTop (mkF m 4 #[.val (.int ix)] [(.int (own_sp cl ix))])) t := fun t k => by
    refine XS.iloadN X1.here hx rfl (hb hby own_d_method_3_code_4) rfl ?_
    show Steps p.tables e below (T1.setTop (mkF m 5 #[.val (.int ix)] [(.int ix), (.int (own_sp cl ix))])) _
    exact k
  refine own_go k4 ?_
  clear k4
  obtain ⟨_, _, ⟨T3, L3, k3, n3⟩, -, X3, ⟨Lc3, hQ3, l3, y3, z3⟩, st3⟩ := Jvm.LawKit.callS X1 hx (y := (⟨"com/example/fimpl/fimpl/netlist/EdifLexerIsSpacePinLaw", "expected", "(I)Z"⟩ : MethodName)) hown (mvT hZ (hw _ (List.mem_of_getElem? (i := 11) rfl))) (mvT hZ (hw _ (List.mem_of_getElem? (i := 12) rfl))) (mvT hZ (hw _ (List.mem_of_getElem? (i := 3) rfl))) (mvT hZ (hw _ (List.mem_of_getElem? (i := 13) rfl))) (by decide) (backOf (W := 1) (own_rm_expected l Z a0 hw [] ix h0 n0 Z0 ) hZ (hw _ (List.mem_of_getElem? (i := 13) rfl)) (hw _ (List.mem_of_getElem? (i := 3) rfl)) (by decide) (by decide)) (g := (mkF m 5 #[.val (.int ix)] [(.int ix), (.int (own_sp cl ix))])) rfl (by rw [hml]; rfl) (argsL := [(.int ix)]) (rest := [(.int (own_sp cl ix))]) (lenOf own_pd_28I29Z rfl) rfl (by show 2 * 0 + _ ≤ _; exact Nat.le_of_eq rfl) (hb hby own_d_method_3_code_5) (fun _ _ => ⟨rfl, eh1, (by decide : 0 + 0 ≤ _), (by decide : 0 + 0 ≤ _)⟩)
  dsimp only [Pt.U, Pt.locs, Pt.cells, Pt.slots] at X3 l3 y3 z3 st3 hQ3
  subst l3 y3 z3
  obtain ⟨rfl, N3q, eh3⟩ := hQ3
  have N3 := Fr.app N1 N3q
  refine own_go st3 ?_
  have k5 : ∀ t, Steps p.tables e below (T3.setTop (mkF m 16 #[.val (.int ix)] [(.int (1 : Int32))])) t → Steps p.tables e below (T3.setTop (mkF m 8 #[.val (.int ix)] [(.int (own_ex ix)), (.int (own_sp cl ix))])) t := fun t k => by
    refine XS.icmpNo X3.here hx rfl (hb hby own_d_method_3_code_8) rfl (teq hag).2 ?_
    show Steps p.tables e below (T3.setTop (mkF m 11 #[.val (.int ix)] [])) _
    refine XS.iconst X3.here hx rfl (hb hby own_d_method_3_code_11) ?_
    show Steps p.tables e below (T3.setTop (mkF m 12 #[.val (.int ix)] [(.int (1 : Int32))])) _
    refine XS.goto X3.here hx rfl (pc0 := 12) (pc' := 16) rfl (hb hby own_d_method_3_code_12) (by decide) (by decide) ?_
    show Steps p.tables e below (T3.setTop (mkF m 16 #[.val (.int ix)] [(.int (1 : Int32))])) _
    exact k
  refine own_go k5 ?_
  clear k5
  obtain ⟨fs, hr, hrun, hended, hW, hsame⟩ := X3.leave (v := some (.int (nar .boolean (1 : Int32)))) (fun h => by rw [Bd.returns] at h; cases h)
  refine ⟨_, _, retN X3 hx (t := .boolean) Bd.returns (by simp) (hb hby own_d_method_3_code_16) hr, hPf _ _ ⟨hrun, hended, _, _, rfl, ?_, ⟨_, rfl⟩, hW, hsame.mono (by decide) (by decide)⟩⟩
  show own_Q_agrees Z ix kd cl h0 n0 _ T3.heap _
  rw [eh3]
  exact ⟨rfl, N3, rfl⟩
theorem own_ef_law (m : MethodId) (x0 : Int32) : entryFrame m #[(.int x0)] maxLocals = mkF m 0 #[.val (.int x0), .unset, .unset, .unset] [] := by first | (simp [entryFrame, mkF, argsToLocals, Value.category, maxLocals]; done) | rfl
def own_Q_law (Z : State) (p0 : Int32) (kd : Addr) (cl : Cell) (h0 : Heap) (n0 : Nat) (v : Option Value) (h : Heap) (L : List Loc) : Prop := v = some (.int 1) ∧ Fr n0 L
set_option maxRecDepth 65536 in
set_option maxHeartbeats 40000000 in
theorem own_rm_law (l : Launch) (Z : State) (a0 : Array Value) (hw : ∀ d ∈ tables_1, d.before a0 Z = true) (ws : List Jvm.Cond) (p0 : Int32) (kd : Addr) (cl : Cell) (h0 : Heap) (n0 : Nat) (Z0 : n0 ≤ h0.size) (S0 : Sta Z h0 "com/example/fimpl/fimpl/netlist/EdifLexer" "KINDS" "[B" (.ref kd)) (TB : Tab Z h0 kd cl .byte (256 : Int32)) (HK : ∀ j : Int32, ¬ j < 0 → own_sp cl j = own_ex j) :
    MetFree l x (head1 (Jvm.Cond.code x code maxLocals ret :: ws) room_1) (fun a U => a = #[(.int p0)] ∧ Z.Warmed39 U.vm ∧ U.heap = h0) (fun _ _ _ _ _ => True) (fun _ U o U' => ∃ v L, o = .returned v ∧ own_Q_law Z p0 kd cl h0 n0 v U'.heap L ∧ FrameEnd U o U' L room_1.cells room_1.slots) := by
  refine MetFree.of_bodySF (plainFor_of_name own_pn_com_example_fimpl_fimpl_netlist_EdifLexerIsSpacePinLaw) hisR ?_
  intro p e s m args below meth c s₁ Bd hml0 hP hKq_
  obtain ⟨rfl, hZ, hh⟩ := hP
  have hx := Bd.exec
  have hby := Bd.bytes
  have hml : c.maxLocals = 4 := hml0
  have hown : s.vm.findClass "com/example/fimpl/fimpl/netlist/EdifLexerIsSpacePinLaw" = some m.cls := findClass_of_methodNamed Bd.named
  have hnm := (name_of_methodNamed Bd.named Bd.method).1
  have X0 : Stand p l e room_1 s m #[(.int p0)] below meth c s₁ [] 0 0 := Stand.of_body Bd
  have e0 : s₁.heap = h0 := by rw [← hh, Bd.state]; rfl
  have N0 := Fr.nil n0
  have pre0 : ∀ t, Steps p.tables e below (s₁.setTop (mkF m 0 #[.val (.int p0), .unset, .unset, .unset] [])) t → Steps p.tables e below (s₁.setTop (entryFrame m #[(.int p0)] maxLocals)) t := fun t k => castTop (own_ef_law m p0) k
  refine own_go pre0 ?_
  refine own_abs ?_
  intro Pf hPf
  have k2 : ∀ t, Steps p.tables e below (s₁.setTop (mkF m 17 #[.val (.int p0), .val (.int (p0 &&& (2147483647 : Int32))), .val (.int (p0 &&& (255 : Int32))), .val (.int (p0 &&& (63 : Int32)))] [(.int (p0 &&& (2147483647 : Int32)))])) t → Steps p.tables e below (s₁.setTop (mkF m 0 #[.val (.int p0), .unset, .unset, .unset] [])) t := fun t k => by
    refine XS.iloadN X0.here hx rfl (hb hby at_0) rfl ?_
    show Steps p.tables e below (s₁.setTop (mkF m 1 #[.val (.int p0), .unset, .unset, .unset] [(.int p0)])) _
    refine X0.ldcInt hx hown (mvT hZ (hw _ (List.mem_of_getElem? (i := 0) rfl))) (g := (mkF m 1 #[.val (.int p0), .unset, .unset, .unset] [(.int p0)])) rfl (hb hby at_1) _ ?_
    show Steps p.tables e below (s₁.setTop (mkF m 3 #[.val (.int p0), .unset, .unset, .unset] [(.int (2147483647 : Int32)), (.int p0)])) _
    refine XS.iand X0.here hx rfl (hb hby at_3) rfl ?_
    show Steps p.tables e below (s₁.setTop (mkF m 4 #[.val (.int p0), .unset, .unset, .unset] [(.int (p0 &&& (2147483647 : Int32)))])) _
    refine XS.istoreN X0.here hx rfl (hb hby at_4) rfl (l' := #[.val (.int p0), .val (.int (p0 &&& (2147483647 : Int32))), .unset, .unset]) rfl ?_
    show Steps p.tables e below (s₁.setTop (mkF m 5 #[.val (.int p0), .val (.int (p0 &&& (2147483647 : Int32))), .unset, .unset] [])) _
    refine XS.iloadN X0.here hx rfl (hb hby at_5) rfl ?_
    show Steps p.tables e below (s₁.setTop (mkF m 6 #[.val (.int p0), .val (.int (p0 &&& (2147483647 : Int32))), .unset, .unset] [(.int p0)])) _
    refine XS.sipush X0.here hx rfl (hb hby at_6) ?_
    show Steps p.tables e below (s₁.setTop (mkF m 9 #[.val (.int p0), .val (.int (p0 &&& (2147483647 : Int32))), .unset, .unset] [(.int (255 : Int32)), (.int p0)])) _
    refine XS.iand X0.here hx rfl (hb hby at_9) rfl ?_
    show Steps p.tables e below (s₁.setTop (mkF m 10 #[.val (.int p0), .val (.int (p0 &&& (2147483647 : Int32))), .unset, .unset] [(.int (p0 &&& (255 : Int32)))])) _
    refine XS.istoreN X0.here hx rfl (hb hby at_10) rfl (l' := #[.val (.int p0), .val (.int (p0 &&& (2147483647 : Int32))), .val (.int (p0 &&& (255 : Int32))), .unset]) rfl ?_
    show Steps p.tables e below (s₁.setTop (mkF m 11 #[.val (.int p0), .val (.int (p0 &&& (2147483647 : Int32))), .val (.int (p0 &&& (255 : Int32))), .unset] [])) _
    refine XS.iloadN X0.here hx rfl (hb hby at_11) rfl ?_
    show Steps p.tables e below (s₁.setTop (mkF m 12 #[.val (.int p0), .val (.int (p0 &&& (2147483647 : Int32))), .val (.int (p0 &&& (255 : Int32))), .unset] [(.int p0)])) _
    refine XS.bipush X0.here hx rfl (hb hby at_12) ?_
    show Steps p.tables e below (s₁.setTop (mkF m 14 #[.val (.int p0), .val (.int (p0 &&& (2147483647 : Int32))), .val (.int (p0 &&& (255 : Int32))), .unset] [(.int (63 : Int32)), (.int p0)])) _
    refine XS.iand X0.here hx rfl (hb hby at_14) rfl ?_
    show Steps p.tables e below (s₁.setTop (mkF m 15 #[.val (.int p0), .val (.int (p0 &&& (2147483647 : Int32))), .val (.int (p0 &&& (255 : Int32))), .unset] [(.int (p0 &&& (63 : Int32)))])) _
    refine XS.istoreN X0.here hx rfl (hb hby at_15) rfl (l' := #[.val (.int p0), .val (.int (p0 &&& (2147483647 : Int32))), .val (.int (p0 &&& (255 : Int32))), .val (.int (p0 &&& (63 : Int32)))]) rfl ?_
    show Steps p.tables e below (s₁.setTop (mkF m 16 #[.val (.int p0), .val (.int (p0 &&& (2147483647 : Int32))), .val (.int (p0 &&& (255 : Int32))), .val (.int (p0 &&& (63 : Int32)))] [])) _
    refine XS.iloadN X0.here hx rfl (hb hby at_16) rfl ?_
    show Steps p.tables e below (s₁.setTop (mkF m 17 #[.val (.int p0), .val (.int (p0 &&& (2147483647 : Int32))), .val (.int (p0 &&& (255 : Int32))), .val (.int (p0 &&& (63 : Int32)))] [(.int (p0 &&& (2147483647 : Int32)))])) _
    exact k
  refine own_go k2 ?_
  clear k2
  obtain ⟨_, _, ⟨T1, L1, k1, n1⟩, -, X1, ⟨Lc1, hQ1, l1, y1, z1⟩, st1⟩ := Jvm.LawKit.callS X0 hx (y := (⟨"com/example/fimpl/fimpl/netlist/EdifLexerIsSpacePinLaw", "agrees", "(I)Z"⟩ : MethodName)) hown (mvT hZ (hw _ (List.mem_of_getElem? (i := 1) rfl))) (mvT hZ (hw _ (List.mem_of_getElem? (i := 2) rfl))) (mvT hZ (hw _ (List.mem_of_getElem? (i := 3) rfl))) (mvT hZ (hw _ (List.mem_of_getElem? (i := 4) rfl))) (by decide) (backOf (W := 0) (own_rm_agrees l Z a0 hw [] (p0 &&& (2147483647 : Int32)) kd cl h0 n0 Z0 S0 TB (own_nn _ _ (by decide)) (HK _ (own_nn _ _ (by decide)))) hZ (hw _ (List.mem_of_getElem? (i := 4) rfl)) (hw _ (List.mem_of_getElem? (i := 3) rfl)) (by decide) (by decide)) (g := (mkF m 17 #[.val (.int p0), .val (.int (p0 &&& (2147483647 : Int32))), .val (.int (p0 &&& (255 : Int32))), .val (.int (p0 &&& (63 : Int32)))] [(.int (p0 &&& (2147483647 : Int32)))])) rfl (by rw [hml]; rfl) (argsL := [(.int (p0 &&& (2147483647 : Int32)))]) (rest := []) (lenOf own_pd_28I29Z rfl) rfl (by show 2 * 0 + _ ≤ _; exact Nat.le_of_eq rfl) (hb hby at_17) (fun _ _ => ⟨rfl, e0, (by decide : 0 + 0 ≤ _), (by decide : 0 + 0 ≤ _)⟩)
  dsimp only [Pt.U, Pt.locs, Pt.cells, Pt.slots] at X1 l1 y1 z1 st1 hQ1
  subst l1 y1 z1
  obtain ⟨rfl, N1q, eh1⟩ := hQ1
  have N1 := Fr.app N0 N1q
  refine own_go st1 ?_
  have k4 : ∀ t, Steps p.tables e below (T1.setTop (mkF m 24 #[.val (.int p0), .val (.int (p0 &&& (2147483647 : Int32))), .val (.int (p0 &&& (255 : Int32))), .val (.int (p0 &&& (63 : Int32)))] [(.int (p0 &&& (255 : Int32)))])) t → Steps p.tables e below (T1.setTop (mkF m 20 #[.val (.int p0), .val (.int (p0 &&& (2147483647 : Int32))), .val (.int (p0 &&& (255 : Int32))), .val (.int (p0 &&& (63 : Int32)))] [(.int (1 : Int32))])) t := fun t k => by
    refine XS.ifNo X1.here hx rfl (hb hby at_20) rfl ((if0 _ _).trans (feq (by decide : ¬ ((1 : Int32) = (0 : Int32)))).1) ?_
    show Steps p.tables e below (T1.setTop (mkF m 23 #[.val (.int p0), .val (.int (p0 &&& (2147483647 : Int32))), .val (.int (p0 &&& (255 : Int32))), .val (.int (p0 &&& (63 : Int32)))] [])) _
    refine XS.iloadN X1.here hx rfl (hb hby at_23) rfl ?_
    show Steps p.tables e below (T1.setTop (mkF m 24 #[.val (.int p0), .val (.int (p0 &&& (2147483647 : Int32))), .val (.int (p0 &&& (255 : Int32))), .val (.int (p0 &&& (63 : Int32)))] [(.int (p0 &&& (255 : Int32)))])) _
    exact k
  refine own_go k4 ?_
  clear k4
  obtain ⟨_, _, ⟨T3, L3, k3, n3⟩, -, X3, ⟨Lc3, hQ3, l3, y3, z3⟩, st3⟩ := Jvm.LawKit.callS X1 hx (y := (⟨"com/example/fimpl/fimpl/netlist/EdifLexerIsSpacePinLaw", "agrees", "(I)Z"⟩ : MethodName)) hown (mvT hZ (hw _ (List.mem_of_getElem? (i := 1) rfl))) (mvT hZ (hw _ (List.mem_of_getElem? (i := 2) rfl))) (mvT hZ (hw _ (List.mem_of_getElem? (i := 3) rfl))) (mvT hZ (hw _ (List.mem_of_getElem? (i := 4) rfl))) (by decide) (backOf (W := 0) (own_rm_agrees l Z a0 hw [] (p0 &&& (255 : Int32)) kd cl h0 n0 Z0 S0 TB (own_nn _ _ (by decide)) (HK _ (own_nn _ _ (by decide)))) hZ (hw _ (List.mem_of_getElem? (i := 4) rfl)) (hw _ (List.mem_of_getElem? (i := 3) rfl)) (by decide) (by decide)) (g := (mkF m 24 #[.val (.int p0), .val (.int (p0 &&& (2147483647 : Int32))), .val (.int (p0 &&& (255 : Int32))), .val (.int (p0 &&& (63 : Int32)))] [(.int (p0 &&& (255 : Int32)))])) rfl (by rw [hml]; rfl) (argsL := [(.int (p0 &&& (255 : Int32)))]) (rest := []) (lenOf own_pd_28I29Z rfl) rfl (by show 2 * 0 + _ ≤ _; exact Nat.le_of_eq rfl) (hb hby at_24) (fun _ _ => ⟨rfl, eh1, (by decide : 0 + 0 ≤ _), (by decide : 0 + 0 ≤ _)⟩)
  dsimp only [Pt.U, Pt.locs, Pt.cells, Pt.slots] at X3 l3 y3 z3 st3 hQ3
  subst l3 y3 z3
  obtain ⟨rfl, N3q, eh3⟩ := hQ3
  have N3 := Fr.app N1 N3q
  refine own_go st3 ?_
  have k6 : ∀ t, Steps p.tables e below (T3.setTop (mkF m 31 #[.val (.int p0), .val (.int (p0 &&& (2147483647 : Int32))), .val (.int (p0 &&& (255 : Int32))), .val (.int (p0 &&& (63 : Int32)))] [(.int (p0 &&& (63 : Int32)))])) t → Steps p.tables e below (T3.setTop (mkF m 27 #[.val (.int p0), .val (.int (p0 &&& (2147483647 : Int32))), .val (.int (p0 &&& (255 : Int32))), .val (.int (p0 &&& (63 : Int32)))] [(.int (1 : Int32))])) t := fun t k => by
    refine XS.ifNo X3.here hx rfl (hb hby at_27) rfl ((if0 _ _).trans (feq (by decide : ¬ ((1 : Int32) = (0 : Int32)))).1) ?_
    show Steps p.tables e below (T3.setTop (mkF m 30 #[.val (.int p0), .val (.int (p0 &&& (2147483647 : Int32))), .val (.int (p0 &&& (255 : Int32))), .val (.int (p0 &&& (63 : Int32)))] [])) _
    refine XS.iloadN X3.here hx rfl (hb hby at_30) rfl ?_
    show Steps p.tables e below (T3.setTop (mkF m 31 #[.val (.int p0), .val (.int (p0 &&& (2147483647 : Int32))), .val (.int (p0 &&& (255 : Int32))), .val (.int (p0 &&& (63 : Int32)))] [(.int (p0 &&& (63 : Int32)))])) _
    exact k
  refine own_go k6 ?_
  clear k6
  obtain ⟨_, _, ⟨T5, L5, k5, n5⟩, -, X5, ⟨Lc5, hQ5, l5, y5, z5⟩, st5⟩ := Jvm.LawKit.callS X3 hx (y := (⟨"com/example/fimpl/fimpl/netlist/EdifLexerIsSpacePinLaw", "agrees", "(I)Z"⟩ : MethodName)) hown (mvT hZ (hw _ (List.mem_of_getElem? (i := 1) rfl))) (mvT hZ (hw _ (List.mem_of_getElem? (i := 2) rfl))) (mvT hZ (hw _ (List.mem_of_getElem? (i := 3) rfl))) (mvT hZ (hw _ (List.mem_of_getElem? (i := 4) rfl))) (by decide) (backOf (W := 0) (own_rm_agrees l Z a0 hw [] (p0 &&& (63 : Int32)) kd cl h0 n0 Z0 S0 TB (own_nn _ _ (by decide)) (HK _ (own_nn _ _ (by decide)))) hZ (hw _ (List.mem_of_getElem? (i := 4) rfl)) (hw _ (List.mem_of_getElem? (i := 3) rfl)) (by decide) (by decide)) (g := (mkF m 31 #[.val (.int p0), .val (.int (p0 &&& (2147483647 : Int32))), .val (.int (p0 &&& (255 : Int32))), .val (.int (p0 &&& (63 : Int32)))] [(.int (p0 &&& (63 : Int32)))])) rfl (by rw [hml]; rfl) (argsL := [(.int (p0 &&& (63 : Int32)))]) (rest := []) (lenOf own_pd_28I29Z rfl) rfl (by show 2 * 0 + _ ≤ _; exact Nat.le_of_eq rfl) (hb hby at_31) (fun _ _ => ⟨rfl, eh3, (by decide : 0 + 0 ≤ _), (by decide : 0 + 0 ≤ _)⟩)
  dsimp only [Pt.U, Pt.locs, Pt.cells, Pt.slots] at X5 l5 y5 z5 st5 hQ5
  subst l5 y5 z5
  obtain ⟨rfl, N5q, eh5⟩ := hQ5
  have N5 := Fr.app N3 N5q
  refine own_go st5 ?_
  have k7 : ∀ t, Steps p.tables e below (T5.setTop (mkF m 42 #[.val (.int p0), .val (.int (p0 &&& (2147483647 : Int32))), .val (.int (p0 &&& (255 : Int32))), .val (.int (p0 &&& (63 : Int32)))] [(.int (1 : Int32))])) t → Steps p.tables e below (T5.setTop (mkF m 34 #[.val (.int p0), .val (.int (p0 &&& (2147483647 : Int32))), .val (.int (p0 &&& (255 : Int32))), .val (.int (p0 &&& (63 : Int32)))] [(.int (1 : Int32))])) t := fun t k => by
    refine XS.ifNo X5.here hx rfl (hb hby at_34) rfl ((if0 _ _).trans (feq (by decide : ¬ ((1 : Int32) = (0 : Int32)))).1) ?_
    show Steps p.tables e below (T5.setTop (mkF m 37 #[.val (.int p0), .val (.int (p0 &&& (2147483647 : Int32))), .val (.int (p0 &&& (255 : Int32))), .val (.int (p0 &&& (63 : Int32)))] [])) _
    refine XS.iconst X5.here hx rfl (hb hby at_37) ?_
    show Steps p.tables e below (T5.setTop (mkF m 38 #[.val (.int p0), .val (.int (p0 &&& (2147483647 : Int32))), .val (.int (p0 &&& (255 : Int32))), .val (.int (p0 &&& (63 : Int32)))] [(.int (1 : Int32))])) _
    refine XS.goto X5.here hx rfl (pc0 := 38) (pc' := 42) rfl (hb hby at_38) (by decide) (by decide) ?_
    show Steps p.tables e below (T5.setTop (mkF m 42 #[.val (.int p0), .val (.int (p0 &&& (2147483647 : Int32))), .val (.int (p0 &&& (255 : Int32))), .val (.int (p0 &&& (63 : Int32)))] [(.int (1 : Int32))])) _
    exact k
  refine own_go k7 ?_
  clear k7
  obtain ⟨fs, hr, hrun, hended, hW, hsame⟩ := X5.leave (v := some (.int (nar .boolean (1 : Int32)))) (fun h => by rw [Bd.returns] at h; cases h)
  refine ⟨_, _, retN X5 hx (t := .boolean) Bd.returns (by simp) (hb hby at_42) hr, hPf _ _ ⟨hrun, hended, _, _, rfl, ?_, ⟨_, rfl⟩, hW, hsame.mono (by decide) (by decide)⟩⟩
  show own_Q_law Z p0 kd cl h0 n0 _ T5.heap _
  rw [eh5]
  exact ⟨rfl, N5⟩
theorem own_or3 {args : Array Value} {first s : State} {o : Option Outcome} {idx : List Nat} {G H X : Jvm.Cond} {P Q R : Prop} [Decidable P] [Decidable Q] [Decidable R] (h1 : G.value args first o s idx = some (decide P)) (h2 : H.value args first o s idx = some (decide Q)) (h3 : X.value args first o s idx = some (decide R)) (h : (Jvm.Cond.or G (.or H X)).value args first o s idx = some true) : P ∨ Q ∨ R := by
  have e : (Jvm.Cond.or H X).value args first o s idx = some (decide (Q ∨ R)) := by by_cases q : Q <;> by_cases r : R <;> simp [Cond.value, h2, h3, q, r]
  exact or_e2 h1 e h
set_option maxRecDepth 65536 in
set_option maxHeartbeats 40000000 in
theorem own_comes {Post : Tables → Env → Array Value → State → Outcome → State → Prop} (hpost : ∀ tb e args s v u, (limb_1_1.after args s (.returned v) u = true ∧ limb_1_2.after args s (.returned v) u = true ∧ True) → FrameEnd s (.returned v) u (Jvm.fieldLocs frame_1_writes args s ++ Jvm.arrayLocs frame_1_arrays args s ++ Jvm.staticLocs frame_1_statics s) 0 0 → Post tb e args s (.returned v) u) :
    ArmFor flags0 classFile x code maxLocals ret World_1 tables_1 room_1 Calls_1 rest_1 Pre_1 Post := by
  intro l hfl _ _ p e ha hc hk s m args below hf hA hF happ hP
  obtain ⟨hcalls, hrest, hpre⟩ := hP
  obtain ⟨-, -, -, hnamed, -, -, -, hat⟩ := (Spec.applies_iff hf).mp happ
  obtain ⟨hg, hn⟩ := and_e (Cond.before_iff.mp (show (Jvm.Cond.and given_1 narrow_1).before args s = true from hpre))
  obtain ⟨hg1a, hg1b⟩ := and_e hg
  obtain ⟨w0, rfl⟩ : ∃ w0 : Value, args = #[w0] := by
    have hs : args.size = 1 := by simpa [Cond.value, given_1] using hg1a
    obtain ⟨L⟩ := args
    match L, hs with
    | [w0], _ => exact ⟨w0, rfl⟩
  have hw := fun d (hd : d ∈ tables_1) => atoms_spec (ws := Jvm.Cond.code x code maxLocals ret :: tables_1) hat d (List.mem_cons_of_mem _ hd)
  have hfit : Fit s := fun {y c} hc i hi => by
    obtain ⟨ha, rfl⟩ := Array.getElem?_eq_some_iff.mp hc
    have q := List.all_eq_true.mp ((Array.all_eq_true_iff_forall_mem.mp hF) _ (Array.getElem_mem ha)) i (List.mem_range.mpr hi)
    simpa [Array.getElem?_eq_getElem hi] using q
  obtain ⟨i0, ei0⟩ := is_v hg1b
  obtain rfl : w0 = (.int i0) := Option.some.inj ei0
  obtain ⟨har, hr0⟩ := and_e hn
  obtain ⟨hl, hr1⟩ := and_e hr0
  obtain ⟨h1, hr2⟩ := and_e hr1
  obtain ⟨h9, hr3⟩ := and_e hr2
  obtain ⟨h10, hr4⟩ := and_e hr3
  obtain ⟨h11, hr5⟩ := and_e hr4
  obtain ⟨h12, hr6⟩ := and_e hr5
  obtain ⟨h13, hr7⟩ := and_e hr6
  obtain ⟨h14, hr8⟩ := and_e hr7
  obtain ⟨h32, hr9⟩ := and_e hr8
  obtain ⟨h33, hr10⟩ := and_e hr9
  obtain ⟨h34, hr11⟩ := and_e hr10
  obtain ⟨h35, hr12⟩ := and_e hr11
  obtain ⟨h40, hr13⟩ := and_e hr12
  obtain ⟨h41, h42⟩ := and_e hr13
  obtain ⟨kd, hkd⟩ := arr_v har
  obtain ⟨cl, A⟩ := Arr.start hkd har
  have S0 : Sta s s.heap "com/example/fimpl/fimpl/netlist/EdifLexer" "KINDS" "[B" (.ref kd) := Sta.start hkd (Or.inr ⟨hw _ (List.mem_of_getElem? (i := 7) rfl), hw _ (List.mem_of_getElem? (i := 10) rfl)⟩)
  have hlen := Cond.eq_int (Cond.before_iff.mpr hl) rfl
  have hat' : s.arrayAt? kd = some cl := Arr.fin (State.Warmed39.refl s).alike A
  have h31 := SBG.length_lt hkd hat' hlen
  have esz : cl.slots.size.toInt32 = 256 := Value.int.inj (Option.some.inj ((len_f hkd hat' h31).symm.trans hlen))
  have TB : Tab s s.heap kd cl .byte (256 : Int32) := Tab.start hfit A (by simp) h31 esz (by decide)
  have S256 : cl.slots.size = 256 := TB.2.1
  have hin : ∀ j : Int32, ¬ j < 0 → j < 256 → ¬ (j < 0 ∨ cl.slots.size ≤ j.toNatClampNeg) := fun j q1 q2 => inb_of TB.2.1 ⟨q1, q2⟩
  have el : ∀ j : Int32, ¬ j < 0 → j < 256 → (Jvm.Term.elem (Jvm.Term.static "com/example/fimpl/fimpl/netlist/EdifLexer" "KINDS" "[B") (Jvm.Term.index (0 : Nat))).eval #[.int i0] s none [j.toNatClampNeg] s = some (.int (atv cl j)) := fun j q1 q2 => by
    rw [elem_f (x := kd) (j := j) (cl := cl) (by simpa [Term.eval] using hkd) (idx_at q1) hat' q1]; exact TB.2.2.2 j (hin j q1 q2)
  have al : ∀ {c : Jvm.Cond}, (Jvm.Cond.all (Jvm.Term.static "com/example/fimpl/fimpl/netlist/EdifLexer" "KINDS" "[B") c).value #[.int i0] s none s [] = some true → ∀ j : Int32, ¬ j < 0 → j < 256 → c.value #[.int i0] s none s [j.toNatClampNeg] = some true := fun {c} h j q1 q2 =>
    Cond.all_elim hkd hat' h j.toNatClampNeg (Nat.lt_of_not_le fun y => hin j q1 q2 (Or.inr y))
  have ev : ∀ {k v : Int32}, (Jvm.Cond.eq (Jvm.Term.elem (Jvm.Term.static "com/example/fimpl/fimpl/netlist/EdifLexer" "KINDS" "[B") (Jvm.Term.int k)) (Jvm.Term.int v)).value #[.int i0] s none s [] = some true → atv cl k = v := fun {k v} h =>
    atv_of (elem_in (Cond.eq_int (Cond.before_iff.mpr h) rfl) hkd rfl A.1).2
  have HK : ∀ j : Int32, ¬ j < 0 → own_sp cl j = own_ex j := own_kinds
    (fun j q1 q2 => or_e2 (Cond.le_ints rfl (idx_at q1)) (Cond.eq_ints (el j q1 q2) rfl) (al h1 j q1 q2))
    (ev h9) (ev h10) (ev h11) (ev h12) (ev h13)
    (fun j q1 q2 => own_or3 (Cond.lt_ints (idx_at q1) rfl) (Cond.le_ints rfl (idx_at q1)) (Cond.eq_ints (el j q1 q2) rfl) (al h14 j q1 q2))
    (ev h32) (ev h33) (ev h34)
    (fun j q1 q2 => own_or3 (Cond.lt_ints (idx_at q1) rfl) (Cond.le_ints rfl (idx_at q1)) (Cond.eq_ints (el j q1 q2) rfl) (al h35 j q1 q2))
    (ev h40) (ev h41)
    (fun j q1 q2 => or_e2 (Cond.lt_ints (idx_at q1) rfl) (Cond.eq_ints (el j q1 q2) rfl) (al h42 j q1 q2))
  obtain ⟨n, o, h1, h2, h3, _, L, rfl, ⟨rfl, N⟩, hq⟩ := own_rm_law l s _ hw tables_1 i0 kd cl s.heap s.heap.size (Nat.le_refl _) S0 TB HK p e ha hc hk s m _ below hf ((Spec.applies_iff_loose hf).mp happ).1 ⟨rfl, State.Warmed39.refl s, rfl⟩ trivial
  refine ⟨n, _, h1, h2, h3, hpost _ _ _ _ _ _ ⟨Cond.after_iff.mpr rfl, Cond.after_iff.mpr (eq_i res_at (Term.int_eval (1)) rfl), trivial⟩ ⟨hq.1, hq.2.1, (hq.2.2.sift fun y hy => Or.inr (N y hy)).mono (by decide) (by decide)⟩⟩
theorem main_1_1 : Claimed_1_1 := own_comes fun _ _ _ _ _ _ h hF => ⟨h.1, hF⟩
theorem main_1_2 : Claimed_1_2 := own_comes fun _ _ _ _ _ _ h hF => ⟨h.2.1, hF⟩
end Jvm.Pilot.@@N@@
namespace Jvm.Pilot.@@N@@
open Jvm Jvm.ClassFile Sem Op Lib Jvm.Free Jvm.Stand Jvm.Pilot.@@N@@.Jvm.D
/-! MADE BY PROGRAM (witnessworld.py) out of the Statement's table words and the real class files: 9 classes; the members and pool entries that the words name. The judged class is class 1, her method 3. -/
namespace start1
open Jvm.ClassFile
def u (s : String) : CpInfo := .utf8 (stringToUtf16 s)
/-- a pool by its gaps: so many unusable entries, then the entry; so many at the end -/
def gap : Nat → List CpInfo → List CpInfo
  | 0, r => r
  | n + 1, r => .unusable :: gap n r
def poolList (es : List (Nat × CpInfo)) (last : Nat) : List CpInfo := es.foldr (fun e r => gap e.1 (e.2 :: r)) (gap last [])
def pool (es : List (Nat × CpInfo)) (last : Nat) : Array CpInfo := ⟨poolList es last⟩
def fileOf (pool : Array CpInfo) (this : Nat) (attrs : Array Attribute := #[]) (ms : Array MethodInfo := #[]) (fl : Nat := 33) (sup : Nat := 0) (ifs : Array Nat := #[]) (fds : Array FieldInfo := #[]) : ClassFile where
  minorVersion := 0
  majorVersion := 65
  constantPool := pool
  accessFlags := fl
  thisClass := this
  superClass := sup
  interfaces := ifs
  fields := fds
  methods := ms
  attributes := attrs
def plain (name : String) (sup : Option ClassId) : Class where
  name := name
  kind := .ordinary
  loader := none
  accessFlags := 33
  super := sup
  interfaces := #[]
  cf := none
  fields := #[]
  methods := #[]
  instanceTypes := #[]
  staticTypes := #[]
  resolved := #[]
  callSites := []
  init := .initialized
  statics := none
  mirror := none

def pool0 : Array CpInfo := pool [(5, u "<init>"), (0, u "()V"), (1, .class_ 10), (1, u "java/lang/Object")] 113

def k0m0 : Method := { name := "<init>", desc := "()V", sig := { parameters := [], returnType := none }, accessFlags := 1, code := none }
/-- java/lang/Object -/
def k0 : Class := { plain "java/lang/Object" none with
  accessFlags := 33
  interfaces := #[]
  cf := some (fileOf pool0 8 #[] #[{ accessFlags := 1, nameIndex := 5, descriptorIndex := 6, attributes := #[] }] 33 0 #[] #[])
  fields := #[]
  methods := #[k0m0]
  instanceTypes := #[]
  staticTypes := #[]
  resolved := Array.replicate 124 none
  statics := none }

def pool1 : Array CpInfo := pool [(2, .class_ 4), (1, u "java/lang/Object"), (0, u "<init>"), (0, u "()V"), (0, .methodref 8 9), (0, .class_ 10), (0, .nameAndType 11 12), (0, u "com/example/fimpl/fimpl/netlist/EdifLexer"), (0, u "isSpace"), (0, u "(I)Z"), (0, .methodref 14 15), (0, .class_ 16), (0, .nameAndType 17 12), (0, u "com/example/fimpl/fimpl/netlist/EdifLexerIsSpacePinLaw"), (0, u "expected"), (0, .integer 2147483647), (0, .methodref 14 20), (0, .nameAndType 21 12), (0, u "agrees"), (3, u "law")] 2

def k1m0 : Method := { name := "<init>", desc := "()V", sig := { parameters := [], returnType := none }, accessFlags := 2, code := none }
def k1c1 : Code := { maxStack := 2, maxLocals := 1, code := method_2_code, exceptionTable := #[], attributes := #[] }
def k1m1 : Method := { name := "expected", desc := "(I)Z", sig := { parameters := [.int], returnType := some .boolean }, accessFlags := 10, code := some k1c1 }
def k1c2 : Code := { maxStack := 2, maxLocals := 1, code := method_3_code, exceptionTable := #[], attributes := #[] }
def k1m2 : Method := { name := "agrees", desc := "(I)Z", sig := { parameters := [.int], returnType := some .boolean }, accessFlags := 10, code := some k1c2 }
def k1c3 : Code := { maxStack := 2, maxLocals := 4, code := code, exceptionTable := #[], attributes := #[] }
def k1m3 : Method := { name := "law", desc := "(I)Z", sig := { parameters := [.int], returnType := some .boolean }, accessFlags := 9, code := some k1c3 }
/-- com/example/fimpl/fimpl/netlist/EdifLexerIsSpacePinLaw -/
def k1 : Class := { plain "com/example/fimpl/fimpl/netlist/EdifLexerIsSpacePinLaw" (some 0) with
  accessFlags := 49
  interfaces := #[]
  cf := some (fileOf pool1 14 #[] #[{ accessFlags := 2, nameIndex := 5, descriptorIndex := 6, attributes := #[] }, { accessFlags := 10, nameIndex := 17, descriptorIndex := 12, attributes := #[] }, { accessFlags := 10, nameIndex := 21, descriptorIndex := 12, attributes := #[] }, { accessFlags := 9, nameIndex := 25, descriptorIndex := 12, attributes := #[] }] 49 2 #[] #[])
  fields := #[]
  methods := #[k1m0, k1m1, k1m2, k1m3]
  instanceTypes := #[]
  staticTypes := #[]
  resolved := Array.replicate 28 none
  statics := none }

def pool2 : Array CpInfo := pool [(2, .class_ 4), (1, u "java/lang/Object"), (3, .class_ 10), (1, u "com/example/fimpl/fimpl/netlist/EdifLexer"), (0, u "line"), (0, u "I"), (2, u "tokenLine"), (1, .class_ 19), (1, u "com/example/fimpl/fimpl/netlist/EdifLexer$Token"), (1, u "Lcom/example/fimpl/fimpl/netlist/EdifLexer$Token;"), (2, u "token"), (0, .class_ 26), (0, u "com/example/fimpl/fimpl/netlist/EdifLexer$Words"), (3, u "words"), (0, u "Lcom/example/fimpl/fimpl/netlist/EdifLexer$Words;"), (2, u "input"), (0, u "[B"), (2, u "file"), (0, u "Ljava/lang/String;"), (2, u "position"), (0, .fieldref 8 44), (0, .nameAndType 45 35), (0, u "KINDS"), (2, u "percent"), (0, u "Z"), (2, u "lookedUp"), (2, u "start"), (2, u "end"), (17, u "WORD"), (9, u "word"), (69, u "MAX_TOKEN_BYTES"), (1, u "MAX_DESCRIBED_CHARACTERS"), (1, u "B"), (1, u "SPACE"), (1, u "DELIMITER"), (11, u "isSpace"), (0, u "(I)Z")] 25

def k2c0 : Code := { maxStack := 2, maxLocals := 1, code := prog_54_method_9_code, exceptionTable := #[], attributes := #[] }
def k2m0 : Method := { name := "isSpace", desc := "(I)Z", sig := { parameters := [.int], returnType := some .boolean }, accessFlags := 8, code := some k2c0 }
/-- com/example/fimpl/fimpl/netlist/EdifLexer -/
def k2 : Class := { plain "com/example/fimpl/fimpl/netlist/EdifLexer" (some 0) with
  accessFlags := 32
  interfaces := #[]
  cf := some (fileOf pool2 8 #[.nestMembers #[25, 17]] #[{ accessFlags := 8, nameIndex := 176, descriptorIndex := 177, attributes := #[] }] 32 2 #[] #[{ accessFlags := 24, nameIndex := 156, descriptorIndex := 12, attributes := #[] }, { accessFlags := 26, nameIndex := 158, descriptorIndex := 12, attributes := #[] }, { accessFlags := 26, nameIndex := 45, descriptorIndex := 35, attributes := #[] }, { accessFlags := 26, nameIndex := 76, descriptorIndex := 160, attributes := #[] }, { accessFlags := 26, nameIndex := 162, descriptorIndex := 160, attributes := #[] }, { accessFlags := 26, nameIndex := 164, descriptorIndex := 160, attributes := #[] }, { accessFlags := 18, nameIndex := 34, descriptorIndex := 35, attributes := #[] }, { accessFlags := 18, nameIndex := 38, descriptorIndex := 39, attributes := #[] }, { accessFlags := 2, nameIndex := 42, descriptorIndex := 12, attributes := #[] }, { accessFlags := 2, nameIndex := 11, descriptorIndex := 12, attributes := #[] }, { accessFlags := 2, nameIndex := 15, descriptorIndex := 12, attributes := #[] }, { accessFlags := 2, nameIndex := 24, descriptorIndex := 21, attributes := #[] }, { accessFlags := 2, nameIndex := 55, descriptorIndex := 12, attributes := #[] }, { accessFlags := 2, nameIndex := 58, descriptorIndex := 12, attributes := #[] }, { accessFlags := 2, nameIndex := 48, descriptorIndex := 49, attributes := #[] }, { accessFlags := 18, nameIndex := 30, descriptorIndex := 31, attributes := #[] }, { accessFlags := 2, nameIndex := 86, descriptorIndex := 12, attributes := #[] }, { accessFlags := 2, nameIndex := 52, descriptorIndex := 49, attributes := #[] }])
  fields := #[{ name := "MAX_TOKEN_BYTES", type := .int, accessFlags := 24, slot := 0, constantValue := 0 }, { name := "MAX_DESCRIBED_CHARACTERS", type := .int, accessFlags := 26, slot := 1, constantValue := 0 }, { name := "KINDS", type := (.array .byte), accessFlags := 26, slot := 2, constantValue := 0 }, { name := "WORD", type := .byte, accessFlags := 26, slot := 3, constantValue := 0 }, { name := "SPACE", type := .byte, accessFlags := 26, slot := 4, constantValue := 0 }, { name := "DELIMITER", type := .byte, accessFlags := 26, slot := 5, constantValue := 0 }, { name := "input", type := (.array .byte), accessFlags := 18, slot := 0, constantValue := 0 }, { name := "file", type := (.object "java/lang/String"), accessFlags := 18, slot := 1, constantValue := 0 }, { name := "position", type := .int, accessFlags := 2, slot := 2, constantValue := 0 }, { name := "line", type := .int, accessFlags := 2, slot := 3, constantValue := 0 }, { name := "tokenLine", type := .int, accessFlags := 2, slot := 4, constantValue := 0 }, { name := "token", type := (.object "com/example/fimpl/fimpl/netlist/EdifLexer$Token"), accessFlags := 2, slot := 5, constantValue := 0 }, { name := "start", type := .int, accessFlags := 2, slot := 6, constantValue := 0 }, { name := "end", type := .int, accessFlags := 2, slot := 7, constantValue := 0 }, { name := "percent", type := .boolean, accessFlags := 2, slot := 8, constantValue := 0 }, { name := "words", type := (.object "com/example/fimpl/fimpl/netlist/EdifLexer$Words"), accessFlags := 18, slot := 9, constantValue := 0 }, { name := "word", type := .int, accessFlags := 2, slot := 10, constantValue := 0 }, { name := "lookedUp", type := .boolean, accessFlags := 2, slot := 11, constantValue := 0 }]
  methods := #[k2m0]
  instanceTypes := #[(.array .byte), (.object "java/lang/String"), .int, .int, .int, (.object "com/example/fimpl/fimpl/netlist/EdifLexer$Token"), .int, .int, .boolean, (.object "com/example/fimpl/fimpl/netlist/EdifLexer$Words"), .int, .boolean]
  staticTypes := #[.int, .int, (.array .byte), .byte, .byte, .byte]
  resolved := Array.replicate 203 none
  statics := some 0 }

def pool3 : Array CpInfo := pool [(1, u "java/lang/Cloneable"), (0, .class_ 1), (0, u "java/lang/Object"), (0, .class_ 3)] 3

/-- java/lang/Cloneable -/
def k3 : Class := { plain "java/lang/Cloneable" (some 0) with
  accessFlags := 1537
  interfaces := #[]
  cf := some (fileOf pool3 2 #[] #[] 1537 4 #[] #[])
  fields := #[]
  methods := #[]
  instanceTypes := #[]
  staticTypes := #[]
  resolved := Array.replicate 8 none
  statics := none }

def pool4 : Array CpInfo := pool [(1, u "java/io/Serializable"), (0, .class_ 1), (0, u "java/lang/Object"), (0, .class_ 3)] 3

/-- java/io/Serializable -/
def k4 : Class := { plain "java/io/Serializable" (some 0) with
  accessFlags := 1537
  interfaces := #[]
  cf := some (fileOf pool4 2 #[] #[] 1537 4 #[] #[])
  fields := #[]
  methods := #[]
  instanceTypes := #[]
  staticTypes := #[]
  resolved := Array.replicate 8 none
  statics := none }

/-- the primitive byte -/
def k5 : Class := { plain "byte" none with kind := .primitive 'B', accessFlags := 0x411 }
/-- [B -/
def k6 : Class := { plain "[B" (some 0) with kind := .array 5 .byte, interfaces := #[3, 4], accessFlags := 1041 }

/-- the primitive int -/
def k7 : Class := { plain "int" none with kind := .primitive 'I', accessFlags := 0x411 }
/-- [I -/
def k8 : Class := { plain "[I" (some 0) with kind := .array 7 .int, interfaces := #[3, 4], accessFlags := 1041 }

def heap : Heap := #[{ cls := 2, slots := #[.int 0, .int 0, .ref 1, .int 0, .int 0, .int 0], vm := .statics 2 },
  { cls := 6, slots := #[.int 0, .int 0, .int 0, .int 0, .int 0, .int 0, .int 0, .int 0, .int 0, .int 1, .int 1, .int 0, .int 1, .int 1, .int 0, .int 0, .int 0, .int 0, .int 0, .int 0, .int 0, .int 0, .int 0, .int 0, .int 0, .int 0, .int 0, .int 0, .int 0, .int 0, .int 0, .int 0, .int 1, .int 0, .int 2, .int 0, .int 0, .int 0, .int 0, .int 0, .int 2, .int 2, .int 0, .int 0, .int 0, .int 0, .int 0, .int 0, .int 0, .int 0, .int 0, .int 0, .int 0, .int 0, .int 0, .int 0, .int 0, .int 0, .int 0, .int 0, .int 0, .int 0, .int 0, .int 0, .int 0, .int 0, .int 0, .int 0, .int 0, .int 0, .int 0, .int 0, .int 0, .int 0, .int 0, .int 0, .int 0, .int 0, .int 0, .int 0, .int 0, .int 0, .int 0, .int 0, .int 0, .int 0, .int 0, .int 0, .int 0, .int 0, .int 0, .int 0, .int 0, .int 0, .int 0, .int 0, .int 0, .int 0, .int 0, .int 0, .int 0, .int 0, .int 0, .int 0, .int 0, .int 0, .int 0, .int 0, .int 0, .int 0, .int 0, .int 0, .int 0, .int 0, .int 0, .int 0, .int 0, .int 0, .int 0, .int 0, .int 0, .int 0, .int 0, .int 0, .int 0, .int 0, .int 0, .int 0, .int 0, .int 0, .int 0, .int 0, .int 0, .int 0, .int 0, .int 0, .int 0, .int 0, .int 0, .int 0, .int 0, .int 0, .int 0, .int 0, .int 0, .int 0, .int 0, .int 0, .int 0, .int 0, .int 0, .int 0, .int 0, .int 0, .int 0, .int 0, .int 0, .int 0, .int 0, .int 0, .int 0, .int 0, .int 0, .int 0, .int 0, .int 0, .int 0, .int 0, .int 0, .int 0, .int 0, .int 0, .int 0, .int 0, .int 0, .int 0, .int 0, .int 0, .int 0, .int 0, .int 0, .int 0, .int 0, .int 0, .int 0, .int 0, .int 0, .int 0, .int 0, .int 0, .int 0, .int 0, .int 0, .int 0, .int 0, .int 0, .int 0, .int 0, .int 0, .int 0, .int 0, .int 0, .int 0, .int 0, .int 0, .int 0, .int 0, .int 0, .int 0, .int 0, .int 0, .int 0, .int 0, .int 0, .int 0, .int 0, .int 0, .int 0, .int 0, .int 0, .int 0, .int 0, .int 0, .int 0, .int 0, .int 0, .int 0, .int 0, .int 0, .int 0, .int 0, .int 0, .int 0, .int 0, .int 0, .int 0, .int 0, .int 0, .int 0, .int 0, .int 0, .int 0, .int 0, .int 0, .int 0, .int 0, .int 0, .int 0, .int 0, .int 0, .int 0, .int 0, .int 0, .int 0, .int 0, .int 0], vm := .none }]
def classes : Array Class := #[k0, k1, k2, k3, k4, k5, k6, k7, k8]
def interned : List (Array UInt16 × Addr) := []
def slotsUsed : Nat := 262
def theMethod : MethodId := ⟨1, 3⟩
def args0 : Array Value := #[.int 5]
def aboutOver (below : List Frame) : State where
  vm := { classes := classes, interned := interned.toArray }
  heap := heap
  slotsUsed := slotsUsed
  threads := #[{ frames := .invoking theMethod args0 :: below }]
def below0 : List Frame := [.native { method := ⟨0, 0⟩, args := #[] }]
def about1 : State := aboutOver below0
def p0 : Program := .bare "" "" ""
def e0 : Env := launch0.env 0 0 0
theorem w_frames : about1.frames = Frame.invoking theMethod args0 :: below0 := rfl
set_option maxRecDepth 65536 in
theorem w_args : argsFit about1.vm theMethod args0 = true := by decide +kernel
set_option maxRecDepth 65536 in
theorem w_heap : heapFits about1 = true := by decide +kernel
set_option maxRecDepth 65536 in
theorem w_runnable : about1.curStatus? = some .runnable := by decide +kernel
set_option maxRecDepth 65536 in
theorem w_alone : about1.alone = true := by decide +kernel
set_option maxRecDepth 65536 in
theorem w_named : about1.methodNamed? x = some theMethod := by decide +kernel
set_option maxRecDepth 65536 in
theorem w_hears : about1.hears theMethod below0 = true := by decide +kernel
set_option maxRecDepth 65536 in
theorem w_ripe : about1.ripe theMethod args0 below0 = true := by decide +kernel
theorem w_running : about1.status = .running := rfl
set_option maxRecDepth 65536 in
theorem w_room : about1.hasRoom e0.platform room_1 = true :=
  launch0.hasRoom_least _ room_1 (by decide +kernel) (by decide +kernel) (by decide +kernel) (by decide +kernel) (by decide +kernel) (by decide +kernel)
theorem allAtoms_all (ts : List Jvm.Cond) (a : Array Jvm.Value) (st : Jvm.State) : (allAtoms ts).before a st = ts.all (fun c => c.before a st) := by
  induction ts with
  | nil => rfl
  | cons c t ih =>
    show (Jvm.Cond.and c (allAtoms t)).before a st = _
    rw [Jvm.Cond.before_and, ih, List.all_cons]
def words1 : List Jvm.Cond := Jvm.Cond.code x code maxLocals ret :: tables_1
/-- a 'code' word, met by the world's own term for the bytes: nothing is compared byte by byte -/
theorem code_word {y : MethodName} {bytes : ByteArray} {mx : Nat} {rt : Option FieldType} {a : Array Value} {s : State} {m : MethodId} {meth : Method} {c : Code} (h1 : s.methodNamed? y = some m) (h2 : s.vm.method? m = some meth) (h3 : meth.code = some c) (h4 : c.code = bytes)
    (h5 : (c.maxLocals == mx && c.exceptionTable.isEmpty && decide (c.maxStack ≤ mostOperands) && decide (meth.sig.returnType = rt) && !meth.locks && decide (parseMethodDescriptor y.desc = some meth.sig)) = true) : (Jvm.Cond.code y bytes mx rt).before a s = true := by
  simp only [Bool.and_eq_true, beq_iff_eq, Bool.not_eq_true', decide_eq_true_eq] at h5
  obtain ⟨⟨⟨⟨⟨g1, g2⟩, g3⟩, g4⟩, g5⟩, g6⟩ := h5
  simp [Cond.before, Cond.holds, Cond.value, h1, h2, h3, h4, g1, g2, g3, g4, g5, g6]
def isCode : Jvm.Cond → Bool
  | .code _ _ _ _ => true
  | _ => false
theorem all_split {L : List Jvm.Cond} {P : Jvm.Cond → Bool} (h1 : L.all (fun c => isCode c || P c) = true) (h2 : ∀ c ∈ L.filter isCode, P c = true) : L.all P = true := by
  refine List.all_eq_true.mpr fun c hc => ?_
  have h := List.all_eq_true.mp h1 c hc
  rcases Bool.eq_false_or_eq_true (isCode c) with hi | hi
  · exact h2 c (List.mem_filter.mpr ⟨hc, hi⟩)
  · simpa [hi] using h
set_option maxRecDepth 65536 in
theorem w_c0 : (Jvm.Cond.code x code maxLocals ret).before args0 about1 = true := code_word (m := ⟨1, 3⟩) (meth := k1m3) (c := k1c3) (by decide +kernel) rfl rfl rfl (by decide +kernel)
set_option maxRecDepth 65536 in
theorem w_c1 : (Jvm.Cond.code ({ cls := "com/example/fimpl/fimpl/netlist/EdifLexerIsSpacePinLaw", name := "agrees", desc := "(I)Z" } : Jvm.MethodName) method_3_code (1 : Nat) (Option.some Jvm.ClassFile.FieldType.boolean)).before args0 about1 = true := code_word (m := ⟨1, 2⟩) (meth := k1m2) (c := k1c2) (by decide +kernel) rfl rfl rfl (by decide +kernel)
set_option maxRecDepth 65536 in
theorem w_c2 : (Jvm.Cond.code ({ cls := "com/example/fimpl/fimpl/netlist/EdifLexer", name := "isSpace", desc := "(I)Z" } : Jvm.MethodName) prog_54_method_9_code (1 : Nat) (Option.some Jvm.ClassFile.FieldType.boolean)).before args0 about1 = true := code_word (m := ⟨2, 0⟩) (meth := k2m0) (c := k2c0) (by decide +kernel) rfl rfl rfl (by decide +kernel)
set_option maxRecDepth 65536 in
theorem w_c3 : (Jvm.Cond.code ({ cls := "com/example/fimpl/fimpl/netlist/EdifLexerIsSpacePinLaw", name := "expected", desc := "(I)Z" } : Jvm.MethodName) method_2_code (1 : Nat) (Option.some Jvm.ClassFile.FieldType.boolean)).before args0 about1 = true := code_word (m := ⟨1, 1⟩) (meth := k1m1) (c := k1c1) (by decide +kernel) rfl rfl rfl (by decide +kernel)
def codes1 : List Jvm.Cond := [Jvm.Cond.code x code maxLocals ret, Jvm.Cond.code ({ cls := "com/example/fimpl/fimpl/netlist/EdifLexerIsSpacePinLaw", name := "agrees", desc := "(I)Z" } : Jvm.MethodName) method_3_code (1 : Nat) (Option.some Jvm.ClassFile.FieldType.boolean), Jvm.Cond.code ({ cls := "com/example/fimpl/fimpl/netlist/EdifLexer", name := "isSpace", desc := "(I)Z" } : Jvm.MethodName) prog_54_method_9_code (1 : Nat) (Option.some Jvm.ClassFile.FieldType.boolean), Jvm.Cond.code ({ cls := "com/example/fimpl/fimpl/netlist/EdifLexerIsSpacePinLaw", name := "expected", desc := "(I)Z" } : Jvm.MethodName) method_2_code (1 : Nat) (Option.some Jvm.ClassFile.FieldType.boolean)]
set_option maxRecDepth 65536 in
theorem codes_eq : words1.filter isCode = codes1 := rfl
theorem w_codes : ∀ c ∈ words1.filter isCode, c.before args0 about1 = true := by
  rw [codes_eq]
  intro c hc
  simp only [codes1, List.mem_cons, List.not_mem_nil, or_false] at hc
  rcases hc with rfl | rfl | rfl | rfl
  · exact w_c0
  · exact w_c1
  · exact w_c2
  · exact w_c3
set_option maxRecDepth 65536 in
theorem w_t1 : words1.all (fun c => isCode c || c.before args0 about1) = true := by decide +kernel
theorem w_tables : (allAtoms (Jvm.Cond.code x code maxLocals ret :: tables_1)).before args0 about1 = true := by
  rw [allAtoms_all]
  show words1.all (fun c => c.before args0 about1) = true
  refine all_split ?_ w_codes
  rw [w_t1]
set_option maxRecDepth 65536 in
theorem w_case : (Jvm.Cond.and given_1 narrow_1).before args0 about1 = true := by decide +kernel
theorem w_applies : (headSpec (Jvm.Cond.code x code maxLocals ret :: tables_1) room_1).applies x e0.platform about1 = true :=
  (Spec.applies_iff w_frames).mpr ⟨w_running, w_runnable, w_alone, w_named, w_hears, w_ripe, w_room, w_tables⟩
theorem atStart : AtStart classFile x code maxLocals ret World_1 tables_1 room_1 Calls_1 rest_1 Pre_1 launch0 p0 e0 about1 theMethod args0 below0 :=
  ⟨lists_1, trivial, launch0.admits_env _ _ _, launch0.least_env, fairChoices_fair.cas, fairChoices_fair.clock, w_frames, w_args, w_heap, w_applies, trivial, trivial, w_case⟩
end start1
theorem witness_1 : WitnessClaimed_1 := ⟨start1.p0, start1.e0, start1.about1, start1.theMethod, start1.args0, start1.below0, start1.atStart⟩
end Jvm.Pilot.@@N@@
