import JvmDerived
import JvmDerived.Pilot.@@N@@Statement
import JvmDerived.Pilot.@@N@@Code
set_option linter.unusedVariables false
set_option linter.unusedSimpArgs false
namespace Jvm.Pilot.@@N@@
open Jvm Jvm.ClassFile Sem Op Lib Jvm.Free Jvm.Stand Jvm.LawKit Jvm.RoadKit Bundle Jvm.Pilot.@@N@@.Jvm.D
theorem own_go {α β : Sort _} {A B : α → Prop} {P : α → β → Prop} (k : ∀ t, A t → B t) (h : ∃ t o, A t ∧ P t o) : ∃ t o, B t ∧ P t o := by
  obtain ⟨t, o, h1, h2⟩ := h
  exact ⟨t, o, k t h1, h2⟩
theorem own_abs {α β : Sort _} {A : α → Prop} {P : α → β → Prop} (h : ∀ P' : α → β → Prop, (∀ t o, P t o → P' t o) → ∃ t o, A t ∧ P' t o) : ∃ t o, A t ∧ P t o := h P fun _ _ q => q
theorem own_cat1 {v : Value} (h : v.isRef = true) : v.category = 1 := by rcases ref_cases h with rfl | ⟨_, rfl⟩ <;> rfl
theorem own_slot1 {v : Value} (h : v.isRef = true) : Slot.val v = .unset ∨ ∃ w, Slot.val v = .val w ∧ w.category = 1 := Or.inr ⟨v, rfl, own_cat1 h⟩
theorem own_nar {C : String} {w : Value} (h : w.isRef = true) : narrow (.object C) w = w := by rcases ref_cases h with rfl | ⟨_, rfl⟩ <;> rfl
def own_min (x y : Int32) : Int32 := if y < x then y else x
def own_max (x y : Int32) : Int32 := if x < y then y else x
def own_sg (lo hi : Int32) : Int32 := if (0 : Int32) < lo then 1 else if hi < (0 : Int32) then -1 else 0
theorem own_b53 (x : Int32) : B53 x.toInt64 := by
  have := c_i2l x; have r := rng32 x
  unfold B53; omega
theorem own_b0 : B53 0 := by unfold B53; decide
theorem own_cmp0 (x : Int32) (o : CmpOp) : cmpValue (FP.dcmp (FP.i2d x) FP.dconst0) o = lcmpW x.toInt64 0 := by
  have e : FP.dconst0 = FP.l2d 0 := l2d_zero.symm
  rw [e, i2d_w]; exact dcmpV_w (own_b53 x) own_b0 o
theorem own_l1 (x : Int32) : (0 : Int32) < lcmpW x.toInt64 0 ↔ (0 : Int32) < x := by
  rw [lw_gt, Int64.lt_iff_toInt_lt, Int32.lt_iff_toInt_lt, c_i2l]; exact Iff.rfl
theorem own_l2 (x : Int32) : lcmpW x.toInt64 0 < (0 : Int32) ↔ x < (0 : Int32) := by
  rw [lw_lt, Int64.lt_iff_toInt_lt, Int32.lt_iff_toInt_lt, c_i2l]; exact Iff.rfl
theorem own_s0 {lo hi : Int32} (h1 : ¬ (0 : Int32) < lo) (h2 : ¬ hi < (0 : Int32)) : own_sg lo hi = 0 := by unfold own_sg; rw [if_neg h1, if_neg h2]
theorem own_s1 {lo hi : Int32} (h1 : (0 : Int32) < lo) : own_sg lo hi = 1 := by unfold own_sg; rw [if_pos h1]
theorem own_sm {lo hi : Int32} (h1 : ¬ (0 : Int32) < lo) (h2 : hi < (0 : Int32)) : own_sg lo hi = -1 := by unfold own_sg; rw [if_neg h1, if_pos h2]
theorem own_le (a b : Int32) : (own_min a b).toInt ≤ (own_max a b).toInt := by
  unfold own_min own_max
  by_cases h : a < b <;> by_cases h' : b < a <;> simp only [h, h', if_true, if_false] <;> rw [Int32.lt_iff_toInt_lt] at h h' <;> omega
theorem own_pos {a b : Int32} (h : (0 : Int32) < own_min a b) : (0 : Int32) < own_max a b := by
  have := own_le a b; rw [Int32.lt_iff_toInt_lt] at h ⊢; omega
theorem own_neg {x : Int32} (h : x < (0 : Int32)) : ¬ (0 : Int32) < x := by rw [Int32.lt_iff_toInt_lt] at h ⊢; omega
theorem own_d_jdk_29_method_69_code_0 : decode jdk_29_method_69_code 0 = .ok (.iload_n 0, 1) := by decide +kernel
theorem own_d_jdk_29_method_69_code_1 : decode jdk_29_method_69_code 1 = .ok (.iload_n 1, 1) := by decide +kernel
theorem own_d_jdk_29_method_69_code_2 : decode jdk_29_method_69_code 2 = .ok (.if_icmp .gt 7, 3) := by decide +kernel
theorem own_d_jdk_29_method_69_code_9 : decode jdk_29_method_69_code 9 = .ok (.iload_n 1, 1) := by decide +kernel
theorem own_d_jdk_29_method_69_code_10 : decode jdk_29_method_69_code 10 = .ok (.ireturn, 1) := by decide +kernel
theorem own_d_jdk_29_method_69_code_5 : decode jdk_29_method_69_code 5 = .ok (.iload_n 0, 1) := by decide +kernel
theorem own_d_jdk_29_method_69_code_6 : decode jdk_29_method_69_code 6 = .ok (.goto 4, 3) := by decide +kernel
theorem own_ef_min (m : MethodId) (x0 : Int32) (x1 : Int32) : entryFrame m #[(.int x0), (.int x1)] 2 = mkF m 0 #[.val (.int x0), .val (.int x1)] [] := by first | (simp [entryFrame, mkF, argsToLocals, Value.category]; done) | rfl
def own_Q_min (Z : State) (px : Int32) (py : Int32)  (h0 : Heap) (n0 : Nat) (v : Option Value) (h : Heap) (L : List Loc) : Prop := v = some (.int (own_min px py)) ∧ Fr n0 L ∧ h = h0
set_option maxRecDepth 65536 in
set_option maxHeartbeats 40000000 in
theorem own_rm_min (l : Launch) (Z : State) (a0 : Array Value) (hw : ∀ d ∈ tables_1, d.before a0 Z = true) (ws : List Jvm.Cond) (px : Int32) (py : Int32)  (h0 : Heap) (n0 : Nat) (Z0 : n0 ≤ h0.size) :
    MetFree l (⟨"java/lang/Math", "min", "(II)I"⟩ : MethodName) (head1 (Jvm.Cond.code (⟨"java/lang/Math", "min", "(II)I"⟩ : MethodName) jdk_29_method_69_code 2 (some .int) :: ws) ({ frames := 0, cells := 0, slots := 0, locals := 0 } : Room)) (fun a U => a = #[(.int px), (.int py)] ∧ Z.Warmed39 U.vm ∧ U.heap = h0) (fun _ _ _ _ _ => True) (fun _ U o U' => ∃ v L, o = .returned v ∧ own_Q_min Z px py h0 n0 v U'.heap L ∧ FrameEnd U o U' L ({ frames := 0, cells := 0, slots := 0, locals := 0 } : Room).cells ({ frames := 0, cells := 0, slots := 0, locals := 0 } : Room).slots) := by
  refine MetFree.of_bodySF (Jvm.Free.JP.mathPlain rfl (by decide +kernel)) hisR ?_
  intro p e s m args below meth c s₁ Bd hml0 hP hKq_
  obtain ⟨rfl, hZ, hh⟩ := hP
  have hx := Bd.exec
  have hby := Bd.bytes
  have hml : c.maxLocals = 2 := hml0
  have hown : s.vm.findClass "java/lang/Math" = some m.cls := findClass_of_methodNamed Bd.named
  have hnm := (name_of_methodNamed Bd.named Bd.method).1
  have X0 : Stand p l e ({ frames := 0, cells := 0, slots := 0, locals := 0 } : Room) s m #[(.int px), (.int py)] below meth c s₁ [] 0 0 := Stand.of_body Bd
  have e0 : s₁.heap = h0 := by rw [← hh, Bd.state]; rfl
  have N0 := Fr.nil n0
  have pre0 : ∀ t, Steps p.tables e below (s₁.setTop (mkF m 0 #[.val (.int px), .val (.int py)] [])) t → Steps p.tables e below (s₁.setTop (entryFrame m #[(.int px), (.int py)] 2)) t := fun t k => castTop (own_ef_min m px py) k
  refine own_go pre0 ?_
  refine own_abs ?_
  intro Pf hPf
  have k1 : ∀ t, Steps p.tables e below (s₁.setTop (mkF m 2 #[.val (.int px), .val (.int py)] [(.int py), (.int px)])) t → Steps p.tables e below (s₁.setTop (mkF m 0 #[.val (.int px), .val (.int py)] [])) t := fun t k => by
    refine XS.iloadN X0.here hx rfl (hb hby own_d_jdk_29_method_69_code_0) rfl ?_
    show Steps p.tables e below (s₁.setTop (mkF m 1 #[.val (.int px), .val (.int py)] [(.int px)])) _
    refine XS.iloadN X0.here hx rfl (hb hby own_d_jdk_29_method_69_code_1) rfl ?_
    show Steps p.tables e below (s₁.setTop (mkF m 2 #[.val (.int px), .val (.int py)] [(.int py), (.int px)])) _
    exact k
  refine own_go k1 ?_
  clear k1
  by_cases hc2_2 : py < px
  · skip
    have k3 : ∀ t, Steps p.tables e below (s₁.setTop (mkF m 10 #[.val (.int px), .val (.int py)] [(.int py)])) t → Steps p.tables e below (s₁.setTop (mkF m 2 #[.val (.int px), .val (.int py)] [(.int py), (.int px)])) t := fun t k => by
      refine XS.icmpYes X0.here hx rfl (pc0 := 2) (pc' := 9) rfl (hb hby own_d_jdk_29_method_69_code_2) rfl (tlt hc2_2).2.2.1 (by decide) (by decide) ?_
      show Steps p.tables e below (s₁.setTop (mkF m 9 #[.val (.int px), .val (.int py)] [])) _
      refine XS.iloadN X0.here hx rfl (hb hby own_d_jdk_29_method_69_code_9) rfl ?_
      show Steps p.tables e below (s₁.setTop (mkF m 10 #[.val (.int px), .val (.int py)] [(.int py)])) _
      exact k
    refine own_go k3 ?_
    clear k3
    obtain ⟨fs, hr, hrun, hended, hW, hsame⟩ := X0.leave (v := some (.int py)) (fun h => by rw [Bd.returns] at h; cases h)
    refine ⟨_, _, retOut X0 hx Bd.returns rfl (Or.inl ⟨rfl, Or.inl rfl, _, rfl⟩) (hb hby own_d_jdk_29_method_69_code_10) hr, hPf _ _ ⟨hrun, hended, _, _, rfl, ?_, ⟨_, rfl⟩, hW, hsame.mono (by decide) (by decide)⟩⟩
    show own_Q_min Z px py h0 n0 _ s₁.heap _
    rw [e0]
    exact ⟨by unfold own_min; rw [if_pos hc2_2], N0, rfl⟩
  · skip
    have k4 : ∀ t, Steps p.tables e below (s₁.setTop (mkF m 10 #[.val (.int px), .val (.int py)] [(.int px)])) t → Steps p.tables e below (s₁.setTop (mkF m 2 #[.val (.int px), .val (.int py)] [(.int py), (.int px)])) t := fun t k => by
      refine XS.icmpNo X0.here hx rfl (hb hby own_d_jdk_29_method_69_code_2) rfl (flt hc2_2).2.2.1 ?_
      show Steps p.tables e below (s₁.setTop (mkF m 5 #[.val (.int px), .val (.int py)] [])) _
      refine XS.iloadN X0.here hx rfl (hb hby own_d_jdk_29_method_69_code_5) rfl ?_
      show Steps p.tables e below (s₁.setTop (mkF m 6 #[.val (.int px), .val (.int py)] [(.int px)])) _
      refine XS.goto X0.here hx rfl (pc0 := 6) (pc' := 10) rfl (hb hby own_d_jdk_29_method_69_code_6) (by decide) (by decide) ?_
      show Steps p.tables e below (s₁.setTop (mkF m 10 #[.val (.int px), .val (.int py)] [(.int px)])) _
      exact k
    refine own_go k4 ?_
    clear k4
    obtain ⟨fs, hr, hrun, hended, hW, hsame⟩ := X0.leave (v := some (.int px)) (fun h => by rw [Bd.returns] at h; cases h)
    refine ⟨_, _, retOut X0 hx Bd.returns rfl (Or.inl ⟨rfl, Or.inl rfl, _, rfl⟩) (hb hby own_d_jdk_29_method_69_code_10) hr, hPf _ _ ⟨hrun, hended, _, _, rfl, ?_, ⟨_, rfl⟩, hW, hsame.mono (by decide) (by decide)⟩⟩
    show own_Q_min Z px py h0 n0 _ s₁.heap _
    rw [e0]
    exact ⟨by unfold own_min; rw [if_neg hc2_2], N0, rfl⟩
theorem own_d_jdk_29_method_65_code_0 : decode jdk_29_method_65_code 0 = .ok (.iload_n 0, 1) := by decide +kernel
theorem own_d_jdk_29_method_65_code_1 : decode jdk_29_method_65_code 1 = .ok (.iload_n 1, 1) := by decide +kernel
theorem own_d_jdk_29_method_65_code_2 : decode jdk_29_method_65_code 2 = .ok (.if_icmp .lt 7, 3) := by decide +kernel
theorem own_d_jdk_29_method_65_code_9 : decode jdk_29_method_65_code 9 = .ok (.iload_n 1, 1) := by decide +kernel
theorem own_d_jdk_29_method_65_code_10 : decode jdk_29_method_65_code 10 = .ok (.ireturn, 1) := by decide +kernel
theorem own_d_jdk_29_method_65_code_5 : decode jdk_29_method_65_code 5 = .ok (.iload_n 0, 1) := by decide +kernel
theorem own_d_jdk_29_method_65_code_6 : decode jdk_29_method_65_code 6 = .ok (.goto 4, 3) := by decide +kernel
theorem own_ef_max (m : MethodId) (x0 : Int32) (x1 : Int32) : entryFrame m #[(.int x0), (.int x1)] 2 = mkF m 0 #[.val (.int x0), .val (.int x1)] [] := by first | (simp [entryFrame, mkF, argsToLocals, Value.category]; done) | rfl
def own_Q_max (Z : State) (px : Int32) (py : Int32)  (h0 : Heap) (n0 : Nat) (v : Option Value) (h : Heap) (L : List Loc) : Prop := v = some (.int (own_max px py)) ∧ Fr n0 L ∧ h = h0
set_option maxRecDepth 65536 in
set_option maxHeartbeats 40000000 in
theorem own_rm_max (l : Launch) (Z : State) (a0 : Array Value) (hw : ∀ d ∈ tables_1, d.before a0 Z = true) (ws : List Jvm.Cond) (px : Int32) (py : Int32)  (h0 : Heap) (n0 : Nat) (Z0 : n0 ≤ h0.size) :
    MetFree l (⟨"java/lang/Math", "max", "(II)I"⟩ : MethodName) (head1 (Jvm.Cond.code (⟨"java/lang/Math", "max", "(II)I"⟩ : MethodName) jdk_29_method_65_code 2 (some .int) :: ws) ({ frames := 0, cells := 0, slots := 0, locals := 0 } : Room)) (fun a U => a = #[(.int px), (.int py)] ∧ Z.Warmed39 U.vm ∧ U.heap = h0) (fun _ _ _ _ _ => True) (fun _ U o U' => ∃ v L, o = .returned v ∧ own_Q_max Z px py h0 n0 v U'.heap L ∧ FrameEnd U o U' L ({ frames := 0, cells := 0, slots := 0, locals := 0 } : Room).cells ({ frames := 0, cells := 0, slots := 0, locals := 0 } : Room).slots) := by
  refine MetFree.of_bodySF (Jvm.Free.JP.mathPlain rfl (by decide +kernel)) hisR ?_
  intro p e s m args below meth c s₁ Bd hml0 hP hKq_
  obtain ⟨rfl, hZ, hh⟩ := hP
  have hx := Bd.exec
  have hby := Bd.bytes
  have hml : c.maxLocals = 2 := hml0
  have hown : s.vm.findClass "java/lang/Math" = some m.cls := findClass_of_methodNamed Bd.named
  have hnm := (name_of_methodNamed Bd.named Bd.method).1
  have X0 : Stand p l e ({ frames := 0, cells := 0, slots := 0, locals := 0 } : Room) s m #[(.int px), (.int py)] below meth c s₁ [] 0 0 := Stand.of_body Bd
  have e0 : s₁.heap = h0 := by rw [← hh, Bd.state]; rfl
  have N0 := Fr.nil n0
  have pre0 : ∀ t, Steps p.tables e below (s₁.setTop (mkF m 0 #[.val (.int px), .val (.int py)] [])) t → Steps p.tables e below (s₁.setTop (entryFrame m #[(.int px), (.int py)] 2)) t := fun t k => castTop (own_ef_max m px py) k
  refine own_go pre0 ?_
  refine own_abs ?_
  intro Pf hPf
  have k1 : ∀ t, Steps p.tables e below (s₁.setTop (mkF m 2 #[.val (.int px), .val (.int py)] [(.int py), (.int px)])) t → Steps p.tables e below (s₁.setTop (mkF m 0 #[.val (.int px), .val (.int py)] [])) t := fun t k => by
    refine XS.iloadN X0.here hx rfl (hb hby own_d_jdk_29_method_65_code_0) rfl ?_
    show Steps p.tables e below (s₁.setTop (mkF m 1 #[.val (.int px), .val (.int py)] [(.int px)])) _
    refine XS.iloadN X0.here hx rfl (hb hby own_d_jdk_29_method_65_code_1) rfl ?_
    show Steps p.tables e below (s₁.setTop (mkF m 2 #[.val (.int px), .val (.int py)] [(.int py), (.int px)])) _
    exact k
  refine own_go k1 ?_
  clear k1
  by_cases hc2_2 : px < py
  · skip
    have k3 : ∀ t, Steps p.tables e below (s₁.setTop (mkF m 10 #[.val (.int px), .val (.int py)] [(.int py)])) t → Steps p.tables e below (s₁.setTop (mkF m 2 #[.val (.int px), .val (.int py)] [(.int py), (.int px)])) t := fun t k => by
      refine XS.icmpYes X0.here hx rfl (pc0 := 2) (pc' := 9) rfl (hb hby own_d_jdk_29_method_65_code_2) rfl (tlt hc2_2).1 (by decide) (by decide) ?_
      show Steps p.tables e below (s₁.setTop (mkF m 9 #[.val (.int px), .val (.int py)] [])) _
      refine XS.iloadN X0.here hx rfl (hb hby own_d_jdk_29_method_65_code_9) rfl ?_
      show Steps p.tables e below (s₁.setTop (mkF m 10 #[.val (.int px), .val (.int py)] [(.int py)])) _
      exact k
    refine own_go k3 ?_
    clear k3
    obtain ⟨fs, hr, hrun, hended, hW, hsame⟩ := X0.leave (v := some (.int py)) (fun h => by rw [Bd.returns] at h; cases h)
    refine ⟨_, _, retOut X0 hx Bd.returns rfl (Or.inl ⟨rfl, Or.inl rfl, _, rfl⟩) (hb hby own_d_jdk_29_method_65_code_10) hr, hPf _ _ ⟨hrun, hended, _, _, rfl, ?_, ⟨_, rfl⟩, hW, hsame.mono (by decide) (by decide)⟩⟩
    show own_Q_max Z px py h0 n0 _ s₁.heap _
    rw [e0]
    exact ⟨by unfold own_max; rw [if_pos hc2_2], N0, rfl⟩
  · skip
    have k4 : ∀ t, Steps p.tables e below (s₁.setTop (mkF m 10 #[.val (.int px), .val (.int py)] [(.int px)])) t → Steps p.tables e below (s₁.setTop (mkF m 2 #[.val (.int px), .val (.int py)] [(.int py), (.int px)])) t := fun t k => by
      refine XS.icmpNo X0.here hx rfl (hb hby own_d_jdk_29_method_65_code_2) rfl (flt hc2_2).1 ?_
      show Steps p.tables e below (s₁.setTop (mkF m 5 #[.val (.int px), .val (.int py)] [])) _
      refine XS.iloadN X0.here hx rfl (hb hby own_d_jdk_29_method_65_code_5) rfl ?_
      show Steps p.tables e below (s₁.setTop (mkF m 6 #[.val (.int px), .val (.int py)] [(.int px)])) _
      refine XS.goto X0.here hx rfl (pc0 := 6) (pc' := 10) rfl (hb hby own_d_jdk_29_method_65_code_6) (by decide) (by decide) ?_
      show Steps p.tables e below (s₁.setTop (mkF m 10 #[.val (.int px), .val (.int py)] [(.int px)])) _
      exact k
    refine own_go k4 ?_
    clear k4
    obtain ⟨fs, hr, hrun, hended, hW, hsame⟩ := X0.leave (v := some (.int px)) (fun h => by rw [Bd.returns] at h; cases h)
    refine ⟨_, _, retOut X0 hx Bd.returns rfl (Or.inl ⟨rfl, Or.inl rfl, _, rfl⟩) (hb hby own_d_jdk_29_method_65_code_10) hr, hPf _ _ ⟨hrun, hended, _, _, rfl, ?_, ⟨_, rfl⟩, hW, hsame.mono (by decide) (by decide)⟩⟩
    show own_Q_max Z px py h0 n0 _ s₁.heap _
    rw [e0]
    exact ⟨by unfold own_max; rw [if_neg hc2_2], N0, rfl⟩
theorem own_d_prog_38_method_20_code_0 : decode prog_38_method_20_code 0 = .ok (.dload_n 0, 1) := by decide +kernel
theorem own_d_prog_38_method_20_code_1 : decode prog_38_method_20_code 1 = .ok (.dconst 0, 1) := by decide +kernel
theorem own_d_prog_38_method_20_code_2 : decode prog_38_method_20_code 2 = .ok (.dcmp .l, 1) := by decide +kernel
theorem own_d_prog_38_method_20_code_3 : decode prog_38_method_20_code 3 = .ok (.ifCond .le 9, 3) := by decide +kernel
theorem own_d_prog_38_method_20_code_6 : decode prog_38_method_20_code 6 = .ok (.iconst 1, 1) := by decide +kernel
theorem own_d_prog_38_method_20_code_7 : decode prog_38_method_20_code 7 = .ok (.istore 4, 2) := by decide +kernel
theorem own_d_prog_38_method_20_code_9 : decode prog_38_method_20_code 9 = .ok (.goto 18, 3) := by decide +kernel
theorem own_d_prog_38_method_20_code_27 : decode prog_38_method_20_code 27 = .ok (.iload 4, 2) := by decide +kernel
theorem own_d_prog_38_method_20_code_29 : decode prog_38_method_20_code 29 = .ok (.ireturn, 1) := by decide +kernel
theorem own_d_prog_38_method_20_code_12 : decode prog_38_method_20_code 12 = .ok (.dload_n 2, 1) := by decide +kernel
theorem own_d_prog_38_method_20_code_13 : decode prog_38_method_20_code 13 = .ok (.dconst 0, 1) := by decide +kernel
theorem own_d_prog_38_method_20_code_14 : decode prog_38_method_20_code 14 = .ok (.dcmp .g, 1) := by decide +kernel
theorem own_d_prog_38_method_20_code_15 : decode prog_38_method_20_code 15 = .ok (.ifCond .ge 9, 3) := by decide +kernel
theorem own_d_prog_38_method_20_code_18 : decode prog_38_method_20_code 18 = .ok (.iconst (-1), 1) := by decide +kernel
theorem own_d_prog_38_method_20_code_19 : decode prog_38_method_20_code 19 = .ok (.istore 4, 2) := by decide +kernel
theorem own_d_prog_38_method_20_code_21 : decode prog_38_method_20_code 21 = .ok (.goto 6, 3) := by decide +kernel
theorem own_d_prog_38_method_20_code_24 : decode prog_38_method_20_code 24 = .ok (.iconst 0, 1) := by decide +kernel
theorem own_d_prog_38_method_20_code_25 : decode prog_38_method_20_code 25 = .ok (.istore 4, 2) := by decide +kernel
theorem own_ef_sign (m : MethodId) (x0 : UInt64) (x1 : UInt64) : entryFrame m #[(.double x0), (.double x1)] 5 = mkF m 0 #[.val (.double x0), .second, .val (.double x1), .second, .unset] [] := by first | (simp [entryFrame, mkF, argsToLocals, Value.category]; done) | rfl
def own_Q_sign (Z : State) (lo hi : Int32) (h0 : Heap) (n0 : Nat) (v : Option Value) (h : Heap) (L : List Loc) : Prop := v = some (.int (own_sg lo hi)) ∧ Fr n0 L ∧ h = h0
theorem own_pn_com_example_chronopath_chronopath_network_Enclosure : plainName "com/example/chronopath/chronopath/network/Enclosure" = true := by first | (simp [plainName, overriddenIn]; done) | decide +kernel
set_option maxRecDepth 65536 in
set_option maxHeartbeats 40000000 in
theorem own_rm_sign (l : Launch) (Z : State) (a0 : Array Value) (hw : ∀ d ∈ tables_1, d.before a0 Z = true) (ws : List Jvm.Cond) (lo hi : Int32) (h0 : Heap) (n0 : Nat) (Z0 : n0 ≤ h0.size) :
    MetFree l (⟨"com/example/chronopath/chronopath/network/Enclosure", "sureSign", "(DD)I"⟩ : MethodName) (head1 (Jvm.Cond.code (⟨"com/example/chronopath/chronopath/network/Enclosure", "sureSign", "(DD)I"⟩ : MethodName) prog_38_method_20_code 5 (some .int) :: ws) ({ frames := 0, cells := 0, slots := 0, locals := 0 } : Room)) (fun a U => a = #[(.double (FP.i2d lo)), (.double (FP.i2d hi))] ∧ Z.Warmed39 U.vm ∧ U.heap = h0) (fun _ _ _ _ _ => True) (fun _ U o U' => ∃ v L, o = .returned v ∧ own_Q_sign Z lo hi h0 n0 v U'.heap L ∧ FrameEnd U o U' L ({ frames := 0, cells := 0, slots := 0, locals := 0 } : Room).cells ({ frames := 0, cells := 0, slots := 0, locals := 0 } : Room).slots) := by
  refine MetFree.of_bodySF (plainFor_of_name own_pn_com_example_chronopath_chronopath_network_Enclosure) hisR ?_
  intro p e s m args below meth c s₁ Bd hml0 hP hKq_
  obtain ⟨rfl, hZ, hh⟩ := hP
  have hx := Bd.exec
  have hby := Bd.bytes
  have hml : c.maxLocals = 5 := hml0
  have hown : s.vm.findClass "com/example/chronopath/chronopath/network/Enclosure" = some m.cls := findClass_of_methodNamed Bd.named
  have hnm := (name_of_methodNamed Bd.named Bd.method).1
  have X0 : Stand p l e ({ frames := 0, cells := 0, slots := 0, locals := 0 } : Room) s m #[(.double (FP.i2d lo)), (.double (FP.i2d hi))] below meth c s₁ [] 0 0 := Stand.of_body Bd
  have e0 : s₁.heap = h0 := by rw [← hh, Bd.state]; rfl
  have N0 := Fr.nil n0
  have pre0 : ∀ t, Steps p.tables e below (s₁.setTop (mkF m 0 #[.val (.double (FP.i2d lo)), .second, .val (.double (FP.i2d hi)), .second, .unset] [])) t → Steps p.tables e below (s₁.setTop (entryFrame m #[(.double (FP.i2d lo)), (.double (FP.i2d hi))] 5)) t := fun t k => castTop (own_ef_sign m (FP.i2d lo) (FP.i2d hi)) k
  refine own_go pre0 ?_
  refine own_abs ?_
  intro Pf hPf
  have k1 : ∀ t, Steps p.tables e below (s₁.setTop (mkF m 3 #[.val (.double (FP.i2d lo)), .second, .val (.double (FP.i2d hi)), .second, .unset] [(.int (lcmpW lo.toInt64 0))])) t → Steps p.tables e below (s₁.setTop (mkF m 0 #[.val (.double (FP.i2d lo)), .second, .val (.double (FP.i2d hi)), .second, .unset] [])) t := fun t k => by
    refine XS.dloadN X0.here hx rfl (hb hby own_d_prog_38_method_20_code_0) rfl ?_
    show Steps p.tables e below (s₁.setTop (mkF m 1 #[.val (.double (FP.i2d lo)), .second, .val (.double (FP.i2d hi)), .second, .unset] [(.double (FP.i2d lo))])) _
    refine XS.dconst0 X0.here hx rfl (hb hby own_d_prog_38_method_20_code_1) rfl ?_
    show Steps p.tables e below (s₁.setTop (mkF m 2 #[.val (.double (FP.i2d lo)), .second, .val (.double (FP.i2d hi)), .second, .unset] [(.double FP.dconst0), (.double (FP.i2d lo))])) _
    refine XS.dcmpS X0.here hx rfl (hb hby own_d_prog_38_method_20_code_2) rfl (own_cmp0 lo _) ?_
    show Steps p.tables e below (s₁.setTop (mkF m 3 #[.val (.double (FP.i2d lo)), .second, .val (.double (FP.i2d hi)), .second, .unset] [(.int (lcmpW lo.toInt64 0))])) _
    exact k
  refine own_go k1 ?_
  clear k1
  by_cases hc3_2 : (0 : Int32) < (lcmpW lo.toInt64 0)
  · skip
    have k3 : ∀ t, Steps p.tables e below (s₁.setTop (mkF m 29 #[.val (.double (FP.i2d lo)), .second, .val (.double (FP.i2d hi)), .second, .val (.int (1 : Int32))] [(.int (1 : Int32))])) t → Steps p.tables e below (s₁.setTop (mkF m 3 #[.val (.double (FP.i2d lo)), .second, .val (.double (FP.i2d hi)), .second, .unset] [(.int (lcmpW lo.toInt64 0))])) t := fun t k => by
      refine XS.ifNo X0.here hx rfl (hb hby own_d_prog_38_method_20_code_3) rfl ((if0 _ _).trans (tlt hc3_2).2.2.2) ?_
      show Steps p.tables e below (s₁.setTop (mkF m 6 #[.val (.double (FP.i2d lo)), .second, .val (.double (FP.i2d hi)), .second, .unset] [])) _
      refine XS.iconst X0.here hx rfl (hb hby own_d_prog_38_method_20_code_6) ?_
      show Steps p.tables e below (s₁.setTop (mkF m 7 #[.val (.double (FP.i2d lo)), .second, .val (.double (FP.i2d hi)), .second, .unset] [(.int (1 : Int32))])) _
      refine XS.istore X0.here hx rfl (hb hby own_d_prog_38_method_20_code_7) rfl (l' := #[.val (.double (FP.i2d lo)), .second, .val (.double (FP.i2d hi)), .second, .val (.int (1 : Int32))]) rfl ?_
      show Steps p.tables e below (s₁.setTop (mkF m 9 #[.val (.double (FP.i2d lo)), .second, .val (.double (FP.i2d hi)), .second, .val (.int (1 : Int32))] [])) _
      refine XS.goto X0.here hx rfl (pc0 := 9) (pc' := 27) rfl (hb hby own_d_prog_38_method_20_code_9) (by decide) (by decide) ?_
      show Steps p.tables e below (s₁.setTop (mkF m 27 #[.val (.double (FP.i2d lo)), .second, .val (.double (FP.i2d hi)), .second, .val (.int (1 : Int32))] [])) _
      refine XS.iload X0.here hx rfl (hb hby own_d_prog_38_method_20_code_27) rfl ?_
      show Steps p.tables e below (s₁.setTop (mkF m 29 #[.val (.double (FP.i2d lo)), .second, .val (.double (FP.i2d hi)), .second, .val (.int (1 : Int32))] [(.int (1 : Int32))])) _
      exact k
    refine own_go k3 ?_
    clear k3
    obtain ⟨fs, hr, hrun, hended, hW, hsame⟩ := X0.leave (v := some (.int (1 : Int32))) (fun h => by rw [Bd.returns] at h; cases h)
    refine ⟨_, _, retOut X0 hx Bd.returns rfl (Or.inl ⟨rfl, Or.inl rfl, _, rfl⟩) (hb hby own_d_prog_38_method_20_code_29) hr, hPf _ _ ⟨hrun, hended, _, _, rfl, ?_, ⟨_, rfl⟩, hW, hsame.mono (by decide) (by decide)⟩⟩
    show own_Q_sign Z lo hi h0 n0 _ s₁.heap _
    rw [e0]
    exact ⟨by unfold own_sg; rw [if_pos ((own_l1 _).mp hc3_2)], N0, rfl⟩
  · skip
    have k4 : ∀ t, Steps p.tables e below (s₁.setTop (mkF m 15 #[.val (.double (FP.i2d lo)), .second, .val (.double (FP.i2d hi)), .second, .unset] [(.int (lcmpW hi.toInt64 0))])) t → Steps p.tables e below (s₁.setTop (mkF m 3 #[.val (.double (FP.i2d lo)), .second, .val (.double (FP.i2d hi)), .second, .unset] [(.int (lcmpW lo.toInt64 0))])) t := fun t k => by
      refine XS.ifYes X0.here hx rfl (pc0 := 3) (pc' := 12) rfl (hb hby own_d_prog_38_method_20_code_3) rfl ((if0 _ _).trans (flt hc3_2).2.2.2) (by decide) (by decide) ?_
      show Steps p.tables e below (s₁.setTop (mkF m 12 #[.val (.double (FP.i2d lo)), .second, .val (.double (FP.i2d hi)), .second, .unset] [])) _
      refine XS.dloadN X0.here hx rfl (hb hby own_d_prog_38_method_20_code_12) rfl ?_
      show Steps p.tables e below (s₁.setTop (mkF m 13 #[.val (.double (FP.i2d lo)), .second, .val (.double (FP.i2d hi)), .second, .unset] [(.double (FP.i2d hi))])) _
      refine XS.dconst0 X0.here hx rfl (hb hby own_d_prog_38_method_20_code_13) rfl ?_
      show Steps p.tables e below (s₁.setTop (mkF m 14 #[.val (.double (FP.i2d lo)), .second, .val (.double (FP.i2d hi)), .second, .unset] [(.double FP.dconst0), (.double (FP.i2d hi))])) _
      refine XS.dcmpS X0.here hx rfl (hb hby own_d_prog_38_method_20_code_14) rfl (own_cmp0 hi _) ?_
      show Steps p.tables e below (s₁.setTop (mkF m 15 #[.val (.double (FP.i2d lo)), .second, .val (.double (FP.i2d hi)), .second, .unset] [(.int (lcmpW hi.toInt64 0))])) _
      exact k
    refine own_go k4 ?_
    clear k4
    by_cases hc15_5 : (lcmpW hi.toInt64 0) < (0 : Int32)
    · skip
      have k6 : ∀ t, Steps p.tables e below (s₁.setTop (mkF m 29 #[.val (.double (FP.i2d lo)), .second, .val (.double (FP.i2d hi)), .second, .val (.int (-1 : Int32))] [(.int (-1 : Int32))])) t → Steps p.tables e below (s₁.setTop (mkF m 15 #[.val (.double (FP.i2d lo)), .second, .val (.double (FP.i2d hi)), .second, .unset] [(.int (lcmpW hi.toInt64 0))])) t := fun t k => by
        refine XS.ifNo X0.here hx rfl (hb hby own_d_prog_38_method_20_code_15) rfl ((if0 _ _).trans (tlt hc15_5).2.1) ?_
        show Steps p.tables e below (s₁.setTop (mkF m 18 #[.val (.double (FP.i2d lo)), .second, .val (.double (FP.i2d hi)), .second, .unset] [])) _
        refine XS.iconst X0.here hx rfl (hb hby own_d_prog_38_method_20_code_18) ?_
        show Steps p.tables e below (s₁.setTop (mkF m 19 #[.val (.double (FP.i2d lo)), .second, .val (.double (FP.i2d hi)), .second, .unset] [(.int (-1 : Int32))])) _
        refine XS.istore X0.here hx rfl (hb hby own_d_prog_38_method_20_code_19) rfl (l' := #[.val (.double (FP.i2d lo)), .second, .val (.double (FP.i2d hi)), .second, .val (.int (-1 : Int32))]) rfl ?_
        show Steps p.tables e below (s₁.setTop (mkF m 21 #[.val (.double (FP.i2d lo)), .second, .val (.double (FP.i2d hi)), .second, .val (.int (-1 : Int32))] [])) _
        refine XS.goto X0.here hx rfl (pc0 := 21) (pc' := 27) rfl (hb hby own_d_prog_38_method_20_code_21) (by decide) (by decide) ?_
        show Steps p.tables e below (s₁.setTop (mkF m 27 #[.val (.double (FP.i2d lo)), .second, .val (.double (FP.i2d hi)), .second, .val (.int (-1 : Int32))] [])) _
        refine XS.iload X0.here hx rfl (hb hby own_d_prog_38_method_20_code_27) rfl ?_
        show Steps p.tables e below (s₁.setTop (mkF m 29 #[.val (.double (FP.i2d lo)), .second, .val (.double (FP.i2d hi)), .second, .val (.int (-1 : Int32))] [(.int (-1 : Int32))])) _
        exact k
      refine own_go k6 ?_
      clear k6
      obtain ⟨fs, hr, hrun, hended, hW, hsame⟩ := X0.leave (v := some (.int (-1 : Int32))) (fun h => by rw [Bd.returns] at h; cases h)
      refine ⟨_, _, retOut X0 hx Bd.returns rfl (Or.inl ⟨rfl, Or.inl rfl, _, rfl⟩) (hb hby own_d_prog_38_method_20_code_29) hr, hPf _ _ ⟨hrun, hended, _, _, rfl, ?_, ⟨_, rfl⟩, hW, hsame.mono (by decide) (by decide)⟩⟩
      show own_Q_sign Z lo hi h0 n0 _ s₁.heap _
      rw [e0]
      exact ⟨by unfold own_sg; rw [if_neg (mt (own_l1 _).mpr hc3_2), if_pos ((own_l2 _).mp hc15_5)], N0, rfl⟩
    · skip
      have k7 : ∀ t, Steps p.tables e below (s₁.setTop (mkF m 29 #[.val (.double (FP.i2d lo)), .second, .val (.double (FP.i2d hi)), .second, .val (.int (0 : Int32))] [(.int (0 : Int32))])) t → Steps p.tables e below (s₁.setTop (mkF m 15 #[.val (.double (FP.i2d lo)), .second, .val (.double (FP.i2d hi)), .second, .unset] [(.int (lcmpW hi.toInt64 0))])) t := fun t k => by
        refine XS.ifYes X0.here hx rfl (pc0 := 15) (pc' := 24) rfl (hb hby own_d_prog_38_method_20_code_15) rfl ((if0 _ _).trans (flt hc15_5).2.1) (by decide) (by decide) ?_
        show Steps p.tables e below (s₁.setTop (mkF m 24 #[.val (.double (FP.i2d lo)), .second, .val (.double (FP.i2d hi)), .second, .unset] [])) _
        refine XS.iconst X0.here hx rfl (hb hby own_d_prog_38_method_20_code_24) ?_
        show Steps p.tables e below (s₁.setTop (mkF m 25 #[.val (.double (FP.i2d lo)), .second, .val (.double (FP.i2d hi)), .second, .unset] [(.int (0 : Int32))])) _
        refine XS.istore X0.here hx rfl (hb hby own_d_prog_38_method_20_code_25) rfl (l' := #[.val (.double (FP.i2d lo)), .second, .val (.double (FP.i2d hi)), .second, .val (.int (0 : Int32))]) rfl ?_
        show Steps p.tables e below (s₁.setTop (mkF m 27 #[.val (.double (FP.i2d lo)), .second, .val (.double (FP.i2d hi)), .second, .val (.int (0 : Int32))] [])) _
        refine XS.iload X0.here hx rfl (hb hby own_d_prog_38_method_20_code_27) rfl ?_
        show Steps p.tables e below (s₁.setTop (mkF m 29 #[.val (.double (FP.i2d lo)), .second, .val (.double (FP.i2d hi)), .second, .val (.int (0 : Int32))] [(.int (0 : Int32))])) _
        exact k
      refine own_go k7 ?_
      clear k7
      obtain ⟨fs, hr, hrun, hended, hW, hsame⟩ := X0.leave (v := some (.int (0 : Int32))) (fun h => by rw [Bd.returns] at h; cases h)
      refine ⟨_, _, retOut X0 hx Bd.returns rfl (Or.inl ⟨rfl, Or.inl rfl, _, rfl⟩) (hb hby own_d_prog_38_method_20_code_29) hr, hPf _ _ ⟨hrun, hended, _, _, rfl, ?_, ⟨_, rfl⟩, hW, hsame.mono (by decide) (by decide)⟩⟩
      show own_Q_sign Z lo hi h0 n0 _ s₁.heap _
      rw [e0]
      exact ⟨by unfold own_sg; rw [if_neg (mt (own_l1 _).mpr hc3_2), if_neg (mt (own_l2 _).mpr hc15_5)], N0, rfl⟩
theorem own_pd_28II29I : parseMethodDescriptor "(II)I" = some ⟨[.int, .int], some .int⟩ := by decide +kernel
theorem own_pd_28DD29I : parseMethodDescriptor "(DD)I" = some ⟨[.double, .double], some .int⟩ := by decide +kernel
theorem own_ef_law (m : MethodId) (x0 : Int32) (x1 : Int32) : entryFrame m #[(.int x0), (.int x1)] maxLocals = mkF m 0 #[.val (.int x0), .val (.int x1), .unset, .unset, .unset, .unset] [] := by first | (simp [entryFrame, mkF, argsToLocals, Value.category, maxLocals]; done) | rfl
def own_Q_law (Z : State) (p0 : Int32) (p1 : Int32)  (h0 : Heap) (n0 : Nat) (v : Option Value) (h : Heap) (L : List Loc) : Prop := v = some (.int 1) ∧ Fr n0 L
theorem own_pn_com_example_chronopath_chronopath_network_EnclosureSureSignPinLaw : plainName "com/example/chronopath/chronopath/network/EnclosureSureSignPinLaw" = true := by first | (simp [plainName, overriddenIn]; done) | decide +kernel
set_option maxRecDepth 65536 in
set_option maxHeartbeats 40000000 in
theorem own_rm_law (l : Launch) (Z : State) (a0 : Array Value) (hw : ∀ d ∈ tables_1, d.before a0 Z = true) (ws : List Jvm.Cond) (p0 : Int32) (p1 : Int32)  (h0 : Heap) (n0 : Nat) (Z0 : n0 ≤ h0.size) :
    MetFree l x (head1 (Jvm.Cond.code x code maxLocals ret :: ws) room_1) (fun a U => a = #[(.int p0), (.int p1)] ∧ Z.Warmed39 U.vm ∧ U.heap = h0) (fun _ _ _ _ _ => True) (fun _ U o U' => ∃ v L, o = .returned v ∧ own_Q_law Z p0 p1 h0 n0 v U'.heap L ∧ FrameEnd U o U' L room_1.cells room_1.slots) := by
  refine MetFree.of_bodySF (plainFor_of_name own_pn_com_example_chronopath_chronopath_network_EnclosureSureSignPinLaw) hisR ?_
  intro p e s m args below meth c s₁ Bd hml0 hP hKq_
  obtain ⟨rfl, hZ, hh⟩ := hP
  have hx := Bd.exec
  have hby := Bd.bytes
  have hml : c.maxLocals = 6 := hml0
  have hown : s.vm.findClass "com/example/chronopath/chronopath/network/EnclosureSureSignPinLaw" = some m.cls := findClass_of_methodNamed Bd.named
  have hnm := (name_of_methodNamed Bd.named Bd.method).1
  have X0 : Stand p l e room_1 s m #[(.int p0), (.int p1)] below meth c s₁ [] 0 0 := Stand.of_body Bd
  have e0 : s₁.heap = h0 := by rw [← hh, Bd.state]; rfl
  have N0 := Fr.nil n0
  have pre0 : ∀ t, Steps p.tables e below (s₁.setTop (mkF m 0 #[.val (.int p0), .val (.int p1), .unset, .unset, .unset, .unset] [])) t → Steps p.tables e below (s₁.setTop (entryFrame m #[(.int p0), (.int p1)] maxLocals)) t := fun t k => castTop (own_ef_law m p0 p1) k
  refine own_go pre0 ?_
  refine own_abs ?_
  intro Pf hPf
  have k2 : ∀ t, Steps p.tables e below (s₁.setTop (mkF m 2 #[.val (.int p0), .val (.int p1), .unset, .unset, .unset, .unset] [(.int p1), (.int p0)])) t → Steps p.tables e below (s₁.setTop (mkF m 0 #[.val (.int p0), .val (.int p1), .unset, .unset, .unset, .unset] [])) t := fun t k => by
    refine XS.iloadN X0.here hx rfl (hb hby at_0) rfl ?_
    show Steps p.tables e below (s₁.setTop (mkF m 1 #[.val (.int p0), .val (.int p1), .unset, .unset, .unset, .unset] [(.int p0)])) _
    refine XS.iloadN X0.here hx rfl (hb hby at_1) rfl ?_
    show Steps p.tables e below (s₁.setTop (mkF m 2 #[.val (.int p0), .val (.int p1), .unset, .unset, .unset, .unset] [(.int p1), (.int p0)])) _
    exact k
  refine own_go k2 ?_
  clear k2
  obtain ⟨_, _, ⟨T1, L1, k1, n1⟩, -, X1, ⟨Lc1, hQ1, l1, y1, z1⟩, st1⟩ := Jvm.LawKit.callS X0 hx (y := (⟨"java/lang/Math", "min", "(II)I"⟩ : MethodName)) hown (mvT hZ (hw _ (List.mem_of_getElem? (i := 0) rfl))) (mvT hZ (hw _ (List.mem_of_getElem? (i := 1) rfl))) (mvT hZ (hw _ (List.mem_of_getElem? (i := 2) rfl))) (mvT hZ (hw _ (List.mem_of_getElem? (i := 3) rfl))) (by decide) (backOf (W := 0) (own_rm_min l Z a0 hw [] p0 p1 h0 n0 Z0 ) hZ (hw _ (List.mem_of_getElem? (i := 3) rfl)) (hw _ (List.mem_of_getElem? (i := 2) rfl)) (by decide) (by decide)) (g := (mkF m 2 #[.val (.int p0), .val (.int p1), .unset, .unset, .unset, .unset] [(.int p1), (.int p0)])) rfl (by rw [hml]; rfl) (argsL := [(.int p0), (.int p1)]) (rest := []) (lenOf own_pd_28II29I rfl) rfl (by show 2 * 0 + _ ≤ _; exact Nat.le_of_eq rfl) (hb hby at_2) (fun _ _ => ⟨rfl, e0, (by decide : 0 + 0 ≤ _), (by decide : 0 + 0 ≤ _)⟩)
  dsimp only [Pt.U, Pt.locs, Pt.cells, Pt.slots] at X1 l1 y1 z1 st1 hQ1
  subst l1 y1 z1
  obtain ⟨rfl, N1q, eh1⟩ := hQ1
  have N1 := Fr.app N0 N1q
  refine own_go st1 ?_
  have k4 : ∀ t, Steps p.tables e below (T1.setTop (mkF m 8 #[.val (.int p0), .val (.int p1), .val (.int (own_min p0 p1)), .unset, .unset, .unset] [(.int p1), (.int p0)])) t → Steps p.tables e below (T1.setTop (mkF m 5 #[.val (.int p0), .val (.int p1), .unset, .unset, .unset, .unset] [(.int (own_min p0 p1))])) t := fun t k => by
    refine XS.istoreN X1.here hx rfl (hb hby at_5) rfl (l' := #[.val (.int p0), .val (.int p1), .val (.int (own_min p0 p1)), .unset, .unset, .unset]) rfl ?_
    show Steps p.tables e below (T1.setTop (mkF m 6 #[.val (.int p0), .val (.int p1), .val (.int (own_min p0 p1)), .unset, .unset, .unset] [])) _
    refine XS.iloadN X1.here hx rfl (hb hby at_6) rfl ?_
    show Steps p.tables e below (T1.setTop (mkF m 7 #[.val (.int p0), .val (.int p1), .val (.int (own_min p0 p1)), .unset, .unset, .unset] [(.int p0)])) _
    refine XS.iloadN X1.here hx rfl (hb hby at_7) rfl ?_
    show Steps p.tables e below (T1.setTop (mkF m 8 #[.val (.int p0), .val (.int p1), .val (.int (own_min p0 p1)), .unset, .unset, .unset] [(.int p1), (.int p0)])) _
    exact k
  refine own_go k4 ?_
  clear k4
  obtain ⟨_, _, ⟨T3, L3, k3, n3⟩, -, X3, ⟨Lc3, hQ3, l3, y3, z3⟩, st3⟩ := Jvm.LawKit.callS X1 hx (y := (⟨"java/lang/Math", "max", "(II)I"⟩ : MethodName)) hown (mvT hZ (hw _ (List.mem_of_getElem? (i := 4) rfl))) (mvT hZ (hw _ (List.mem_of_getElem? (i := 5) rfl))) (mvT hZ (hw _ (List.mem_of_getElem? (i := 2) rfl))) (mvT hZ (hw _ (List.mem_of_getElem? (i := 6) rfl))) (by decide) (backOf (W := 0) (own_rm_max l Z a0 hw [] p0 p1 h0 n0 Z0 ) hZ (hw _ (List.mem_of_getElem? (i := 6) rfl)) (hw _ (List.mem_of_getElem? (i := 2) rfl)) (by decide) (by decide)) (g := (mkF m 8 #[.val (.int p0), .val (.int p1), .val (.int (own_min p0 p1)), .unset, .unset, .unset] [(.int p1), (.int p0)])) rfl (by rw [hml]; rfl) (argsL := [(.int p0), (.int p1)]) (rest := []) (lenOf own_pd_28II29I rfl) rfl (by show 2 * 0 + _ ≤ _; exact Nat.le_of_eq rfl) (hb hby at_8) (fun _ _ => ⟨rfl, eh1, (by decide : 0 + 0 ≤ _), (by decide : 0 + 0 ≤ _)⟩)
  dsimp only [Pt.U, Pt.locs, Pt.cells, Pt.slots] at X3 l3 y3 z3 st3 hQ3
  subst l3 y3 z3
  obtain ⟨rfl, N3q, eh3⟩ := hQ3
  have N3 := Fr.app N1 N3q
  refine own_go st3 ?_
  have k5 : ∀ t, Steps p.tables e below (T3.setTop (mkF m 13 #[.val (.int p0), .val (.int p1), .val (.int (own_min p0 p1)), .val (.int (own_max p0 p1)), .unset, .unset] [(.int (own_min p0 p1))])) t → Steps p.tables e below (T3.setTop (mkF m 11 #[.val (.int p0), .val (.int p1), .val (.int (own_min p0 p1)), .unset, .unset, .unset] [(.int (own_max p0 p1))])) t := fun t k => by
    refine XS.istoreN X3.here hx rfl (hb hby at_11) rfl (l' := #[.val (.int p0), .val (.int p1), .val (.int (own_min p0 p1)), .val (.int (own_max p0 p1)), .unset, .unset]) rfl ?_
    show Steps p.tables e below (T3.setTop (mkF m 12 #[.val (.int p0), .val (.int p1), .val (.int (own_min p0 p1)), .val (.int (own_max p0 p1)), .unset, .unset] [])) _
    refine XS.iloadN X3.here hx rfl (hb hby at_12) rfl ?_
    show Steps p.tables e below (T3.setTop (mkF m 13 #[.val (.int p0), .val (.int p1), .val (.int (own_min p0 p1)), .val (.int (own_max p0 p1)), .unset, .unset] [(.int (own_min p0 p1))])) _
    exact k
  refine own_go k5 ?_
  clear k5
  by_cases hc13_6 : (0 : Int32) < (own_min p0 p1)
  · skip
    have k8 : ∀ t, Steps p.tables e below (T3.setTop (mkF m 43 #[.val (.int p0), .val (.int p1), .val (.int (own_min p0 p1)), .val (.int (own_max p0 p1)), .val (.int (1 : Int32)), .unset] [(.double (FP.i2d (own_max p0 p1))), (.double (FP.i2d (own_min p0 p1)))])) t → Steps p.tables e below (T3.setTop (mkF m 13 #[.val (.int p0), .val (.int p1), .val (.int (own_min p0 p1)), .val (.int (own_max p0 p1)), .unset, .unset] [(.int (own_min p0 p1))])) t := fun t k => by
      refine XS.ifYes X3.here hx rfl (pc0 := 13) (pc' := 26) rfl (hb hby at_13) rfl ((if0 _ _).trans (tlt hc13_6).2.2.1) (by decide) (by decide) ?_
      show Steps p.tables e below (T3.setTop (mkF m 26 #[.val (.int p0), .val (.int p1), .val (.int (own_min p0 p1)), .val (.int (own_max p0 p1)), .unset, .unset] [])) _
      refine XS.iloadN X3.here hx rfl (hb hby at_26) rfl ?_
      show Steps p.tables e below (T3.setTop (mkF m 27 #[.val (.int p0), .val (.int p1), .val (.int (own_min p0 p1)), .val (.int (own_max p0 p1)), .unset, .unset] [(.int (own_max p0 p1))])) _
      refine XS.ifNo X3.here hx rfl (hb hby at_27) rfl ((if0 _ _).trans (tlt (own_pos hc13_6)).2.2.2) ?_
      show Steps p.tables e below (T3.setTop (mkF m 30 #[.val (.int p0), .val (.int p1), .val (.int (own_min p0 p1)), .val (.int (own_max p0 p1)), .unset, .unset] [])) _
      refine XS.iconst X3.here hx rfl (hb hby at_30) ?_
      show Steps p.tables e below (T3.setTop (mkF m 31 #[.val (.int p0), .val (.int p1), .val (.int (own_min p0 p1)), .val (.int (own_max p0 p1)), .unset, .unset] [(.int (1 : Int32))])) _
      refine XS.istore X3.here hx rfl (hb hby at_31) rfl (l' := #[.val (.int p0), .val (.int p1), .val (.int (own_min p0 p1)), .val (.int (own_max p0 p1)), .val (.int (1 : Int32)), .unset]) rfl ?_
      show Steps p.tables e below (T3.setTop (mkF m 33 #[.val (.int p0), .val (.int p1), .val (.int (own_min p0 p1)), .val (.int (own_max p0 p1)), .val (.int (1 : Int32)), .unset] [])) _
      refine XS.goto X3.here hx rfl (pc0 := 33) (pc' := 39) rfl (hb hby at_33) (by decide) (by decide) ?_
      show Steps p.tables e below (T3.setTop (mkF m 39 #[.val (.int p0), .val (.int p1), .val (.int (own_min p0 p1)), .val (.int (own_max p0 p1)), .val (.int (1 : Int32)), .unset] [])) _
      refine XS.iloadN X3.here hx rfl (hb hby at_39) rfl ?_
      show Steps p.tables e below (T3.setTop (mkF m 40 #[.val (.int p0), .val (.int p1), .val (.int (own_min p0 p1)), .val (.int (own_max p0 p1)), .val (.int (1 : Int32)), .unset] [(.int (own_min p0 p1))])) _
      refine XS.i2dS X3.here hx rfl (hb hby at_40) rfl rfl ?_
      show Steps p.tables e below (T3.setTop (mkF m 41 #[.val (.int p0), .val (.int p1), .val (.int (own_min p0 p1)), .val (.int (own_max p0 p1)), .val (.int (1 : Int32)), .unset] [(.double (FP.i2d (own_min p0 p1)))])) _
      refine XS.iloadN X3.here hx rfl (hb hby at_41) rfl ?_
      show Steps p.tables e below (T3.setTop (mkF m 42 #[.val (.int p0), .val (.int p1), .val (.int (own_min p0 p1)), .val (.int (own_max p0 p1)), .val (.int (1 : Int32)), .unset] [(.int (own_max p0 p1)), (.double (FP.i2d (own_min p0 p1)))])) _
      refine XS.i2dS X3.here hx rfl (hb hby at_42) rfl rfl ?_
      show Steps p.tables e below (T3.setTop (mkF m 43 #[.val (.int p0), .val (.int p1), .val (.int (own_min p0 p1)), .val (.int (own_max p0 p1)), .val (.int (1 : Int32)), .unset] [(.double (FP.i2d (own_max p0 p1))), (.double (FP.i2d (own_min p0 p1)))])) _
      exact k
    refine own_go k8 ?_
    clear k8
    obtain ⟨_, _, ⟨T7, L7, k7, n7⟩, -, X7, ⟨Lc7, hQ7, l7, y7, z7⟩, st7⟩ := Jvm.LawKit.callS X3 hx (y := (⟨"com/example/chronopath/chronopath/network/Enclosure", "sureSign", "(DD)I"⟩ : MethodName)) hown (mvT hZ (hw _ (List.mem_of_getElem? (i := 7) rfl))) (mvT hZ (hw _ (List.mem_of_getElem? (i := 8) rfl))) (mvT hZ (hw _ (List.mem_of_getElem? (i := 9) rfl))) (mvT hZ (hw _ (List.mem_of_getElem? (i := 10) rfl))) (by decide) (backOf (W := 0) (own_rm_sign l Z a0 hw [] (own_min p0 p1) (own_max p0 p1) h0 n0 Z0 ) hZ (hw _ (List.mem_of_getElem? (i := 10) rfl)) (hw _ (List.mem_of_getElem? (i := 9) rfl)) (by decide) (by decide)) (g := (mkF m 43 #[.val (.int p0), .val (.int p1), .val (.int (own_min p0 p1)), .val (.int (own_max p0 p1)), .val (.int (1 : Int32)), .unset] [(.double (FP.i2d (own_max p0 p1))), (.double (FP.i2d (own_min p0 p1)))])) rfl (by rw [hml]; rfl) (argsL := [(.double (FP.i2d (own_min p0 p1))), (.double (FP.i2d (own_max p0 p1)))]) (rest := []) (lenOf own_pd_28DD29I rfl) rfl (by show 2 * 0 + _ ≤ _; exact Nat.le_of_eq rfl) (hb hby at_43) (fun _ _ => ⟨rfl, eh3, (by decide : 0 + 0 ≤ _), (by decide : 0 + 0 ≤ _)⟩)
    dsimp only [Pt.U, Pt.locs, Pt.cells, Pt.slots] at X7 l7 y7 z7 st7 hQ7
    subst l7 y7 z7
    obtain ⟨rfl, N7q, eh7⟩ := hQ7
    have N7 := Fr.app N3 N7q
    refine own_go st7 ?_
    have k9 : ∀ t, Steps p.tables e below (T7.setTop (mkF m 60 #[.val (.int p0), .val (.int p1), .val (.int (own_min p0 p1)), .val (.int (own_max p0 p1)), .val (.int (1 : Int32)), .val (.int (own_sg (own_min p0 p1) (own_max p0 p1)))] [(.int (1 : Int32))])) t → Steps p.tables e below (T7.setTop (mkF m 46 #[.val (.int p0), .val (.int p1), .val (.int (own_min p0 p1)), .val (.int (own_max p0 p1)), .val (.int (1 : Int32)), .unset] [(.int (own_sg (own_min p0 p1) (own_max p0 p1)))])) t := fun t k => by
      refine XS.istore X7.here hx rfl (hb hby at_46) rfl (l' := #[.val (.int p0), .val (.int p1), .val (.int (own_min p0 p1)), .val (.int (own_max p0 p1)), .val (.int (1 : Int32)), .val (.int (own_sg (own_min p0 p1) (own_max p0 p1)))]) rfl ?_
      show Steps p.tables e below (T7.setTop (mkF m 48 #[.val (.int p0), .val (.int p1), .val (.int (own_min p0 p1)), .val (.int (own_max p0 p1)), .val (.int (1 : Int32)), .val (.int (own_sg (own_min p0 p1) (own_max p0 p1)))] [])) _
      refine XS.iload X7.here hx rfl (hb hby at_48) rfl ?_
      show Steps p.tables e below (T7.setTop (mkF m 50 #[.val (.int p0), .val (.int p1), .val (.int (own_min p0 p1)), .val (.int (own_max p0 p1)), .val (.int (1 : Int32)), .val (.int (own_sg (own_min p0 p1) (own_max p0 p1)))] [(.int (own_sg (own_min p0 p1) (own_max p0 p1)))])) _
      refine XS.iload X7.here hx rfl (hb hby at_50) rfl ?_
      show Steps p.tables e below (T7.setTop (mkF m 52 #[.val (.int p0), .val (.int p1), .val (.int (own_min p0 p1)), .val (.int (own_max p0 p1)), .val (.int (1 : Int32)), .val (.int (own_sg (own_min p0 p1) (own_max p0 p1)))] [(.int (1 : Int32)), (.int (own_sg (own_min p0 p1) (own_max p0 p1)))])) _
      refine XS.icmpNo X7.here hx rfl (hb hby at_52) rfl (teq (own_s1 hc13_6)).2 ?_
      show Steps p.tables e below (T7.setTop (mkF m 55 #[.val (.int p0), .val (.int p1), .val (.int (own_min p0 p1)), .val (.int (own_max p0 p1)), .val (.int (1 : Int32)), .val (.int (own_sg (own_min p0 p1) (own_max p0 p1)))] [])) _
      refine XS.iconst X7.here hx rfl (hb hby at_55) ?_
      show Steps p.tables e below (T7.setTop (mkF m 56 #[.val (.int p0), .val (.int p1), .val (.int (own_min p0 p1)), .val (.int (own_max p0 p1)), .val (.int (1 : Int32)), .val (.int (own_sg (own_min p0 p1) (own_max p0 p1)))] [(.int (1 : Int32))])) _
      refine XS.goto X7.here hx rfl (pc0 := 56) (pc' := 60) rfl (hb hby at_56) (by decide) (by decide) ?_
      show Steps p.tables e below (T7.setTop (mkF m 60 #[.val (.int p0), .val (.int p1), .val (.int (own_min p0 p1)), .val (.int (own_max p0 p1)), .val (.int (1 : Int32)), .val (.int (own_sg (own_min p0 p1) (own_max p0 p1)))] [(.int (1 : Int32))])) _
      exact k
    refine own_go k9 ?_
    clear k9
    obtain ⟨fs, hr, hrun, hended, hW, hsame⟩ := X7.leave (v := some (.int (nar .boolean (1 : Int32)))) (fun h => by rw [Bd.returns] at h; cases h)
    refine ⟨_, _, retN X7 hx (t := .boolean) Bd.returns (by simp) (hb hby at_60) hr, hPf _ _ ⟨hrun, hended, _, _, rfl, ?_, ⟨_, rfl⟩, hW, hsame.mono (by decide) (by decide)⟩⟩
    show own_Q_law Z p0 p1 h0 n0 _ T7.heap _
    rw [eh7]
    exact ⟨rfl, N7⟩
  · skip
    have k10 : ∀ t, Steps p.tables e below (T3.setTop (mkF m 17 #[.val (.int p0), .val (.int p1), .val (.int (own_min p0 p1)), .val (.int (own_max p0 p1)), .unset, .unset] [(.int (own_max p0 p1))])) t → Steps p.tables e below (T3.setTop (mkF m 13 #[.val (.int p0), .val (.int p1), .val (.int (own_min p0 p1)), .val (.int (own_max p0 p1)), .unset, .unset] [(.int (own_min p0 p1))])) t := fun t k => by
      refine XS.ifNo X3.here hx rfl (hb hby at_13) rfl ((if0 _ _).trans (flt hc13_6).2.2.1) ?_
      show Steps p.tables e below (T3.setTop (mkF m 16 #[.val (.int p0), .val (.int p1), .val (.int (own_min p0 p1)), .val (.int (own_max p0 p1)), .unset, .unset] [])) _
      refine XS.iloadN X3.here hx rfl (hb hby at_16) rfl ?_
      show Steps p.tables e below (T3.setTop (mkF m 17 #[.val (.int p0), .val (.int p1), .val (.int (own_min p0 p1)), .val (.int (own_max p0 p1)), .unset, .unset] [(.int (own_max p0 p1))])) _
      exact k
    refine own_go k10 ?_
    clear k10
    by_cases hc17_11 : (own_max p0 p1) < (0 : Int32)
    · skip
      have k13 : ∀ t, Steps p.tables e below (T3.setTop (mkF m 43 #[.val (.int p0), .val (.int p1), .val (.int (own_min p0 p1)), .val (.int (own_max p0 p1)), .val (.int (-1 : Int32)), .unset] [(.double (FP.i2d (own_max p0 p1))), (.double (FP.i2d (own_min p0 p1)))])) t → Steps p.tables e below (T3.setTop (mkF m 17 #[.val (.int p0), .val (.int p1), .val (.int (own_min p0 p1)), .val (.int (own_max p0 p1)), .unset, .unset] [(.int (own_max p0 p1))])) t := fun t k => by
        refine XS.ifYes X3.here hx rfl (pc0 := 17) (pc' := 26) rfl (hb hby at_17) rfl ((if0 _ _).trans (tlt hc17_11).1) (by decide) (by decide) ?_
        show Steps p.tables e below (T3.setTop (mkF m 26 #[.val (.int p0), .val (.int p1), .val (.int (own_min p0 p1)), .val (.int (own_max p0 p1)), .unset, .unset] [])) _
        refine XS.iloadN X3.here hx rfl (hb hby at_26) rfl ?_
        show Steps p.tables e below (T3.setTop (mkF m 27 #[.val (.int p0), .val (.int p1), .val (.int (own_min p0 p1)), .val (.int (own_max p0 p1)), .unset, .unset] [(.int (own_max p0 p1))])) _
        refine XS.ifYes X3.here hx rfl (pc0 := 27) (pc' := 36) rfl (hb hby at_27) rfl ((if0 _ _).trans (flt (own_neg hc17_11)).2.2.2) (by decide) (by decide) ?_
        show Steps p.tables e below (T3.setTop (mkF m 36 #[.val (.int p0), .val (.int p1), .val (.int (own_min p0 p1)), .val (.int (own_max p0 p1)), .unset, .unset] [])) _
        refine XS.iconst X3.here hx rfl (hb hby at_36) ?_
        show Steps p.tables e below (T3.setTop (mkF m 37 #[.val (.int p0), .val (.int p1), .val (.int (own_min p0 p1)), .val (.int (own_max p0 p1)), .unset, .unset] [(.int (-1 : Int32))])) _
        refine XS.istore X3.here hx rfl (hb hby at_37) rfl (l' := #[.val (.int p0), .val (.int p1), .val (.int (own_min p0 p1)), .val (.int (own_max p0 p1)), .val (.int (-1 : Int32)), .unset]) rfl ?_
        show Steps p.tables e below (T3.setTop (mkF m 39 #[.val (.int p0), .val (.int p1), .val (.int (own_min p0 p1)), .val (.int (own_max p0 p1)), .val (.int (-1 : Int32)), .unset] [])) _
        refine XS.iloadN X3.here hx rfl (hb hby at_39) rfl ?_
        show Steps p.tables e below (T3.setTop (mkF m 40 #[.val (.int p0), .val (.int p1), .val (.int (own_min p0 p1)), .val (.int (own_max p0 p1)), .val (.int (-1 : Int32)), .unset] [(.int (own_min p0 p1))])) _
        refine XS.i2dS X3.here hx rfl (hb hby at_40) rfl rfl ?_
        show Steps p.tables e below (T3.setTop (mkF m 41 #[.val (.int p0), .val (.int p1), .val (.int (own_min p0 p1)), .val (.int (own_max p0 p1)), .val (.int (-1 : Int32)), .unset] [(.double (FP.i2d (own_min p0 p1)))])) _
        refine XS.iloadN X3.here hx rfl (hb hby at_41) rfl ?_
        show Steps p.tables e below (T3.setTop (mkF m 42 #[.val (.int p0), .val (.int p1), .val (.int (own_min p0 p1)), .val (.int (own_max p0 p1)), .val (.int (-1 : Int32)), .unset] [(.int (own_max p0 p1)), (.double (FP.i2d (own_min p0 p1)))])) _
        refine XS.i2dS X3.here hx rfl (hb hby at_42) rfl rfl ?_
        show Steps p.tables e below (T3.setTop (mkF m 43 #[.val (.int p0), .val (.int p1), .val (.int (own_min p0 p1)), .val (.int (own_max p0 p1)), .val (.int (-1 : Int32)), .unset] [(.double (FP.i2d (own_max p0 p1))), (.double (FP.i2d (own_min p0 p1)))])) _
        exact k
      refine own_go k13 ?_
      clear k13
      obtain ⟨_, _, ⟨T12, L12, k12, n12⟩, -, X12, ⟨Lc12, hQ12, l12, y12, z12⟩, st12⟩ := Jvm.LawKit.callS X3 hx (y := (⟨"com/example/chronopath/chronopath/network/Enclosure", "sureSign", "(DD)I"⟩ : MethodName)) hown (mvT hZ (hw _ (List.mem_of_getElem? (i := 7) rfl))) (mvT hZ (hw _ (List.mem_of_getElem? (i := 8) rfl))) (mvT hZ (hw _ (List.mem_of_getElem? (i := 9) rfl))) (mvT hZ (hw _ (List.mem_of_getElem? (i := 10) rfl))) (by decide) (backOf (W := 0) (own_rm_sign l Z a0 hw [] (own_min p0 p1) (own_max p0 p1) h0 n0 Z0 ) hZ (hw _ (List.mem_of_getElem? (i := 10) rfl)) (hw _ (List.mem_of_getElem? (i := 9) rfl)) (by decide) (by decide)) (g := (mkF m 43 #[.val (.int p0), .val (.int p1), .val (.int (own_min p0 p1)), .val (.int (own_max p0 p1)), .val (.int (-1 : Int32)), .unset] [(.double (FP.i2d (own_max p0 p1))), (.double (FP.i2d (own_min p0 p1)))])) rfl (by rw [hml]; rfl) (argsL := [(.double (FP.i2d (own_min p0 p1))), (.double (FP.i2d (own_max p0 p1)))]) (rest := []) (lenOf own_pd_28DD29I rfl) rfl (by show 2 * 0 + _ ≤ _; exact Nat.le_of_eq rfl) (hb hby at_43) (fun _ _ => ⟨rfl, eh3, (by decide : 0 + 0 ≤ _), (by decide : 0 + 0 ≤ _)⟩)
      dsimp only [Pt.U, Pt.locs, Pt.cells, Pt.slots] at X12 l12 y12 z12 st12 hQ12
      subst l12 y12 z12
      obtain ⟨rfl, N12q, eh12⟩ := hQ12
      have N12 := Fr.app N3 N12q
      refine own_go st12 ?_
      have k14 : ∀ t, Steps p.tables e below (T12.setTop (mkF m 60 #[.val (.int p0), .val (.int p1), .val (.int (own_min p0 p1)), .val (.int (own_max p0 p1)), .val (.int (-1 : Int32)), .val (.int (own_sg (own_min p0 p1) (own_max p0 p1)))] [(.int (1 : Int32))])) t → Steps p.tables e below (T12.setTop (mkF m 46 #[.val (.int p0), .val (.int p1), .val (.int (own_min p0 p1)), .val (.int (own_max p0 p1)), .val (.int (-1 : Int32)), .unset] [(.int (own_sg (own_min p0 p1) (own_max p0 p1)))])) t := fun t k => by
        refine XS.istore X12.here hx rfl (hb hby at_46) rfl (l' := #[.val (.int p0), .val (.int p1), .val (.int (own_min p0 p1)), .val (.int (own_max p0 p1)), .val (.int (-1 : Int32)), .val (.int (own_sg (own_min p0 p1) (own_max p0 p1)))]) rfl ?_
        show Steps p.tables e below (T12.setTop (mkF m 48 #[.val (.int p0), .val (.int p1), .val (.int (own_min p0 p1)), .val (.int (own_max p0 p1)), .val (.int (-1 : Int32)), .val (.int (own_sg (own_min p0 p1) (own_max p0 p1)))] [])) _
        refine XS.iload X12.here hx rfl (hb hby at_48) rfl ?_
        show Steps p.tables e below (T12.setTop (mkF m 50 #[.val (.int p0), .val (.int p1), .val (.int (own_min p0 p1)), .val (.int (own_max p0 p1)), .val (.int (-1 : Int32)), .val (.int (own_sg (own_min p0 p1) (own_max p0 p1)))] [(.int (own_sg (own_min p0 p1) (own_max p0 p1)))])) _
        refine XS.iload X12.here hx rfl (hb hby at_50) rfl ?_
        show Steps p.tables e below (T12.setTop (mkF m 52 #[.val (.int p0), .val (.int p1), .val (.int (own_min p0 p1)), .val (.int (own_max p0 p1)), .val (.int (-1 : Int32)), .val (.int (own_sg (own_min p0 p1) (own_max p0 p1)))] [(.int (-1 : Int32)), (.int (own_sg (own_min p0 p1) (own_max p0 p1)))])) _
        refine XS.icmpNo X12.here hx rfl (hb hby at_52) rfl (teq (own_sm hc13_6 hc17_11)).2 ?_
        show Steps p.tables e below (T12.setTop (mkF m 55 #[.val (.int p0), .val (.int p1), .val (.int (own_min p0 p1)), .val (.int (own_max p0 p1)), .val (.int (-1 : Int32)), .val (.int (own_sg (own_min p0 p1) (own_max p0 p1)))] [])) _
        refine XS.iconst X12.here hx rfl (hb hby at_55) ?_
        show Steps p.tables e below (T12.setTop (mkF m 56 #[.val (.int p0), .val (.int p1), .val (.int (own_min p0 p1)), .val (.int (own_max p0 p1)), .val (.int (-1 : Int32)), .val (.int (own_sg (own_min p0 p1) (own_max p0 p1)))] [(.int (1 : Int32))])) _
        refine XS.goto X12.here hx rfl (pc0 := 56) (pc' := 60) rfl (hb hby at_56) (by decide) (by decide) ?_
        show Steps p.tables e below (T12.setTop (mkF m 60 #[.val (.int p0), .val (.int p1), .val (.int (own_min p0 p1)), .val (.int (own_max p0 p1)), .val (.int (-1 : Int32)), .val (.int (own_sg (own_min p0 p1) (own_max p0 p1)))] [(.int (1 : Int32))])) _
        exact k
      refine own_go k14 ?_
      clear k14
      obtain ⟨fs, hr, hrun, hended, hW, hsame⟩ := X12.leave (v := some (.int (nar .boolean (1 : Int32)))) (fun h => by rw [Bd.returns] at h; cases h)
      refine ⟨_, _, retN X12 hx (t := .boolean) Bd.returns (by simp) (hb hby at_60) hr, hPf _ _ ⟨hrun, hended, _, _, rfl, ?_, ⟨_, rfl⟩, hW, hsame.mono (by decide) (by decide)⟩⟩
      show own_Q_law Z p0 p1 h0 n0 _ T12.heap _
      rw [eh12]
      exact ⟨rfl, N12⟩
    · skip
      have k16 : ∀ t, Steps p.tables e below (T3.setTop (mkF m 43 #[.val (.int p0), .val (.int p1), .val (.int (own_min p0 p1)), .val (.int (own_max p0 p1)), .val (.int (0 : Int32)), .unset] [(.double (FP.i2d (own_max p0 p1))), (.double (FP.i2d (own_min p0 p1)))])) t → Steps p.tables e below (T3.setTop (mkF m 17 #[.val (.int p0), .val (.int p1), .val (.int (own_min p0 p1)), .val (.int (own_max p0 p1)), .unset, .unset] [(.int (own_max p0 p1))])) t := fun t k => by
        refine XS.ifNo X3.here hx rfl (hb hby at_17) rfl ((if0 _ _).trans (flt hc17_11).1) ?_
        show Steps p.tables e below (T3.setTop (mkF m 20 #[.val (.int p0), .val (.int p1), .val (.int (own_min p0 p1)), .val (.int (own_max p0 p1)), .unset, .unset] [])) _
        refine XS.iconst X3.here hx rfl (hb hby at_20) ?_
        show Steps p.tables e below (T3.setTop (mkF m 21 #[.val (.int p0), .val (.int p1), .val (.int (own_min p0 p1)), .val (.int (own_max p0 p1)), .unset, .unset] [(.int (0 : Int32))])) _
        refine XS.istore X3.here hx rfl (hb hby at_21) rfl (l' := #[.val (.int p0), .val (.int p1), .val (.int (own_min p0 p1)), .val (.int (own_max p0 p1)), .val (.int (0 : Int32)), .unset]) rfl ?_
        show Steps p.tables e below (T3.setTop (mkF m 23 #[.val (.int p0), .val (.int p1), .val (.int (own_min p0 p1)), .val (.int (own_max p0 p1)), .val (.int (0 : Int32)), .unset] [])) _
        refine XS.goto X3.here hx rfl (pc0 := 23) (pc' := 39) rfl (hb hby at_23) (by decide) (by decide) ?_
        show Steps p.tables e below (T3.setTop (mkF m 39 #[.val (.int p0), .val (.int p1), .val (.int (own_min p0 p1)), .val (.int (own_max p0 p1)), .val (.int (0 : Int32)), .unset] [])) _
        refine XS.iloadN X3.here hx rfl (hb hby at_39) rfl ?_
        show Steps p.tables e below (T3.setTop (mkF m 40 #[.val (.int p0), .val (.int p1), .val (.int (own_min p0 p1)), .val (.int (own_max p0 p1)), .val (.int (0 : Int32)), .unset] [(.int (own_min p0 p1))])) _
        refine XS.i2dS X3.here hx rfl (hb hby at_40) rfl rfl ?_
        show Steps p.tables e below (T3.setTop (mkF m 41 #[.val (.int p0), .val (.int p1), .val (.int (own_min p0 p1)), .val (.int (own_max p0 p1)), .val (.int (0 : Int32)), .unset] [(.double (FP.i2d (own_min p0 p1)))])) _
        refine XS.iloadN X3.here hx rfl (hb hby at_41) rfl ?_
        show Steps p.tables e below (T3.setTop (mkF m 42 #[.val (.int p0), .val (.int p1), .val (.int (own_min p0 p1)), .val (.int (own_max p0 p1)), .val (.int (0 : Int32)), .unset] [(.int (own_max p0 p1)), (.double (FP.i2d (own_min p0 p1)))])) _
        refine XS.i2dS X3.here hx rfl (hb hby at_42) rfl rfl ?_
        show Steps p.tables e below (T3.setTop (mkF m 43 #[.val (.int p0), .val (.int p1), .val (.int (own_min p0 p1)), .val (.int (own_max p0 p1)), .val (.int (0 : Int32)), .unset] [(.double (FP.i2d (own_max p0 p1))), (.double (FP.i2d (own_min p0 p1)))])) _
        exact k
      refine own_go k16 ?_
      clear k16
      obtain ⟨_, _, ⟨T15, L15, k15, n15⟩, -, X15, ⟨Lc15, hQ15, l15, y15, z15⟩, st15⟩ := Jvm.LawKit.callS X3 hx (y := (⟨"com/example/chronopath/chronopath/network/Enclosure", "sureSign", "(DD)I"⟩ : MethodName)) hown (mvT hZ (hw _ (List.mem_of_getElem? (i := 7) rfl))) (mvT hZ (hw _ (List.mem_of_getElem? (i := 8) rfl))) (mvT hZ (hw _ (List.mem_of_getElem? (i := 9) rfl))) (mvT hZ (hw _ (List.mem_of_getElem? (i := 10) rfl))) (by decide) (backOf (W := 0) (own_rm_sign l Z a0 hw [] (own_min p0 p1) (own_max p0 p1) h0 n0 Z0 ) hZ (hw _ (List.mem_of_getElem? (i := 10) rfl)) (hw _ (List.mem_of_getElem? (i := 9) rfl)) (by decide) (by decide)) (g := (mkF m 43 #[.val (.int p0), .val (.int p1), .val (.int (own_min p0 p1)), .val (.int (own_max p0 p1)), .val (.int (0 : Int32)), .unset] [(.double (FP.i2d (own_max p0 p1))), (.double (FP.i2d (own_min p0 p1)))])) rfl (by rw [hml]; rfl) (argsL := [(.double (FP.i2d (own_min p0 p1))), (.double (FP.i2d (own_max p0 p1)))]) (rest := []) (lenOf own_pd_28DD29I rfl) rfl (by show 2 * 0 + _ ≤ _; exact Nat.le_of_eq rfl) (hb hby at_43) (fun _ _ => ⟨rfl, eh3, (by decide : 0 + 0 ≤ _), (by decide : 0 + 0 ≤ _)⟩)
      dsimp only [Pt.U, Pt.locs, Pt.cells, Pt.slots] at X15 l15 y15 z15 st15 hQ15
      subst l15 y15 z15
      obtain ⟨rfl, N15q, eh15⟩ := hQ15
      have N15 := Fr.app N3 N15q
      refine own_go st15 ?_
      have k17 : ∀ t, Steps p.tables e below (T15.setTop (mkF m 60 #[.val (.int p0), .val (.int p1), .val (.int (own_min p0 p1)), .val (.int (own_max p0 p1)), .val (.int (0 : Int32)), .val (.int (own_sg (own_min p0 p1) (own_max p0 p1)))] [(.int (1 : Int32))])) t → Steps p.tables e below (T15.setTop (mkF m 46 #[.val (.int p0), .val (.int p1), .val (.int (own_min p0 p1)), .val (.int (own_max p0 p1)), .val (.int (0 : Int32)), .unset] [(.int (own_sg (own_min p0 p1) (own_max p0 p1)))])) t := fun t k => by
        refine XS.istore X15.here hx rfl (hb hby at_46) rfl (l' := #[.val (.int p0), .val (.int p1), .val (.int (own_min p0 p1)), .val (.int (own_max p0 p1)), .val (.int (0 : Int32)), .val (.int (own_sg (own_min p0 p1) (own_max p0 p1)))]) rfl ?_
        show Steps p.tables e below (T15.setTop (mkF m 48 #[.val (.int p0), .val (.int p1), .val (.int (own_min p0 p1)), .val (.int (own_max p0 p1)), .val (.int (0 : Int32)), .val (.int (own_sg (own_min p0 p1) (own_max p0 p1)))] [])) _
        refine XS.iload X15.here hx rfl (hb hby at_48) rfl ?_
        show Steps p.tables e below (T15.setTop (mkF m 50 #[.val (.int p0), .val (.int p1), .val (.int (own_min p0 p1)), .val (.int (own_max p0 p1)), .val (.int (0 : Int32)), .val (.int (own_sg (own_min p0 p1) (own_max p0 p1)))] [(.int (own_sg (own_min p0 p1) (own_max p0 p1)))])) _
        refine XS.iload X15.here hx rfl (hb hby at_50) rfl ?_
        show Steps p.tables e below (T15.setTop (mkF m 52 #[.val (.int p0), .val (.int p1), .val (.int (own_min p0 p1)), .val (.int (own_max p0 p1)), .val (.int (0 : Int32)), .val (.int (own_sg (own_min p0 p1) (own_max p0 p1)))] [(.int (0 : Int32)), (.int (own_sg (own_min p0 p1) (own_max p0 p1)))])) _
        refine XS.icmpNo X15.here hx rfl (hb hby at_52) rfl (teq (own_s0 hc13_6 hc17_11)).2 ?_
        show Steps p.tables e below (T15.setTop (mkF m 55 #[.val (.int p0), .val (.int p1), .val (.int (own_min p0 p1)), .val (.int (own_max p0 p1)), .val (.int (0 : Int32)), .val (.int (own_sg (own_min p0 p1) (own_max p0 p1)))] [])) _
        refine XS.iconst X15.here hx rfl (hb hby at_55) ?_
        show Steps p.tables e below (T15.setTop (mkF m 56 #[.val (.int p0), .val (.int p1), .val (.int (own_min p0 p1)), .val (.int (own_max p0 p1)), .val (.int (0 : Int32)), .val (.int (own_sg (own_min p0 p1) (own_max p0 p1)))] [(.int (1 : Int32))])) _
        refine XS.goto X15.here hx rfl (pc0 := 56) (pc' := 60) rfl (hb hby at_56) (by decide) (by decide) ?_
        show Steps p.tables e below (T15.setTop (mkF m 60 #[.val (.int p0), .val (.int p1), .val (.int (own_min p0 p1)), .val (.int (own_max p0 p1)), .val (.int (0 : Int32)), .val (.int (own_sg (own_min p0 p1) (own_max p0 p1)))] [(.int (1 : Int32))])) _
        exact k
      refine own_go k17 ?_
      clear k17
      obtain ⟨fs, hr, hrun, hended, hW, hsame⟩ := X15.leave (v := some (.int (nar .boolean (1 : Int32)))) (fun h => by rw [Bd.returns] at h; cases h)
      refine ⟨_, _, retN X15 hx (t := .boolean) Bd.returns (by simp) (hb hby at_60) hr, hPf _ _ ⟨hrun, hended, _, _, rfl, ?_, ⟨_, rfl⟩, hW, hsame.mono (by decide) (by decide)⟩⟩
      show own_Q_law Z p0 p1 h0 n0 _ T15.heap _
      rw [eh15]
      exact ⟨rfl, N15⟩
set_option maxRecDepth 65536 in
set_option maxHeartbeats 40000000 in
theorem own_comes {Post : Tables → Env → Array Value → State → Outcome → State → Prop} (hpost : ∀ tb e args s v u, (limb_1_1.after args s (.returned v) u = true ∧ limb_1_2.after args s (.returned v) u = true ∧ True) → FrameEnd s (.returned v) u (Jvm.fieldLocs frame_1_writes args s ++ Jvm.arrayLocs frame_1_arrays args s ++ Jvm.staticLocs frame_1_statics s) 0 0 → Post tb e args s (.returned v) u) :
    ArmFor flags0 classFile x code maxLocals ret World_1 tables_1 room_1 Calls_1 rest_1 Pre_1 Post := by
  intro l hfl _ _ p e ha hc hk s m args below hf hA hF happ hP
  obtain ⟨hcalls, hrest, hpre⟩ := hP
  obtain ⟨-, -, -, hnamed, -, -, -, hat⟩ := (Spec.applies_iff hf).mp happ
  obtain ⟨hg, hn⟩ := and_e (Cond.before_iff.mp (show (Jvm.Cond.and given_1 narrow_1).before args s = true from hpre))
  obtain ⟨hg1a, hg1b⟩ := and_e hg
  obtain ⟨hg2a, hg2b⟩ := and_e hg1b
  obtain ⟨w0, w1, rfl⟩ : ∃ w0 w1 : Value, args = #[w0, w1] := by
    have hs : args.size = 2 := by simpa [Cond.value, given_1] using hg1a
    obtain ⟨L⟩ := args
    match L, hs with
    | [w0, w1], _ => exact ⟨w0, w1, rfl⟩
  have hw := fun d (hd : d ∈ tables_1) => atoms_spec (ws := Jvm.Cond.code x code maxLocals ret :: tables_1) hat d (List.mem_cons_of_mem _ hd)
  have hfit : Fit s := fun {y c} hc i hi => by
    obtain ⟨ha, rfl⟩ := Array.getElem?_eq_some_iff.mp hc
    have q := List.all_eq_true.mp ((Array.all_eq_true_iff_forall_mem.mp hF) _ (Array.getElem_mem ha)) i (List.mem_range.mpr hi)
    simpa [Array.getElem?_eq_getElem hi] using q
  obtain ⟨i0, ei0⟩ := is_v hg2a
  obtain rfl : w0 = (.int i0) := Option.some.inj ei0
  obtain ⟨i1, ei1⟩ := is_v hg2b
  obtain rfl : w1 = (.int i1) := Option.some.inj ei1
  obtain ⟨n, o, h1, h2, h3, _, L, rfl, ⟨rfl, N⟩, hq⟩ := own_rm_law l s _ hw tables_1 i0 i1 s.heap s.heap.size (Nat.le_refl _) p e ha hc hk s m _ below hf ((Spec.applies_iff_loose hf).mp happ).1 ⟨rfl, State.Warmed39.refl s, rfl⟩ trivial
  refine ⟨n, _, h1, h2, h3, hpost _ _ _ _ _ _ ⟨Cond.after_iff.mpr rfl, Cond.after_iff.mpr (eq_i res_at (Term.int_eval (1)) rfl), trivial⟩ ⟨hq.1, hq.2.1, (hq.2.2.sift fun y hy => Or.inr (N y hy)).mono (by decide) (by decide)⟩⟩
theorem main_1_1 : Claimed_1_1 := own_comes fun _ _ _ _ _ _ h hF => ⟨h.1, hF⟩
theorem main_1_2 : Claimed_1_2 := own_comes fun _ _ _ _ _ _ h hF => ⟨h.2.1, hF⟩
end Jvm.Pilot.@@N@@
namespace Jvm.Pilot.@@N@@
open Jvm Jvm.ClassFile Sem Op Lib Jvm.Free Jvm.Stand Jvm.Pilot.@@N@@.Jvm.D
/-! MADE BY PROGRAM (witnessworld.py) out of the Statement's table words and the real class files: 10 classes; the members and pool entries that the words name. The judged class is class 1, her method 1. -/
namespace start1
open Jvm.ClassFile
def u (s : String) : CpInfo := .utf8 (stringToUtf16 s)
/-- a pool by its gaps: so many unusable entries, then the entry; so many at the end -/
def gap : Nat → List CpInfo → List CpInfo
  | 0, r => r
  | n + 1, r => .unusable :: gap n r
def poolList (es : List (Nat × CpInfo)) (last : Nat) : List CpInfo := es.foldr (fun e r => gap e.1 (e.2 :: r)) (gap last [])
def pool (es : List (Nat × CpInfo)) (last : Nat) : Array CpInfo := ⟨poolList es last⟩
def fileOf (pool : Array CpInfo) (this : Nat) (attrs : Array Attribute := #[]) (ms : Array MethodInfo := #[]) (fl : Nat := 33) (sup : Nat := 0) (ifs : Array Nat := #[]) (fds : Array FieldInfo := #[]) : ClassFile where
  minorVersion := 0
  majorVersion := 65
  constantPool := pool
  accessFlags := fl
  thisClass := this
  superClass := sup
  interfaces := ifs
  fields := fds
  methods := ms
  attributes := attrs
def plain (name : String) (sup : Option ClassId) : Class where
  name := name
  kind := .ordinary
  loader := none
  accessFlags := 33
  super := sup
  interfaces := #[]
  cf := none
  fields := #[]
  methods := #[]
  instanceTypes := #[]
  staticTypes := #[]
  resolved := #[]
  callSites := []
  init := .initialized
  statics := none
  mirror := none

def pool0 : Array CpInfo := pool [(5, u "<init>"), (0, u "()V"), (1, .class_ 10), (1, u "java/lang/Object")] 113

def k0m0 : Method := { name := "<init>", desc := "()V", sig := { parameters := [], returnType := none }, accessFlags := 1, code := none }
/-- java/lang/Object -/
def k0 : Class := { plain "java/lang/Object" none with
  accessFlags := 33
  interfaces := #[]
  cf := some (fileOf pool0 8 #[] #[{ accessFlags := 1, nameIndex := 5, descriptorIndex := 6, attributes := #[] }] 33 0 #[] #[])
  fields := #[]
  methods := #[k0m0]
  instanceTypes := #[]
  staticTypes := #[]
  resolved := Array.replicate 124 none
  statics := none }

def pool1 : Array CpInfo := pool [(2, .class_ 4), (1, u "java/lang/Object"), (0, u "<init>"), (0, u "()V"), (0, .methodref 8 9), (0, .class_ 10), (0, .nameAndType 11 12), (0, u "java/lang/Math"), (0, u "min"), (0, u "(II)I"), (0, .methodref 8 14), (0, .nameAndType 15 12), (0, u "max"), (0, .methodref 17 18), (0, .class_ 19), (0, .nameAndType 20 21), (0, u "com/example/chronopath/chronopath/network/Enclosure"), (0, u "sureSign"), (0, u "(DD)I"), (0, .class_ 23), (0, u "com/example/chronopath/chronopath/network/EnclosureSureSignPinLaw"), (2, u "law"), (0, u "(II)Z")] 3

def k1m0 : Method := { name := "<init>", desc := "()V", sig := { parameters := [], returnType := none }, accessFlags := 1, code := none }
def k1c1 : Code := { maxStack := 4, maxLocals := 6, code := code, exceptionTable := #[], attributes := #[] }
def k1m1 : Method := { name := "law", desc := "(II)Z", sig := { parameters := [.int, .int], returnType := some .boolean }, accessFlags := 9, code := some k1c1 }
/-- com/example/chronopath/chronopath/network/EnclosureSureSignPinLaw -/
def k1 : Class := { plain "com/example/chronopath/chronopath/network/EnclosureSureSignPinLaw" (some 0) with
  accessFlags := 49
  interfaces := #[]
  cf := some (fileOf pool1 22 #[] #[{ accessFlags := 1, nameIndex := 5, descriptorIndex := 6, attributes := #[] }, { accessFlags := 9, nameIndex := 26, descriptorIndex := 27, attributes := #[] }] 49 2 #[] #[])
  fields := #[]
  methods := #[k1m0, k1m1]
  instanceTypes := #[]
  staticTypes := #[]
  resolved := Array.replicate 31 none
  statics := none }

def pool2 : Array CpInfo := pool [(1, .class_ 2), (0, u "java/lang/Math"), (1, .class_ 6), (1, u "java/lang/Object"), (0, u "<init>"), (0, u "()V"), (89, .class_ 100), (1, u "java/lang/Math$RandomNumberGeneratorHolder"), (71, u "negativeZeroFloatBits"), (0, u "J"), (2, u "negativeZeroDoubleBits"), (21, u "max"), (2, u "min"), (43, u "$assertionsDisabled"), (0, u "Z"), (88, u "(II)I"), (2, u "twoToTheDoubleScaleDown"), (0, u "D"), (4, u "twoToTheDoubleScaleUp"), (9, u "E"), (3, u "PI"), (2, u "TAU"), (2, u "DEGREES_TO_RADIANS"), (0, u "RADIANS_TO_DEGREES")] 94

def k2m0 : Method := { name := "<init>", desc := "()V", sig := { parameters := [], returnType := none }, accessFlags := 2, code := none }
def k2c1 : Code := { maxStack := 2, maxLocals := 2, code := jdk_29_method_65_code, exceptionTable := #[], attributes := #[] }
def k2m1 : Method := { name := "max", desc := "(II)I", sig := { parameters := [.int, .int], returnType := some .int }, accessFlags := 9, code := some k2c1 }
def k2c2 : Code := { maxStack := 2, maxLocals := 2, code := jdk_29_method_69_code, exceptionTable := #[], attributes := #[] }
def k2m2 : Method := { name := "min", desc := "(II)I", sig := { parameters := [.int, .int], returnType := some .int }, accessFlags := 9, code := some k2c2 }
/-- java/lang/Math -/
def k2 : Class := { plain "java/lang/Math" (some 0) with
  accessFlags := 49
  interfaces := #[]
  cf := some (fileOf pool2 1 #[.nestMembers #[98]] #[{ accessFlags := 2, nameIndex := 7, descriptorIndex := 8, attributes := #[] }, { accessFlags := 9, nameIndex := 198, descriptorIndex := 335, attributes := #[] }, { accessFlags := 9, nameIndex := 201, descriptorIndex := 335, attributes := #[] }] 49 4 #[] #[{ accessFlags := 25, nameIndex := 354, descriptorIndex := 339, attributes := #[] }, { accessFlags := 25, nameIndex := 358, descriptorIndex := 339, attributes := #[] }, { accessFlags := 25, nameIndex := 361, descriptorIndex := 339, attributes := #[] }, { accessFlags := 26, nameIndex := 364, descriptorIndex := 339, attributes := #[] }, { accessFlags := 26, nameIndex := 365, descriptorIndex := 339, attributes := #[] }, { accessFlags := 26, nameIndex := 172, descriptorIndex := 173, attributes := #[] }, { accessFlags := 26, nameIndex := 176, descriptorIndex := 173, attributes := #[] }, { accessFlags := 8, nameIndex := 344, descriptorIndex := 339, attributes := #[] }, { accessFlags := 8, nameIndex := 338, descriptorIndex := 339, attributes := #[] }, { accessFlags := 4120, nameIndex := 245, descriptorIndex := 246, attributes := #[] }])
  fields := #[{ name := "E", type := .double, accessFlags := 25, slot := 0, constantValue := 0 }, { name := "PI", type := .double, accessFlags := 25, slot := 1, constantValue := 0 }, { name := "TAU", type := .double, accessFlags := 25, slot := 2, constantValue := 0 }, { name := "DEGREES_TO_RADIANS", type := .double, accessFlags := 26, slot := 3, constantValue := 0 }, { name := "RADIANS_TO_DEGREES", type := .double, accessFlags := 26, slot := 4, constantValue := 0 }, { name := "negativeZeroFloatBits", type := .long, accessFlags := 26, slot := 5, constantValue := 0 }, { name := "negativeZeroDoubleBits", type := .long, accessFlags := 26, slot := 6, constantValue := 0 }, { name := "twoToTheDoubleScaleUp", type := .double, accessFlags := 8, slot := 7, constantValue := 0 }, { name := "twoToTheDoubleScaleDown", type := .double, accessFlags := 8, slot := 8, constantValue := 0 }, { name := "$assertionsDisabled", type := .boolean, accessFlags := 4120, slot := 9, constantValue := 0 }]
  methods := #[k2m0, k2m1, k2m2]
  instanceTypes := #[]
  staticTypes := #[.double, .double, .double, .double, .double, .long, .long, .double, .double, .boolean]
  resolved := Array.replicate 460 none
  statics := none }

def pool3 : Array CpInfo := pool [(2, .class_ 4), (1, u "java/lang/Object"), (3, .class_ 10), (1, u "com/example/chronopath/chronopath/network/Enclosure"), (0, u "low"), (0, u "D"), (2, u "high"), (79, u "EVERYTHING"), (0, u "Lcom/example/chronopath/chronopath/network/Enclosure;"), (12, u "sureSign"), (0, u "(DD)I")] 8

def k3c0 : Code := { maxStack := 4, maxLocals := 5, code := prog_38_method_20_code, exceptionTable := #[], attributes := #[] }
def k3m0 : Method := { name := "sureSign", desc := "(DD)I", sig := { parameters := [.double, .double], returnType := some .int }, accessFlags := 8, code := some k3c0 }
/-- com/example/chronopath/chronopath/network/Enclosure -/
def k3 : Class := { plain "com/example/chronopath/chronopath/network/Enclosure" (some 0) with
  accessFlags := 48
  interfaces := #[]
  cf := some (fileOf pool3 8 #[] #[{ accessFlags := 8, nameIndex := 109, descriptorIndex := 110, attributes := #[] }] 48 2 #[] #[{ accessFlags := 24, nameIndex := 95, descriptorIndex := 96, attributes := #[] }, { accessFlags := 18, nameIndex := 11, descriptorIndex := 12, attributes := #[] }, { accessFlags := 18, nameIndex := 15, descriptorIndex := 12, attributes := #[] }])
  fields := #[{ name := "EVERYTHING", type := (.object "com/example/chronopath/chronopath/network/Enclosure"), accessFlags := 24, slot := 0, constantValue := 0 }, { name := "low", type := .double, accessFlags := 18, slot := 0, constantValue := 0 }, { name := "high", type := .double, accessFlags := 18, slot := 1, constantValue := 0 }]
  methods := #[k3m0]
  instanceTypes := #[.double, .double]
  staticTypes := #[(.object "com/example/chronopath/chronopath/network/Enclosure")]
  resolved := Array.replicate 119 none
  statics := none }

def pool4 : Array CpInfo := pool [(1, u "java/lang/Cloneable"), (0, .class_ 1), (0, u "java/lang/Object"), (0, .class_ 3)] 3

/-- java/lang/Cloneable -/
def k4 : Class := { plain "java/lang/Cloneable" (some 0) with
  accessFlags := 1537
  interfaces := #[]
  cf := some (fileOf pool4 2 #[] #[] 1537 4 #[] #[])
  fields := #[]
  methods := #[]
  instanceTypes := #[]
  staticTypes := #[]
  resolved := Array.replicate 8 none
  statics := none }

def pool5 : Array CpInfo := pool [(1, u "java/io/Serializable"), (0, .class_ 1), (0, u "java/lang/Object"), (0, .class_ 3)] 3

/-- java/io/Serializable -/
def k5 : Class := { plain "java/io/Serializable" (some 0) with
  accessFlags := 1537
  interfaces := #[]
  cf := some (fileOf pool5 2 #[] #[] 1537 4 #[] #[])
  fields := #[]
  methods := #[]
  instanceTypes := #[]
  staticTypes := #[]
  resolved := Array.replicate 8 none
  statics := none }

/-- the primitive byte -/
def k6 : Class := { plain "byte" none with kind := .primitive 'B', accessFlags := 0x411 }
/-- [B -/
def k7 : Class := { plain "[B" (some 0) with kind := .array 6 .byte, interfaces := #[4, 5], accessFlags := 1041 }

/-- the primitive int -/
def k8 : Class := { plain "int" none with kind := .primitive 'I', accessFlags := 0x411 }
/-- [I -/
def k9 : Class := { plain "[I" (some 0) with kind := .array 8 .int, interfaces := #[4, 5], accessFlags := 1041 }

def heap : Heap := #[]
def classes : Array Class := #[k0, k1, k2, k3, k4, k5, k6, k7, k8, k9]
def interned : List (Array UInt16 × Addr) := []
def slotsUsed : Nat := 0
def theMethod : MethodId := ⟨1, 1⟩
def args0 : Array Value := #[.int 5, .int 5]
def aboutOver (below : List Frame) : State where
  vm := { classes := classes, interned := interned.toArray }
  heap := heap
  slotsUsed := slotsUsed
  threads := #[{ frames := .invoking theMethod args0 :: below }]
def below0 : List Frame := [.native { method := ⟨0, 0⟩, args := #[] }]
def about1 : State := aboutOver below0
def p0 : Program := .bare "" "" ""
def e0 : Env := launch0.env 0 0 0
theorem w_frames : about1.frames = Frame.invoking theMethod args0 :: below0 := rfl
set_option maxRecDepth 65536 in
theorem w_args : argsFit about1.vm theMethod args0 = true := by decide +kernel
set_option maxRecDepth 65536 in
theorem w_heap : heapFits about1 = true := by decide +kernel
set_option maxRecDepth 65536 in
theorem w_runnable : about1.curStatus? = some .runnable := by decide +kernel
set_option maxRecDepth 65536 in
theorem w_alone : about1.alone = true := by decide +kernel
set_option maxRecDepth 65536 in
theorem w_named : about1.methodNamed? x = some theMethod := by decide +kernel
set_option maxRecDepth 65536 in
theorem w_hears : about1.hears theMethod below0 = true := by decide +kernel
set_option maxRecDepth 65536 in
theorem w_ripe : about1.ripe theMethod args0 below0 = true := by decide +kernel
theorem w_running : about1.status = .running := rfl
set_option maxRecDepth 65536 in
theorem w_room : about1.hasRoom e0.platform room_1 = true :=
  launch0.hasRoom_least _ room_1 (by decide +kernel) (by decide +kernel) (by decide +kernel) (by decide +kernel) (by decide +kernel) (by decide +kernel)
theorem allAtoms_all (ts : List Jvm.Cond) (a : Array Jvm.Value) (st : Jvm.State) : (allAtoms ts).before a st = ts.all (fun c => c.before a st) := by
  induction ts with
  | nil => rfl
  | cons c t ih =>
    show (Jvm.Cond.and c (allAtoms t)).before a st = _
    rw [Jvm.Cond.before_and, ih, List.all_cons]
def words1 : List Jvm.Cond := Jvm.Cond.code x code maxLocals ret :: tables_1
/-- a 'code' word, met by the world's own term for the bytes: nothing is compared byte by byte -/
theorem code_word {y : MethodName} {bytes : ByteArray} {mx : Nat} {rt : Option FieldType} {a : Array Value} {s : State} {m : MethodId} {meth : Method} {c : Code} (h1 : s.methodNamed? y = some m) (h2 : s.vm.method? m = some meth) (h3 : meth.code = some c) (h4 : c.code = bytes)
    (h5 : (c.maxLocals == mx && c.exceptionTable.isEmpty && decide (c.maxStack ≤ mostOperands) && decide (meth.sig.returnType = rt) && !meth.locks && decide (parseMethodDescriptor y.desc = some meth.sig)) = true) : (Jvm.Cond.code y bytes mx rt).before a s = true := by
  simp only [Bool.and_eq_true, beq_iff_eq, Bool.not_eq_true', decide_eq_true_eq] at h5
  obtain ⟨⟨⟨⟨⟨g1, g2⟩, g3⟩, g4⟩, g5⟩, g6⟩ := h5
  simp [Cond.before, Cond.holds, Cond.value, h1, h2, h3, h4, g1, g2, g3, g4, g5, g6]
def isCode : Jvm.Cond → Bool
  | .code _ _ _ _ => true
  | _ => false
theorem all_split {L : List Jvm.Cond} {P : Jvm.Cond → Bool} (h1 : L.all (fun c => isCode c || P c) = true) (h2 : ∀ c ∈ L.filter isCode, P c = true) : L.all P = true := by
  refine List.all_eq_true.mpr fun c hc => ?_
  have h := List.all_eq_true.mp h1 c hc
  rcases Bool.eq_false_or_eq_true (isCode c) with hi | hi
  · exact h2 c (List.mem_filter.mpr ⟨hc, hi⟩)
  · simpa [hi] using h
set_option maxRecDepth 65536 in
theorem w_c0 : (Jvm.Cond.code x code maxLocals ret).before args0 about1 = true := code_word (m := ⟨1, 1⟩) (meth := k1m1) (c := k1c1) (by decide +kernel) rfl rfl rfl (by decide +kernel)
set_option maxRecDepth 65536 in
theorem w_c1 : (Jvm.Cond.code ({ cls := "java/lang/Math", name := "min", desc := "(II)I" } : Jvm.MethodName) jdk_29_method_69_code (2 : Nat) (Option.some Jvm.ClassFile.FieldType.int)).before args0 about1 = true := code_word (m := ⟨2, 2⟩) (meth := k2m2) (c := k2c2) (by decide +kernel) rfl rfl rfl (by decide +kernel)
set_option maxRecDepth 65536 in
theorem w_c2 : (Jvm.Cond.code ({ cls := "java/lang/Math", name := "max", desc := "(II)I" } : Jvm.MethodName) jdk_29_method_65_code (2 : Nat) (Option.some Jvm.ClassFile.FieldType.int)).before args0 about1 = true := code_word (m := ⟨2, 1⟩) (meth := k2m1) (c := k2c1) (by decide +kernel) rfl rfl rfl (by decide +kernel)
set_option maxRecDepth 65536 in
theorem w_c3 : (Jvm.Cond.code ({ cls := "com/example/chronopath/chronopath/network/Enclosure", name := "sureSign", desc := "(DD)I" } : Jvm.MethodName) prog_38_method_20_code (5 : Nat) (Option.some Jvm.ClassFile.FieldType.int)).before args0 about1 = true := code_word (m := ⟨3, 0⟩) (meth := k3m0) (c := k3c0) (by decide +kernel) rfl rfl rfl (by decide +kernel)
def codes1 : List Jvm.Cond := [Jvm.Cond.code x code maxLocals ret, Jvm.Cond.code ({ cls := "java/lang/Math", name := "min", desc := "(II)I" } : Jvm.MethodName) jdk_29_method_69_code (2 : Nat) (Option.some Jvm.ClassFile.FieldType.int), Jvm.Cond.code ({ cls := "java/lang/Math", name := "max", desc := "(II)I" } : Jvm.MethodName) jdk_29_method_65_code (2 : Nat) (Option.some Jvm.ClassFile.FieldType.int), Jvm.Cond.code ({ cls := "com/example/chronopath/chronopath/network/Enclosure", name := "sureSign", desc := "(DD)I" } : Jvm.MethodName) prog_38_method_20_code (5 : Nat) (Option.some Jvm.ClassFile.FieldType.int)]
set_option maxRecDepth 65536 in
theorem codes_eq : words1.filter isCode = codes1 := rfl
theorem w_codes : ∀ c ∈ words1.filter isCode, c.before args0 about1 = true := by
  rw [codes_eq]
  intro c hc
  simp only [codes1, List.mem_cons, List.not_mem_nil, or_false] at hc
  rcases hc with rfl | rfl | rfl | rfl
  · exact w_c0
  · exact w_c1
  · exact w_c2
  · exact w_c3
set_option maxRecDepth 65536 in
theorem w_t1 : words1.all (fun c => isCode c || c.before args0 about1) = true := by decide +kernel
theorem w_tables : (allAtoms (Jvm.Cond.code x code maxLocals ret :: tables_1)).before args0 about1 = true := by
  rw [allAtoms_all]
  show words1.all (fun c => c.before args0 about1) = true
  refine all_split ?_ w_codes
  rw [w_t1]
set_option maxRecDepth 65536 in
theorem w_case : (Jvm.Cond.and given_1 narrow_1).before args0 about1 = true := by decide +kernel
theorem w_applies : (headSpec (Jvm.Cond.code x code maxLocals ret :: tables_1) room_1).applies x e0.platform about1 = true :=
  (Spec.applies_iff w_frames).mpr ⟨w_running, w_runnable, w_alone, w_named, w_hears, w_ripe, w_room, w_tables⟩
theorem atStart : AtStart classFile x code maxLocals ret World_1 tables_1 room_1 Calls_1 rest_1 Pre_1 launch0 p0 e0 about1 theMethod args0 below0 :=
  ⟨lists_1, trivial, launch0.admits_env _ _ _, launch0.least_env, fairChoices_fair.cas, fairChoices_fair.clock, w_frames, w_args, w_heap, w_applies, trivial, trivial, w_case⟩
end start1
theorem witness_1 : WitnessClaimed_1 := ⟨start1.p0, start1.e0, start1.about1, start1.theMethod, start1.args0, start1.below0, start1.atStart⟩
end Jvm.Pilot.@@N@@
