import JvmDerived
import JvmDerived.Pilot.@@N@@Statement
import JvmDerived.Pilot.@@N@@Code
set_option linter.unusedVariables false
set_option linter.unusedSimpArgs false
namespace Jvm.Pilot.@@N@@
open Jvm Jvm.ClassFile Sem Op Lib Jvm.Free Jvm.Stand Jvm.LawKit Jvm.RoadKit Bundle Jvm.Pilot.@@N@@.Jvm.D
theorem own_go {α β : Sort _} {A B : α → Prop} {P : α → β → Prop} (k : ∀ t, A t → B t) (h : ∃ t o, A t ∧ P t o) : ∃ t o, B t ∧ P t o := by
  obtain ⟨t, o, h1, h2⟩ := h
  exact ⟨t, o, k t h1, h2⟩
theorem own_abs {α β : Sort _} {A : α → Prop} {P : α → β → Prop} (h : ∀ P' : α → β → Prop, (∀ t o, P t o → P' t o) → ∃ t o, A t ∧ P' t o) : ∃ t o, A t ∧ P t o := h P fun _ _ q => q
theorem own_cat1 {v : Value} (h : v.isRef = true) : v.category = 1 := by rcases ref_cases h with rfl | ⟨_, rfl⟩ <;> rfl
theorem own_slot1 {v : Value} (h : v.isRef = true) : Slot.val v = .unset ∨ ∃ w, Slot.val v = .val w ∧ w.category = 1 := Or.inr ⟨v, rfl, own_cat1 h⟩
theorem own_nar {C : String} {w : Value} (h : w.isRef = true) : narrow (.object C) w = w := by rcases ref_cases h with rfl | ⟨_, rfl⟩ <;> rfl
def own_min (x y : Int32) : Int32 := if y < x then y else x
def own_max (x y : Int32) : Int32 := if x < y then y else x
def own_ap (l0 l1 o0 o1 : Int32) : Int32 := if l1 < o0 then 1 else if o1 < l0 then 1 else 0
theorem own_b53 (x : Int32) : B53 x.toInt64 := by
  have := c_i2l x; have r := rng32 x
  unfold B53; omega
theorem own_cmp (x y : Int32) (o : CmpOp) : cmpValue (FP.dcmp (FP.i2d x) (FP.i2d y)) o = lcmpW x.toInt64 y.toInt64 := by
  rw [i2d_w, i2d_w]; exact dcmpV_w (own_b53 x) (own_b53 y) o
theorem own_l2 (x y : Int32) : lcmpW x.toInt64 y.toInt64 < (0 : Int32) ↔ x < y := by
  rw [lw_lt, Int64.lt_iff_toInt_lt, Int32.lt_iff_toInt_lt, c_i2l, c_i2l]
theorem own_same (a b c d : Int32) : own_ap (own_min a b) (own_max a b) (own_min c d) (own_max c d) = if own_min (own_max a b) (own_max c d) < own_max (own_min a b) (own_min c d) then 1 else 0 := by
  have h1 : (own_min a b).toInt ≤ (own_max a b).toInt := by
    unfold own_min own_max
    by_cases h : a < b <;> by_cases h' : b < a <;> simp only [h, h', if_true, if_false] <;> rw [Int32.lt_iff_toInt_lt] at h h' <;> omega
  have h2 : (own_min c d).toInt ≤ (own_max c d).toInt := by
    unfold own_min own_max
    by_cases h : c < d <;> by_cases h' : d < c <;> simp only [h, h', if_true, if_false] <;> rw [Int32.lt_iff_toInt_lt] at h h' <;> omega
  generalize own_min a b = l0 at *
  generalize own_max a b = l1 at *
  generalize own_min c d = o0 at *
  generalize own_max c d = o1 at *
  unfold own_ap own_min own_max
  by_cases q1 : l1 < o0 <;> by_cases q2 : o1 < l0 <;> by_cases q3 : o1 < l1 <;> by_cases q4 : l0 < o0 <;> simp only [q1, q2, q3, q4, if_true, if_false] <;>
    simp only [Int32.lt_iff_toInt_lt] at * <;> first | rfl | (rw [if_pos (by omega)]) | (rw [if_neg (by omega)]) | (exfalso; omega)
theorem own_m3 (x : Int32) : x &&& 3 = 0 ∨ x &&& 3 = 1 ∨ x &&& 3 = 2 ∨ x &&& 3 = 3 := by
  have e := c_mask x 3 2 (by decide) (by decide)
  have q : (x &&& 3).toInt = (0 : Int32).toInt ∨ (x &&& 3).toInt = (1 : Int32).toInt ∨ (x &&& 3).toInt = (2 : Int32).toInt ∨ (x &&& 3).toInt = (3 : Int32).toInt := by
    show _ = 0 ∨ _ = 1 ∨ _ = 2 ∨ _ = 3
    rw [e]; have : ((2 ^ 2 : Nat) : Int) = 4 := rfl
    omega
  rcases q with q | q | q | q
  · exact Or.inl (Int32.toInt_inj.mp q)
  · exact Or.inr (Or.inl (Int32.toInt_inj.mp q))
  · exact Or.inr (Or.inr (Or.inl (Int32.toInt_inj.mp q)))
  · exact Or.inr (Or.inr (Or.inr (Int32.toInt_inj.mp q)))
theorem own_in {q : Int32} (c : q = 0 ∨ q = 1 ∨ q = 2 ∨ q = 3) : (¬ q < 0 ∧ q < 5) ∧ (¬ (q + (1 : Int32)) < 0 ∧ (q + (1 : Int32)) < 5) ∧ q.toNatClampNeg < 5 ∧ (q + (1 : Int32)).toNatClampNeg < 5 := by
  rcases c with rfl | rfl | rfl | rfl <;> decide
theorem own_two {q : Int32} (c : q = 0 ∨ q = 1 ∨ q = 2 ∨ q = 3) (f x y d : Value) : (([f, f, f, f, f].set q.toNatClampNeg x).set (q + (1 : Int32)).toNatClampNeg y).getD q.toNatClampNeg d = x ∧ (([f, f, f, f, f].set q.toNatClampNeg x).set (q + (1 : Int32)).toNatClampNeg y).getD (q + (1 : Int32)).toNatClampNeg d = y := by
  rcases c with rfl | rfl | rfl | rfl <;> exact ⟨rfl, rfl⟩
theorem own_d_jdk_29_method_69_code_0 : decode jdk_29_method_69_code 0 = .ok (.iload_n 0, 1) := by decide +kernel
theorem own_d_jdk_29_method_69_code_1 : decode jdk_29_method_69_code 1 = .ok (.iload_n 1, 1) := by decide +kernel
theorem own_d_jdk_29_method_69_code_2 : decode jdk_29_method_69_code 2 = .ok (.if_icmp .gt 7, 3) := by decide +kernel
theorem own_d_jdk_29_method_69_code_9 : decode jdk_29_method_69_code 9 = .ok (.iload_n 1, 1) := by decide +kernel
theorem own_d_jdk_29_method_69_code_10 : decode jdk_29_method_69_code 10 = .ok (.ireturn, 1) := by decide +kernel
theorem own_d_jdk_29_method_69_code_5 : decode jdk_29_method_69_code 5 = .ok (.iload_n 0, 1) := by decide +kernel
theorem own_d_jdk_29_method_69_code_6 : decode jdk_29_method_69_code 6 = .ok (.goto 4, 3) := by decide +kernel
theorem own_ef_min (m : MethodId) (x0 : Int32) (x1 : Int32) : entryFrame m #[(.int x0), (.int x1)] 2 = mkF m 0 #[.val (.int x0), .val (.int x1)] [] := by first | (simp [entryFrame, mkF, argsToLocals, Value.category]; done) | rfl
def own_Q_min (Z : State) (px : Int32) (py : Int32)  (h0 : Heap) (n0 : Nat) (v : Option Value) (h : Heap) (L : List Loc) : Prop := v = some (.int (own_min px py)) ∧ Fr n0 L ∧ h = h0
set_option maxRecDepth 65536 in
set_option maxHeartbeats 40000000 in
theorem own_rm_min (l : Launch) (Z : State) (a0 : Array Value) (hw : ∀ d ∈ tables_1, d.before a0 Z = true) (ws : List Jvm.Cond) (px : Int32) (py : Int32)  (h0 : Heap) (n0 : Nat) (Z0 : n0 ≤ h0.size) :
    MetFree l (⟨"java/lang/Math", "min", "(II)I"⟩ : MethodName) (head1 (Jvm.Cond.code (⟨"java/lang/Math", "min", "(II)I"⟩ : MethodName) jdk_29_method_69_code 2 (some .int) :: ws) ({ frames := 0, cells := 0, slots := 0, locals := 0 } : Room)) (fun a U => a = #[(.int px), (.int py)] ∧ Z.Warmed39 U.vm ∧ U.heap = h0) (fun _ _ _ _ _ => True) (fun _ U o U' => ∃ v L, o = .returned v ∧ own_Q_min Z px py h0 n0 v U'.heap L ∧ FrameEnd U o U' L ({ frames := 0, cells := 0, slots := 0, locals := 0 } : Room).cells ({ frames := 0, cells := 0, slots := 0, locals := 0 } : Room).slots) := by
  refine MetFree.of_bodySF (Jvm.Free.JP.mathPlain rfl (by decide +kernel)) hisR ?_
  intro p e s m args below meth c s₁ Bd hml0 hP hKq_
  obtain ⟨rfl, hZ, hh⟩ := hP
  have hx := Bd.exec
  have hby := Bd.bytes
  have hml : c.maxLocals = 2 := hml0
  have hown : s.vm.findClass "java/lang/Math" = some m.cls := findClass_of_methodNamed Bd.named
  have hnm := (name_of_methodNamed Bd.named Bd.method).1
  have X0 : Stand p l e ({ frames := 0, cells := 0, slots := 0, locals := 0 } : Room) s m #[(.int px), (.int py)] below meth c s₁ [] 0 0 := Stand.of_body Bd
  have e0 : s₁.heap = h0 := by rw [← hh, Bd.state]; rfl
  have N0 := Fr.nil n0
  have pre0 : ∀ t, Steps p.tables e below (s₁.setTop (mkF m 0 #[.val (.int px), .val (.int py)] [])) t → Steps p.tables e below (s₁.setTop (entryFrame m #[(.int px), (.int py)] 2)) t := fun t k => castTop (own_ef_min m px py) k
  refine own_go pre0 ?_
  refine own_abs ?_
  intro Pf hPf
  have k1 : ∀ t, Steps p.tables e below (s₁.setTop (mkF m 2 #[.val (.int px), .val (.int py)] [(.int py), (.int px)])) t → Steps p.tables e below (s₁.setTop (mkF m 0 #[.val (.int px), .val (.int py)] [])) t := fun t k => by
    refine XS.iloadN X0.here hx rfl (hb hby own_d_jdk_29_method_69_code_0) rfl ?_
    show Steps p.tables e below (s₁.setTop (mkF m 1 #[.val (.int px), .val (.int py)] [(.int px)])) _
    refine XS.iloadN X0.here hx rfl (hb hby own_d_jdk_29_method_69_code_1) rfl ?_
    show Steps p.tables e below (s₁.setTop (mkF m 2 #[.val (.int px), .val (.int py)] [(.int py), (.int px)])) _
    exact k
  refine own_go k1 ?_
  clear k1
  by_cases hc2_2 : py < px
  · skip
    have k3 : ∀ t, Steps p.tables e below (s₁.setTop (mkF m 10 #[.val (.int px), .val (.int py)] [(.int py)])) t → Steps p.tables e below (s₁.setTop (mkF m 2 #[.val (.int px), .val (.int py)] [(.int py), (.int px)])) t := fun t k => by
      refine XS.icmpYes X0.here hx rfl (pc0 := 2) (pc' := 9) rfl (hb hby own_d_jdk_29_method_69_code_2) rfl (tlt hc2_2).2.2.1 (by decide) (by decide) ?_
      show Steps p.tables e below (s₁.setTop (mkF m 9 #[.val (.int px), .val (.int py)] [])) _
      refine XS.iloadN X0.here hx rfl (hb hby own_d_jdk_29_method_69_code_9) rfl ?_
      show Steps p.tables e below (s₁.setTop (mkF m 10 #[.val (.int px), .val (.int py)] [(.int py)])) _
      exact k
    refine own_go k3 ?_
    clear k3
    obtain ⟨fs, hr, hrun, hended, hW, hsame⟩ := X0.leave (v := some (.int py)) (fun h => by rw [Bd.returns] at h; cases h)
    refine ⟨_, _, retOut X0 hx Bd.returns rfl (Or.inl ⟨rfl, Or.inl rfl, _, rfl⟩) (hb hby own_d_jdk_29_method_69_code_10) hr, hPf _ _ ⟨hrun, hended, _, _, rfl, ?_, ⟨_, rfl⟩, hW, hsame.mono (by decide) (by decide)⟩⟩
    show own_Q_min Z px py h0 n0 _ s₁.heap _
    rw [e0]
    exact ⟨by unfold own_min; rw [if_pos hc2_2], N0, rfl⟩
  · skip
    have k4 : ∀ t, Steps p.tables e below (s₁.setTop (mkF m 10 #[.val (.int px), .val (.int py)] [(.int px)])) t → Steps p.tables e below (s₁.setTop (mkF m 2 #[.val (.int px), .val (.int py)] [(.int py), (.int px)])) t := fun t k => by
      refine XS.icmpNo X0.here hx rfl (hb hby own_d_jdk_29_method_69_code_2) rfl (flt hc2_2).2.2.1 ?_
      show Steps p.tables e below (s₁.setTop (mkF m 5 #[.val (.int px), .val (.int py)] [])) _
      refine XS.iloadN X0.here hx rfl (hb hby own_d_jdk_29_method_69_code_5) rfl ?_
      show Steps p.tables e below (s₁.setTop (mkF m 6 #[.val (.int px), .val (.int py)] [(.int px)])) _
      refine XS.goto X0.here hx rfl (pc0 := 6) (pc' := 10) rfl (hb hby own_d_jdk_29_method_69_code_6) (by decide) (by decide) ?_
      show Steps p.tables e below (s₁.setTop (mkF m 10 #[.val (.int px), .val (.int py)] [(.int px)])) _
      exact k
    refine own_go k4 ?_
    clear k4
    obtain ⟨fs, hr, hrun, hended, hW, hsame⟩ := X0.leave (v := some (.int px)) (fun h => by rw [Bd.returns] at h; cases h)
    refine ⟨_, _, retOut X0 hx Bd.returns rfl (Or.inl ⟨rfl, Or.inl rfl, _, rfl⟩) (hb hby own_d_jdk_29_method_69_code_10) hr, hPf _ _ ⟨hrun, hended, _, _, rfl, ?_, ⟨_, rfl⟩, hW, hsame.mono (by decide) (by decide)⟩⟩
    show own_Q_min Z px py h0 n0 _ s₁.heap _
    rw [e0]
    exact ⟨by unfold own_min; rw [if_neg hc2_2], N0, rfl⟩
theorem own_d_jdk_29_method_65_code_0 : decode jdk_29_method_65_code 0 = .ok (.iload_n 0, 1) := by decide +kernel
theorem own_d_jdk_29_method_65_code_1 : decode jdk_29_method_65_code 1 = .ok (.iload_n 1, 1) := by decide +kernel
theorem own_d_jdk_29_method_65_code_2 : decode jdk_29_method_65_code 2 = .ok (.if_icmp .lt 7, 3) := by decide +kernel
theorem own_d_jdk_29_method_65_code_9 : decode jdk_29_method_65_code 9 = .ok (.iload_n 1, 1) := by decide +kernel
theorem own_d_jdk_29_method_65_code_10 : decode jdk_29_method_65_code 10 = .ok (.ireturn, 1) := by decide +kernel
theorem own_d_jdk_29_method_65_code_5 : decode jdk_29_method_65_code 5 = .ok (.iload_n 0, 1) := by decide +kernel
theorem own_d_jdk_29_method_65_code_6 : decode jdk_29_method_65_code 6 = .ok (.goto 4, 3) := by decide +kernel
theorem own_ef_max (m : MethodId) (x0 : Int32) (x1 : Int32) : entryFrame m #[(.int x0), (.int x1)] 2 = mkF m 0 #[.val (.int x0), .val (.int x1)] [] := by first | (simp [entryFrame, mkF, argsToLocals, Value.category]; done) | rfl
def own_Q_max (Z : State) (px : Int32) (py : Int32)  (h0 : Heap) (n0 : Nat) (v : Option Value) (h : Heap) (L : List Loc) : Prop := v = some (.int (own_max px py)) ∧ Fr n0 L ∧ h = h0
set_option maxRecDepth 65536 in
set_option maxHeartbeats 40000000 in
theorem own_rm_max (l : Launch) (Z : State) (a0 : Array Value) (hw : ∀ d ∈ tables_1, d.before a0 Z = true) (ws : List Jvm.Cond) (px : Int32) (py : Int32)  (h0 : Heap) (n0 : Nat) (Z0 : n0 ≤ h0.size) :
    MetFree l (⟨"java/lang/Math", "max", "(II)I"⟩ : MethodName) (head1 (Jvm.Cond.code (⟨"java/lang/Math", "max", "(II)I"⟩ : MethodName) jdk_29_method_65_code 2 (some .int) :: ws) ({ frames := 0, cells := 0, slots := 0, locals := 0 } : Room)) (fun a U => a = #[(.int px), (.int py)] ∧ Z.Warmed39 U.vm ∧ U.heap = h0) (fun _ _ _ _ _ => True) (fun _ U o U' => ∃ v L, o = .returned v ∧ own_Q_max Z px py h0 n0 v U'.heap L ∧ FrameEnd U o U' L ({ frames := 0, cells := 0, slots := 0, locals := 0 } : Room).cells ({ frames := 0, cells := 0, slots := 0, locals := 0 } : Room).slots) := by
  refine MetFree.of_bodySF (Jvm.Free.JP.mathPlain rfl (by decide +kernel)) hisR ?_
  intro p e s m args below meth c s₁ Bd hml0 hP hKq_
  obtain ⟨rfl, hZ, hh⟩ := hP
  have hx := Bd.exec
  have hby := Bd.bytes
  have hml : c.maxLocals = 2 := hml0
  have hown : s.vm.findClass "java/lang/Math" = some m.cls := findClass_of_methodNamed Bd.named
  have hnm := (name_of_methodNamed Bd.named Bd.method).1
  have X0 : Stand p l e ({ frames := 0, cells := 0, slots := 0, locals := 0 } : Room) s m #[(.int px), (.int py)] below meth c s₁ [] 0 0 := Stand.of_body Bd
  have e0 : s₁.heap = h0 := by rw [← hh, Bd.state]; rfl
  have N0 := Fr.nil n0
  have pre0 : ∀ t, Steps p.tables e below (s₁.setTop (mkF m 0 #[.val (.int px), .val (.int py)] [])) t → Steps p.tables e below (s₁.setTop (entryFrame m #[(.int px), (.int py)] 2)) t := fun t k => castTop (own_ef_max m px py) k
  refine own_go pre0 ?_
  refine own_abs ?_
  intro Pf hPf
  have k1 : ∀ t, Steps p.tables e below (s₁.setTop (mkF m 2 #[.val (.int px), .val (.int py)] [(.int py), (.int px)])) t → Steps p.tables e below (s₁.setTop (mkF m 0 #[.val (.int px), .val (.int py)] [])) t := fun t k => by
    refine XS.iloadN X0.here hx rfl (hb hby own_d_jdk_29_method_65_code_0) rfl ?_
    show Steps p.tables e below (s₁.setTop (mkF m 1 #[.val (.int px), .val (.int py)] [(.int px)])) _
    refine XS.iloadN X0.here hx rfl (hb hby own_d_jdk_29_method_65_code_1) rfl ?_
    show Steps p.tables e below (s₁.setTop (mkF m 2 #[.val (.int px), .val (.int py)] [(.int py), (.int px)])) _
    exact k
  refine own_go k1 ?_
  clear k1
  by_cases hc2_2 : px < py
  · skip
    have k3 : ∀ t, Steps p.tables e below (s₁.setTop (mkF m 10 #[.val (.int px), .val (.int py)] [(.int py)])) t → Steps p.tables e below (s₁.setTop (mkF m 2 #[.val (.int px), .val (.int py)] [(.int py), (.int px)])) t := fun t k => by
      refine XS.icmpYes X0.here hx rfl (pc0 := 2) (pc' := 9) rfl (hb hby own_d_jdk_29_method_65_code_2) rfl (tlt hc2_2).1 (by decide) (by decide) ?_
      show Steps p.tables e below (s₁.setTop (mkF m 9 #[.val (.int px), .val (.int py)] [])) _
      refine XS.iloadN X0.here hx rfl (hb hby own_d_jdk_29_method_65_code_9) rfl ?_
      show Steps p.tables e below (s₁.setTop (mkF m 10 #[.val (.int px), .val (.int py)] [(.int py)])) _
      exact k
    refine own_go k3 ?_
    clear k3
    obtain ⟨fs, hr, hrun, hended, hW, hsame⟩ := X0.leave (v := some (.int py)) (fun h => by rw [Bd.returns] at h; cases h)
    refine ⟨_, _, retOut X0 hx Bd.returns rfl (Or.inl ⟨rfl, Or.inl rfl, _, rfl⟩) (hb hby own_d_jdk_29_method_65_code_10) hr, hPf _ _ ⟨hrun, hended, _, _, rfl, ?_, ⟨_, rfl⟩, hW, hsame.mono (by decide) (by decide)⟩⟩
    show own_Q_max Z px py h0 n0 _ s₁.heap _
    rw [e0]
    exact ⟨by unfold own_max; rw [if_pos hc2_2], N0, rfl⟩
  · skip
    have k4 : ∀ t, Steps p.tables e below (s₁.setTop (mkF m 10 #[.val (.int px), .val (.int py)] [(.int px)])) t → Steps p.tables e below (s₁.setTop (mkF m 2 #[.val (.int px), .val (.int py)] [(.int py), (.int px)])) t := fun t k => by
      refine XS.icmpNo X0.here hx rfl (hb hby own_d_jdk_29_method_65_code_2) rfl (flt hc2_2).1 ?_
      show Steps p.tables e below (s₁.setTop (mkF m 5 #[.val (.int px), .val (.int py)] [])) _
      refine XS.iloadN X0.here hx rfl (hb hby own_d_jdk_29_method_65_code_5) rfl ?_
      show Steps p.tables e below (s₁.setTop (mkF m 6 #[.val (.int px), .val (.int py)] [(.int px)])) _
      refine XS.goto X0.here hx rfl (pc0 := 6) (pc' := 10) rfl (hb hby own_d_jdk_29_method_65_code_6) (by decide) (by decide) ?_
      show Steps p.tables e below (s₁.setTop (mkF m 10 #[.val (.int px), .val (.int py)] [(.int px)])) _
      exact k
    refine own_go k4 ?_
    clear k4
    obtain ⟨fs, hr, hrun, hended, hW, hsame⟩ := X0.leave (v := some (.int px)) (fun h => by rw [Bd.returns] at h; cases h)
    refine ⟨_, _, retOut X0 hx Bd.returns rfl (Or.inl ⟨rfl, Or.inl rfl, _, rfl⟩) (hb hby own_d_jdk_29_method_65_code_10) hr, hPf _ _ ⟨hrun, hended, _, _, rfl, ?_, ⟨_, rfl⟩, hW, hsame.mono (by decide) (by decide)⟩⟩
    show own_Q_max Z px py h0 n0 _ s₁.heap _
    rw [e0]
    exact ⟨by unfold own_max; rw [if_neg hc2_2], N0, rfl⟩
theorem own_d_prog_16_method_12_code_0 : decode prog_16_method_12_code 0 = .ok (.aload_n 0, 1) := by decide +kernel
theorem own_d_prog_16_method_12_code_1 : decode prog_16_method_12_code 1 = .ok (.iload_n 1, 1) := by decide +kernel
theorem own_d_prog_16_method_12_code_2 : decode prog_16_method_12_code 2 = .ok (.iconst 1, 1) := by decide +kernel
theorem own_d_prog_16_method_12_code_3 : decode prog_16_method_12_code 3 = .ok (.iadd, 1) := by decide +kernel
theorem own_d_prog_16_method_12_code_4 : decode prog_16_method_12_code 4 = .ok (.daload, 1) := by decide +kernel
theorem own_d_prog_16_method_12_code_5 : decode prog_16_method_12_code 5 = .ok (.aload_n 2, 1) := by decide +kernel
theorem own_d_prog_16_method_12_code_6 : decode prog_16_method_12_code 6 = .ok (.iload_n 3, 1) := by decide +kernel
theorem own_d_prog_16_method_12_code_7 : decode prog_16_method_12_code 7 = .ok (.daload, 1) := by decide +kernel
theorem own_d_prog_16_method_12_code_8 : decode prog_16_method_12_code 8 = .ok (.dcmp .g, 1) := by decide +kernel
theorem own_d_prog_16_method_12_code_9 : decode prog_16_method_12_code 9 = .ok (.ifCond .lt 15, 3) := by decide +kernel
theorem own_d_prog_16_method_12_code_24 : decode prog_16_method_12_code 24 = .ok (.iconst 1, 1) := by decide +kernel
theorem own_d_prog_16_method_12_code_25 : decode prog_16_method_12_code 25 = .ok (.goto 4, 3) := by decide +kernel
theorem own_d_prog_16_method_12_code_29 : decode prog_16_method_12_code 29 = .ok (.ireturn, 1) := by decide +kernel
theorem own_d_prog_16_method_12_code_12 : decode prog_16_method_12_code 12 = .ok (.aload_n 2, 1) := by decide +kernel
theorem own_d_prog_16_method_12_code_13 : decode prog_16_method_12_code 13 = .ok (.iload_n 3, 1) := by decide +kernel
theorem own_d_prog_16_method_12_code_14 : decode prog_16_method_12_code 14 = .ok (.iconst 1, 1) := by decide +kernel
theorem own_d_prog_16_method_12_code_15 : decode prog_16_method_12_code 15 = .ok (.iadd, 1) := by decide +kernel
theorem own_d_prog_16_method_12_code_16 : decode prog_16_method_12_code 16 = .ok (.daload, 1) := by decide +kernel
theorem own_d_prog_16_method_12_code_17 : decode prog_16_method_12_code 17 = .ok (.aload_n 0, 1) := by decide +kernel
theorem own_d_prog_16_method_12_code_18 : decode prog_16_method_12_code 18 = .ok (.iload_n 1, 1) := by decide +kernel
theorem own_d_prog_16_method_12_code_19 : decode prog_16_method_12_code 19 = .ok (.daload, 1) := by decide +kernel
theorem own_d_prog_16_method_12_code_20 : decode prog_16_method_12_code 20 = .ok (.dcmp .g, 1) := by decide +kernel
theorem own_d_prog_16_method_12_code_21 : decode prog_16_method_12_code 21 = .ok (.ifCond .ge 7, 3) := by decide +kernel
theorem own_d_prog_16_method_12_code_28 : decode prog_16_method_12_code 28 = .ok (.iconst 0, 1) := by decide +kernel
theorem own_ef_apart (m : MethodId) (x0 : Addr) (x1 : Int32) (x2 : Addr) (x3 : Int32) : entryFrame m #[(.ref x0), (.int x1), (.ref x2), (.int x3)] 4 = mkF m 0 #[.val (.ref x0), .val (.int x1), .val (.ref x2), .val (.int x3)] [] := by first | (simp [entryFrame, mkF, argsToLocals, Value.category]; done) | rfl
def own_Q_apart (Z : State) (pa : Addr) (qi : Int32) (pb : Addr) (qj : Int32) (ck cj : ClassId) (vl vo : List Value) (l0 l1 o0 o1 : Int32) (h0 : Heap) (n0 : Nat) (v : Option Value) (h : Heap) (L : List Loc) : Prop := v = some (.int (own_ap l0 l1 o0 o1)) ∧ Fr n0 L ∧ h = h0
theorem own_pn_com_example_chronopath_chronopath_network_ArrivalLine : plainName "com/example/chronopath/chronopath/network/ArrivalLine" = true := by first | (simp [plainName, overriddenIn]; done) | decide +kernel
set_option maxRecDepth 65536 in
set_option maxHeartbeats 40000000 in
theorem own_rm_apart (l : Launch) (Z : State) (a0 : Array Value) (hw : ∀ d ∈ tables_1, d.before a0 Z = true) (ws : List Jvm.Cond) (pa : Addr) (qi : Int32) (pb : Addr) (qj : Int32) (ck cj : ClassId) (vl vo : List Value) (l0 l1 o0 o1 : Int32) (h0 : Heap) (n0 : Nat) (Z0 : n0 ≤ h0.size) (V0 : Arv Z h0 pa ck .double (5 : Int32) vl (.double (0 : UInt64))) (V1 : Arv Z h0 pb cj .double (5 : Int32) vo (.double (0 : UInt64))) (b0 : ¬ qi < 0 ∧ qi < 5) (b1 : ¬ (qi + (1 : Int32)) < 0 ∧ (qi + (1 : Int32)) < 5) (b2 : ¬ qj < 0 ∧ qj < 5) (b3 : ¬ (qj + (1 : Int32)) < 0 ∧ (qj + (1 : Int32)) < 5) (e0' : vl.getD qi.toNatClampNeg (.double (0 : UInt64)) = .double (FP.i2d l0)) (e1' : vl.getD (qi + (1 : Int32)).toNatClampNeg (.double (0 : UInt64)) = .double (FP.i2d l1)) (e2' : vo.getD qj.toNatClampNeg (.double (0 : UInt64)) = .double (FP.i2d o0)) (e3' : vo.getD (qj + (1 : Int32)).toNatClampNeg (.double (0 : UInt64)) = .double (FP.i2d o1)) :
    MetFree l (⟨"com/example/chronopath/chronopath/network/ArrivalLine", "slopesApart", "([DI[DI)Z"⟩ : MethodName) (head1 (Jvm.Cond.code (⟨"com/example/chronopath/chronopath/network/ArrivalLine", "slopesApart", "([DI[DI)Z"⟩ : MethodName) prog_16_method_12_code 4 (some .boolean) :: ws) ({ frames := 0, cells := 0, slots := 0, locals := 0 } : Room)) (fun a U => a = #[(.ref pa), (.int qi), (.ref pb), (.int qj)] ∧ Z.Warmed39 U.vm ∧ U.heap = h0) (fun _ _ _ _ _ => True) (fun _ U o U' => ∃ v L, o = .returned v ∧ own_Q_apart Z pa qi pb qj ck cj vl vo l0 l1 o0 o1 h0 n0 v U'.heap L ∧ FrameEnd U o U' L ({ frames := 0, cells := 0, slots := 0, locals := 0 } : Room).cells ({ frames := 0, cells := 0, slots := 0, locals := 0 } : Room).slots) := by
  refine MetFree.of_bodySF (plainFor_of_name own_pn_com_example_chronopath_chronopath_network_ArrivalLine) hisR ?_
  intro p e s m args below meth c s₁ Bd hml0 hP hKq_
  obtain ⟨rfl, hZ, hh⟩ := hP
  have hx := Bd.exec
  have hby := Bd.bytes
  have hml : c.maxLocals = 4 := hml0
  have hown : s.vm.findClass "com/example/chronopath/chronopath/network/ArrivalLine" = some m.cls := findClass_of_methodNamed Bd.named
  have hnm := (name_of_methodNamed Bd.named Bd.method).1
  have X0 : Stand p l e ({ frames := 0, cells := 0, slots := 0, locals := 0 } : Room) s m #[(.ref pa), (.int qi), (.ref pb), (.int qj)] below meth c s₁ [] 0 0 := Stand.of_body Bd
  have e0 : s₁.heap = h0 := by rw [← hh, Bd.state]; rfl
  have N0 := Fr.nil n0
  have pre0 : ∀ t, Steps p.tables e below (s₁.setTop (mkF m 0 #[.val (.ref pa), .val (.int qi), .val (.ref pb), .val (.int qj)] [])) t → Steps p.tables e below (s₁.setTop (entryFrame m #[(.ref pa), (.int qi), (.ref pb), (.int qj)] 4)) t := fun t k => castTop (own_ef_apart m pa qi pb qj) k
  refine own_go pre0 ?_
  refine own_abs ?_
  intro Pf hPf
  have k1 : ∀ t, Steps p.tables e below (s₁.setTop (mkF m 4 #[.val (.ref pa), .val (.int qi), .val (.ref pb), .val (.int qj)] [(.int (qi + (1 : Int32))), (.ref pa)])) t → Steps p.tables e below (s₁.setTop (mkF m 0 #[.val (.ref pa), .val (.int qi), .val (.ref pb), .val (.int qj)] [])) t := fun t k => by
    refine XS.aloadN X0.here hx rfl (hb hby own_d_prog_16_method_12_code_0) rfl rfl ?_
    show Steps p.tables e below (s₁.setTop (mkF m 1 #[.val (.ref pa), .val (.int qi), .val (.ref pb), .val (.int qj)] [(.ref pa)])) _
    refine XS.iloadN X0.here hx rfl (hb hby own_d_prog_16_method_12_code_1) rfl ?_
    show Steps p.tables e below (s₁.setTop (mkF m 2 #[.val (.ref pa), .val (.int qi), .val (.ref pb), .val (.int qj)] [(.int qi), (.ref pa)])) _
    refine XS.iconst X0.here hx rfl (hb hby own_d_prog_16_method_12_code_2) ?_
    show Steps p.tables e below (s₁.setTop (mkF m 3 #[.val (.ref pa), .val (.int qi), .val (.ref pb), .val (.int qj)] [(.int (1 : Int32)), (.int qi), (.ref pa)])) _
    refine XS.iadd X0.here hx rfl (hb hby own_d_prog_16_method_12_code_3) rfl ?_
    show Steps p.tables e below (s₁.setTop (mkF m 4 #[.val (.ref pa), .val (.int qi), .val (.ref pb), .val (.int qj)] [(.int (qi + (1 : Int32))), (.ref pa)])) _
    exact k
  refine own_go k1 ?_
  clear k1
  obtain ⟨cl2, Ar2, -, S2, -, H2, -⟩ := id (V0)
  have hi2 : ¬ ((qi + (1 : Int32)) < 0 ∨ cl2.slots.size ≤ ((qi + (1 : Int32))).toNatClampNeg) := inb_of S2 b1
  have hv2 : cl2.slots[((qi + (1 : Int32))).toNatClampNeg]? = some (.double (FP.i2d l1)) := H2.at hi2 e1'
  have k3 : ∀ t, Steps p.tables e below (s₁.setTop (mkF m 7 #[.val (.ref pa), .val (.int qi), .val (.ref pb), .val (.int qj)] [(.int qj), (.ref pb), (.double (FP.i2d l1))])) t → Steps p.tables e below (s₁.setTop (mkF m 4 #[.val (.ref pa), .val (.int qi), .val (.ref pb), .val (.int qj)] [(.int (qi + (1 : Int32))), (.ref pa)])) t := fun t k => by
    refine X0.daload hx (j := (qi + (1 : Int32))) (v := (.double (FP.i2d l1))) (by rw [e0]; exact Ar2.1) (State.isArrayOf_alike hZ.alike Ar2.2.1) Ar2.2.2 hi2 hv2 (g := (mkF m 4 #[.val (.ref pa), .val (.int qi), .val (.ref pb), .val (.int qj)] [(.int (qi + (1 : Int32))), (.ref pa)])) rfl rfl (hb hby own_d_prog_16_method_12_code_4) _ ?_
    show Steps p.tables e below (s₁.setTop (mkF m 5 #[.val (.ref pa), .val (.int qi), .val (.ref pb), .val (.int qj)] [(.double (FP.i2d l1))])) _
    refine XS.aloadN X0.here hx rfl (hb hby own_d_prog_16_method_12_code_5) rfl rfl ?_
    show Steps p.tables e below (s₁.setTop (mkF m 6 #[.val (.ref pa), .val (.int qi), .val (.ref pb), .val (.int qj)] [(.ref pb), (.double (FP.i2d l1))])) _
    refine XS.iloadN X0.here hx rfl (hb hby own_d_prog_16_method_12_code_6) rfl ?_
    show Steps p.tables e below (s₁.setTop (mkF m 7 #[.val (.ref pa), .val (.int qi), .val (.ref pb), .val (.int qj)] [(.int qj), (.ref pb), (.double (FP.i2d l1))])) _
    exact k
  refine own_go k3 ?_
  clear k3
  obtain ⟨cl4, Ar4, -, S4, -, H4, -⟩ := id (V1)
  have hi4 : ¬ (qj < 0 ∨ cl4.slots.size ≤ (qj).toNatClampNeg) := inb_of S4 b2
  have hv4 : cl4.slots[(qj).toNatClampNeg]? = some (.double (FP.i2d o0)) := H4.at hi4 e2'
  have k5 : ∀ t, Steps p.tables e below (s₁.setTop (mkF m 9 #[.val (.ref pa), .val (.int qi), .val (.ref pb), .val (.int qj)] [(.int (lcmpW l1.toInt64 o0.toInt64))])) t → Steps p.tables e below (s₁.setTop (mkF m 7 #[.val (.ref pa), .val (.int qi), .val (.ref pb), .val (.int qj)] [(.int qj), (.ref pb), (.double (FP.i2d l1))])) t := fun t k => by
    refine X0.daload hx (j := qj) (v := (.double (FP.i2d o0))) (by rw [e0]; exact Ar4.1) (State.isArrayOf_alike hZ.alike Ar4.2.1) Ar4.2.2 hi4 hv4 (g := (mkF m 7 #[.val (.ref pa), .val (.int qi), .val (.ref pb), .val (.int qj)] [(.int qj), (.ref pb), (.double (FP.i2d l1))])) rfl rfl (hb hby own_d_prog_16_method_12_code_7) _ ?_
    show Steps p.tables e below (s₁.setTop (mkF m 8 #[.val (.ref pa), .val (.int qi), .val (.ref pb), .val (.int qj)] [(.double (FP.i2d o0)), (.double (FP.i2d l1))])) _
    refine XS.dcmpS X0.here hx rfl (hb hby own_d_prog_16_method_12_code_8) rfl (own_cmp l1 o0 _) ?_
    show Steps p.tables e below (s₁.setTop (mkF m 9 #[.val (.ref pa), .val (.int qi), .val (.ref pb), .val (.int qj)] [(.int (lcmpW l1.toInt64 o0.toInt64))])) _
    exact k
  refine own_go k5 ?_
  clear k5
  by_cases hc9_6 : (lcmpW l1.toInt64 o0.toInt64) < (0 : Int32)
  · skip
    have k7 : ∀ t, Steps p.tables e below (s₁.setTop (mkF m 29 #[.val (.ref pa), .val (.int qi), .val (.ref pb), .val (.int qj)] [(.int (1 : Int32))])) t → Steps p.tables e below (s₁.setTop (mkF m 9 #[.val (.ref pa), .val (.int qi), .val (.ref pb), .val (.int qj)] [(.int (lcmpW l1.toInt64 o0.toInt64))])) t := fun t k => by
      refine XS.ifYes X0.here hx rfl (pc0 := 9) (pc' := 24) rfl (hb hby own_d_prog_16_method_12_code_9) rfl ((if0 _ _).trans (tlt hc9_6).1) (by decide) (by decide) ?_
      show Steps p.tables e below (s₁.setTop (mkF m 24 #[.val (.ref pa), .val (.int qi), .val (.ref pb), .val (.int qj)] [])) _
      refine XS.iconst X0.here hx rfl (hb hby own_d_prog_16_method_12_code_24) ?_
      show Steps p.tables e below (s₁.setTop (mkF m 25 #[.val (.ref pa), .val (.int qi), .val (.ref pb), .val (.int qj)] [(.int (1 : Int32))])) _
      refine XS.goto X0.here hx rfl (pc0 := 25) (pc' := 29) rfl (hb hby own_d_prog_16_method_12_code_25) (by decide) (by decide) ?_
      show Steps p.tables e below (s₁.setTop (mkF m 29 #[.val (.ref pa), .val (.int qi), .val (.ref pb), .val (.int qj)] [(.int (1 : Int32))])) _
      exact k
    refine own_go k7 ?_
    clear k7
    obtain ⟨fs, hr, hrun, hended, hW, hsame⟩ := X0.leave (v := some (.int (nar .boolean (1 : Int32)))) (fun h => by rw [Bd.returns] at h; cases h)
    refine ⟨_, _, retN X0 hx (t := .boolean) Bd.returns (by simp) (hb hby own_d_prog_16_method_12_code_29) hr, hPf _ _ ⟨hrun, hended, _, _, rfl, ?_, ⟨_, rfl⟩, hW, hsame.mono (by decide) (by decide)⟩⟩
    show own_Q_apart Z pa qi pb qj ck cj vl vo l0 l1 o0 o1 h0 n0 _ s₁.heap _
    rw [e0]
    exact ⟨by unfold own_ap; rw [if_pos ((own_l2 _ _).mp hc9_6)]; rfl, N0, rfl⟩
  · skip
    have k8 : ∀ t, Steps p.tables e below (s₁.setTop (mkF m 16 #[.val (.ref pa), .val (.int qi), .val (.ref pb), .val (.int qj)] [(.int (qj + (1 : Int32))), (.ref pb)])) t → Steps p.tables e below (s₁.setTop (mkF m 9 #[.val (.ref pa), .val (.int qi), .val (.ref pb), .val (.int qj)] [(.int (lcmpW l1.toInt64 o0.toInt64))])) t := fun t k => by
      refine XS.ifNo X0.here hx rfl (hb hby own_d_prog_16_method_12_code_9) rfl ((if0 _ _).trans (flt hc9_6).1) ?_
      show Steps p.tables e below (s₁.setTop (mkF m 12 #[.val (.ref pa), .val (.int qi), .val (.ref pb), .val (.int qj)] [])) _
      refine XS.aloadN X0.here hx rfl (hb hby own_d_prog_16_method_12_code_12) rfl rfl ?_
      show Steps p.tables e below (s₁.setTop (mkF m 13 #[.val (.ref pa), .val (.int qi), .val (.ref pb), .val (.int qj)] [(.ref pb)])) _
      refine XS.iloadN X0.here hx rfl (hb hby own_d_prog_16_method_12_code_13) rfl ?_
      show Steps p.tables e below (s₁.setTop (mkF m 14 #[.val (.ref pa), .val (.int qi), .val (.ref pb), .val (.int qj)] [(.int qj), (.ref pb)])) _
      refine XS.iconst X0.here hx rfl (hb hby own_d_prog_16_method_12_code_14) ?_
      show Steps p.tables e below (s₁.setTop (mkF m 15 #[.val (.ref pa), .val (.int qi), .val (.ref pb), .val (.int qj)] [(.int (1 : Int32)), (.int qj), (.ref pb)])) _
      refine XS.iadd X0.here hx rfl (hb hby own_d_prog_16_method_12_code_15) rfl ?_
      show Steps p.tables e below (s₁.setTop (mkF m 16 #[.val (.ref pa), .val (.int qi), .val (.ref pb), .val (.int qj)] [(.int (qj + (1 : Int32))), (.ref pb)])) _
      exact k
    refine own_go k8 ?_
    clear k8
    obtain ⟨cl9, Ar9, -, S9, -, H9, -⟩ := id (V1)
    have hi9 : ¬ ((qj + (1 : Int32)) < 0 ∨ cl9.slots.size ≤ ((qj + (1 : Int32))).toNatClampNeg) := inb_of S9 b3
    have hv9 : cl9.slots[((qj + (1 : Int32))).toNatClampNeg]? = some (.double (FP.i2d o1)) := H9.at hi9 e3'
    have k10 : ∀ t, Steps p.tables e below (s₁.setTop (mkF m 19 #[.val (.ref pa), .val (.int qi), .val (.ref pb), .val (.int qj)] [(.int qi), (.ref pa), (.double (FP.i2d o1))])) t → Steps p.tables e below (s₁.setTop (mkF m 16 #[.val (.ref pa), .val (.int qi), .val (.ref pb), .val (.int qj)] [(.int (qj + (1 : Int32))), (.ref pb)])) t := fun t k => by
      refine X0.daload hx (j := (qj + (1 : Int32))) (v := (.double (FP.i2d o1))) (by rw [e0]; exact Ar9.1) (State.isArrayOf_alike hZ.alike Ar9.2.1) Ar9.2.2 hi9 hv9 (g := (mkF m 16 #[.val (.ref pa), .val (.int qi), .val (.ref pb), .val (.int qj)] [(.int (qj + (1 : Int32))), (.ref pb)])) rfl rfl (hb hby own_d_prog_16_method_12_code_16) _ ?_
      show Steps p.tables e below (s₁.setTop (mkF m 17 #[.val (.ref pa), .val (.int qi), .val (.ref pb), .val (.int qj)] [(.double (FP.i2d o1))])) _
      refine XS.aloadN X0.here hx rfl (hb hby own_d_prog_16_method_12_code_17) rfl rfl ?_
      show Steps p.tables e below (s₁.setTop (mkF m 18 #[.val (.ref pa), .val (.int qi), .val (.ref pb), .val (.int qj)] [(.ref pa), (.double (FP.i2d o1))])) _
      refine XS.iloadN X0.here hx rfl (hb hby own_d_prog_16_method_12_code_18) rfl ?_
      show Steps p.tables e below (s₁.setTop (mkF m 19 #[.val (.ref pa), .val (.int qi), .val (.ref pb), .val (.int qj)] [(.int qi), (.ref pa), (.double (FP.i2d o1))])) _
      exact k
    refine own_go k10 ?_
    clear k10
    obtain ⟨cl11, Ar11, -, S11, -, H11, -⟩ := id (V0)
    have hi11 : ¬ (qi < 0 ∨ cl11.slots.size ≤ (qi).toNatClampNeg) := inb_of S11 b0
    have hv11 : cl11.slots[(qi).toNatClampNeg]? = some (.double (FP.i2d l0)) := H11.at hi11 e0'
    have k12 : ∀ t, Steps p.tables e below (s₁.setTop (mkF m 21 #[.val (.ref pa), .val (.int qi), .val (.ref pb), .val (.int qj)] [(.int (lcmpW o1.toInt64 l0.toInt64))])) t → Steps p.tables e below (s₁.setTop (mkF m 19 #[.val (.ref pa), .val (.int qi), .val (.ref pb), .val (.int qj)] [(.int qi), (.ref pa), (.double (FP.i2d o1))])) t := fun t k => by
      refine X0.daload hx (j := qi) (v := (.double (FP.i2d l0))) (by rw [e0]; exact Ar11.1) (State.isArrayOf_alike hZ.alike Ar11.2.1) Ar11.2.2 hi11 hv11 (g := (mkF m 19 #[.val (.ref pa), .val (.int qi), .val (.ref pb), .val (.int qj)] [(.int qi), (.ref pa), (.double (FP.i2d o1))])) rfl rfl (hb hby own_d_prog_16_method_12_code_19) _ ?_
      show Steps p.tables e below (s₁.setTop (mkF m 20 #[.val (.ref pa), .val (.int qi), .val (.ref pb), .val (.int qj)] [(.double (FP.i2d l0)), (.double (FP.i2d o1))])) _
      refine XS.dcmpS X0.here hx rfl (hb hby own_d_prog_16_method_12_code_20) rfl (own_cmp o1 l0 _) ?_
      show Steps p.tables e below (s₁.setTop (mkF m 21 #[.val (.ref pa), .val (.int qi), .val (.ref pb), .val (.int qj)] [(.int (lcmpW o1.toInt64 l0.toInt64))])) _
      exact k
    refine own_go k12 ?_
    clear k12
    by_cases hc21_13 : (lcmpW o1.toInt64 l0.toInt64) < (0 : Int32)
    · skip
      have k14 : ∀ t, Steps p.tables e below (s₁.setTop (mkF m 29 #[.val (.ref pa), .val (.int qi), .val (.ref pb), .val (.int qj)] [(.int (1 : Int32))])) t → Steps p.tables e below (s₁.setTop (mkF m 21 #[.val (.ref pa), .val (.int qi), .val (.ref pb), .val (.int qj)] [(.int (lcmpW o1.toInt64 l0.toInt64))])) t := fun t k => by
        refine XS.ifNo X0.here hx rfl (hb hby own_d_prog_16_method_12_code_21) rfl ((if0 _ _).trans (tlt hc21_13).2.1) ?_
        show Steps p.tables e below (s₁.setTop (mkF m 24 #[.val (.ref pa), .val (.int qi), .val (.ref pb), .val (.int qj)] [])) _
        refine XS.iconst X0.here hx rfl (hb hby own_d_prog_16_method_12_code_24) ?_
        show Steps p.tables e below (s₁.setTop (mkF m 25 #[.val (.ref pa), .val (.int qi), .val (.ref pb), .val (.int qj)] [(.int (1 : Int32))])) _
        refine XS.goto X0.here hx rfl (pc0 := 25) (pc' := 29) rfl (hb hby own_d_prog_16_method_12_code_25) (by decide) (by decide) ?_
        show Steps p.tables e below (s₁.setTop (mkF m 29 #[.val (.ref pa), .val (.int qi), .val (.ref pb), .val (.int qj)] [(.int (1 : Int32))])) _
        exact k
      refine own_go k14 ?_
      clear k14
      obtain ⟨fs, hr, hrun, hended, hW, hsame⟩ := X0.leave (v := some (.int (nar .boolean (1 : Int32)))) (fun h => by rw [Bd.returns] at h; cases h)
      refine ⟨_, _, retN X0 hx (t := .boolean) Bd.returns (by simp) (hb hby own_d_prog_16_method_12_code_29) hr, hPf _ _ ⟨hrun, hended, _, _, rfl, ?_, ⟨_, rfl⟩, hW, hsame.mono (by decide) (by decide)⟩⟩
      show own_Q_apart Z pa qi pb qj ck cj vl vo l0 l1 o0 o1 h0 n0 _ s₁.heap _
      rw [e0]
      exact ⟨by unfold own_ap; rw [if_neg (mt (own_l2 _ _).mpr hc9_6), if_pos ((own_l2 _ _).mp hc21_13)]; rfl, N0, rfl⟩
    · skip
      have k15 : ∀ t, Steps p.tables e below (s₁.setTop (mkF m 29 #[.val (.ref pa), .val (.int qi), .val (.ref pb), .val (.int qj)] [(.int (0 : Int32))])) t → Steps p.tables e below (s₁.setTop (mkF m 21 #[.val (.ref pa), .val (.int qi), .val (.ref pb), .val (.int qj)] [(.int (lcmpW o1.toInt64 l0.toInt64))])) t := fun t k => by
        refine XS.ifYes X0.here hx rfl (pc0 := 21) (pc' := 28) rfl (hb hby own_d_prog_16_method_12_code_21) rfl ((if0 _ _).trans (flt hc21_13).2.1) (by decide) (by decide) ?_
        show Steps p.tables e below (s₁.setTop (mkF m 28 #[.val (.ref pa), .val (.int qi), .val (.ref pb), .val (.int qj)] [])) _
        refine XS.iconst X0.here hx rfl (hb hby own_d_prog_16_method_12_code_28) ?_
        show Steps p.tables e below (s₁.setTop (mkF m 29 #[.val (.ref pa), .val (.int qi), .val (.ref pb), .val (.int qj)] [(.int (0 : Int32))])) _
        exact k
      refine own_go k15 ?_
      clear k15
      obtain ⟨fs, hr, hrun, hended, hW, hsame⟩ := X0.leave (v := some (.int (nar .boolean (0 : Int32)))) (fun h => by rw [Bd.returns] at h; cases h)
      refine ⟨_, _, retN X0 hx (t := .boolean) Bd.returns (by simp) (hb hby own_d_prog_16_method_12_code_29) hr, hPf _ _ ⟨hrun, hended, _, _, rfl, ?_, ⟨_, rfl⟩, hW, hsame.mono (by decide) (by decide)⟩⟩
      show own_Q_apart Z pa qi pb qj ck cj vl vo l0 l1 o0 o1 h0 n0 _ s₁.heap _
      rw [e0]
      exact ⟨by unfold own_ap; rw [if_neg (mt (own_l2 _ _).mpr hc9_6), if_neg (mt (own_l2 _ _).mpr hc21_13)]; rfl, N0, rfl⟩
theorem own_pd_28II29I : parseMethodDescriptor "(II)I" = some ⟨[.int, .int], some .int⟩ := by decide +kernel
theorem own_pd_285bDI5bDI29Z : parseMethodDescriptor "([DI[DI)Z" = some ⟨[(.array .double), .int, (.array .double), .int], some .boolean⟩ := by decide +kernel
theorem own_ef_law (m : MethodId) (x0 : Int32) (x1 : Int32) (x2 : Int32) (x3 : Int32) (x4 : Int32) (x5 : Int32) : entryFrame m #[(.int x0), (.int x1), (.int x2), (.int x3), (.int x4), (.int x5)] maxLocals = mkF m 0 #[.val (.int x0), .val (.int x1), .val (.int x2), .val (.int x3), .val (.int x4), .val (.int x5), .unset, .unset, .unset, .unset, .unset, .unset, .unset, .unset, .unset, .unset, .unset] [] := by first | (simp [entryFrame, mkF, argsToLocals, Value.category, maxLocals]; done) | rfl
def own_Q_law (Z : State) (p0 : Int32) (p1 : Int32) (p2 : Int32) (p3 : Int32) (p4 : Int32) (p5 : Int32)  (h0 : Heap) (n0 : Nat) (v : Option Value) (h : Heap) (L : List Loc) : Prop := v = some (.int 1) ∧ Fr n0 L
theorem own_pn_com_example_chronopath_chronopath_network_ArrivalLineSlopesApartPinLaw : plainName "com/example/chronopath/chronopath/network/ArrivalLineSlopesApartPinLaw" = true := by first | (simp [plainName, overriddenIn]; done) | decide +kernel
set_option maxRecDepth 65536 in
set_option maxHeartbeats 40000000 in
theorem own_rm_law (l : Launch) (Z : State) (a0 : Array Value) (hw : ∀ d ∈ tables_1, d.before a0 Z = true) (ws : List Jvm.Cond) (p0 : Int32) (p1 : Int32) (p2 : Int32) (p3 : Int32) (p4 : Int32) (p5 : Int32)  (h0 : Heap) (n0 : Nat) (Z0 : n0 ≤ h0.size) :
    MetFree l x (head1 (Jvm.Cond.code x code maxLocals ret :: ws) room_1) (fun a U => a = #[(.int p0), (.int p1), (.int p2), (.int p3), (.int p4), (.int p5)] ∧ Z.Warmed39 U.vm ∧ U.heap = h0) (fun _ _ _ _ _ => True) (fun _ U o U' => ∃ v L, o = .returned v ∧ own_Q_law Z p0 p1 p2 p3 p4 p5 h0 n0 v U'.heap L ∧ FrameEnd U o U' L room_1.cells room_1.slots) := by
  refine MetFree.of_bodySF (plainFor_of_name own_pn_com_example_chronopath_chronopath_network_ArrivalLineSlopesApartPinLaw) hisR ?_
  intro p e s m args below meth c s₁ Bd hml0 hP hKq_
  obtain ⟨rfl, hZ, hh⟩ := hP
  have hx := Bd.exec
  have hby := Bd.bytes
  have hml : c.maxLocals = 17 := hml0
  have hown : s.vm.findClass "com/example/chronopath/chronopath/network/ArrivalLineSlopesApartPinLaw" = some m.cls := findClass_of_methodNamed Bd.named
  have hnm := (name_of_methodNamed Bd.named Bd.method).1
  have X0 : Stand p l e room_1 s m #[(.int p0), (.int p1), (.int p2), (.int p3), (.int p4), (.int p5)] below meth c s₁ [] 0 0 := Stand.of_body Bd
  have e0 : s₁.heap = h0 := by rw [← hh, Bd.state]; rfl
  have N0 := Fr.nil n0
  have pre0 : ∀ t, Steps p.tables e below (s₁.setTop (mkF m 0 #[.val (.int p0), .val (.int p1), .val (.int p2), .val (.int p3), .val (.int p4), .val (.int p5), .unset, .unset, .unset, .unset, .unset, .unset, .unset, .unset, .unset, .unset, .unset] [])) t → Steps p.tables e below (s₁.setTop (entryFrame m #[(.int p0), (.int p1), (.int p2), (.int p3), (.int p4), (.int p5)] maxLocals)) t := fun t k => castTop (own_ef_law m p0 p1 p2 p3 p4 p5) k
  refine own_go pre0 ?_
  refine own_abs ?_
  intro Pf hPf
  have k2 : ∀ t, Steps p.tables e below (s₁.setTop (mkF m 2 #[.val (.int p0), .val (.int p1), .val (.int p2), .val (.int p3), .val (.int p4), .val (.int p5), .unset, .unset, .unset, .unset, .unset, .unset, .unset, .unset, .unset, .unset, .unset] [(.int p1), (.int p0)])) t → Steps p.tables e below (s₁.setTop (mkF m 0 #[.val (.int p0), .val (.int p1), .val (.int p2), .val (.int p3), .val (.int p4), .val (.int p5), .unset, .unset, .unset, .unset, .unset, .unset, .unset, .unset, .unset, .unset, .unset] [])) t := fun t k => by
    refine XS.iloadN X0.here hx rfl (hb hby at_0) rfl ?_
    show Steps p.tables e below (s₁.setTop (mkF m 1 #[.val (.int p0), .val (.int p1), .val (.int p2), .val (.int p3), .val (.int p4), .val (.int p5), .unset, .unset, .unset, .unset, .unset, .unset, .unset, .unset, .unset, .unset, .unset] [(.int p0)])) _
    refine XS.iloadN X0.here hx rfl (hb hby at_1) rfl ?_
    show Steps p.tables e below (s₁.setTop (mkF m 2 #[.val (.int p0), .val (.int p1), .val (.int p2), .val (.int p3), .val (.int p4), .val (.int p5), .unset, .unset, .unset, .unset, .unset, .unset, .unset, .unset, .unset, .unset, .unset] [(.int p1), (.int p0)])) _
    exact k
  refine own_go k2 ?_
  clear k2
  obtain ⟨_, _, ⟨T1, L1, k1, n1⟩, -, X1, ⟨Lc1, hQ1, l1, y1, z1⟩, st1⟩ := Jvm.LawKit.callS X0 hx (y := (⟨"java/lang/Math", "min", "(II)I"⟩ : MethodName)) hown (mvT hZ (hw _ (List.mem_of_getElem? (i := 0) rfl))) (mvT hZ (hw _ (List.mem_of_getElem? (i := 1) rfl))) (mvT hZ (hw _ (List.mem_of_getElem? (i := 2) rfl))) (mvT hZ (hw _ (List.mem_of_getElem? (i := 3) rfl))) (by decide) (backOf (W := 0) (own_rm_min l Z a0 hw [] p0 p1 h0 n0 Z0 ) hZ (hw _ (List.mem_of_getElem? (i := 3) rfl)) (hw _ (List.mem_of_getElem? (i := 2) rfl)) (by decide) (by decide)) (g := (mkF m 2 #[.val (.int p0), .val (.int p1), .val (.int p2), .val (.int p3), .val (.int p4), .val (.int p5), .unset, .unset, .unset, .unset, .unset, .unset, .unset, .unset, .unset, .unset, .unset] [(.int p1), (.int p0)])) rfl (by rw [hml]; rfl) (argsL := [(.int p0), (.int p1)]) (rest := []) (lenOf own_pd_28II29I rfl) rfl (by show 2 * 0 + _ ≤ _; exact Nat.le_of_eq rfl) (hb hby at_2) (fun _ _ => ⟨rfl, e0, (by decide : 0 + 0 ≤ _), (by decide : 0 + 0 ≤ _)⟩)
  dsimp only [Pt.U, Pt.locs, Pt.cells, Pt.slots] at X1 l1 y1 z1 st1 hQ1
  subst l1 y1 z1
  obtain ⟨rfl, N1q, eh1⟩ := hQ1
  have N1 := Fr.app N0 N1q
  refine own_go st1 ?_
  have k4 : ∀ t, Steps p.tables e below (T1.setTop (mkF m 9 #[.val (.int p0), .val (.int p1), .val (.int p2), .val (.int p3), .val (.int p4), .val (.int p5), .val (.int (own_min p0 p1)), .unset, .unset, .unset, .unset, .unset, .unset, .unset, .unset, .unset, .unset] [(.int p1), (.int p0)])) t → Steps p.tables e below (T1.setTop (mkF m 5 #[.val (.int p0), .val (.int p1), .val (.int p2), .val (.int p3), .val (.int p4), .val (.int p5), .unset, .unset, .unset, .unset, .unset, .unset, .unset, .unset, .unset, .unset, .unset] [(.int (own_min p0 p1))])) t := fun t k => by
    refine XS.istore X1.here hx rfl (hb hby at_5) rfl (l' := #[.val (.int p0), .val (.int p1), .val (.int p2), .val (.int p3), .val (.int p4), .val (.int p5), .val (.int (own_min p0 p1)), .unset, .unset, .unset, .unset, .unset, .unset, .unset, .unset, .unset, .unset]) rfl ?_
    show Steps p.tables e below (T1.setTop (mkF m 7 #[.val (.int p0), .val (.int p1), .val (.int p2), .val (.int p3), .val (.int p4), .val (.int p5), .val (.int (own_min p0 p1)), .unset, .unset, .unset, .unset, .unset, .unset, .unset, .unset, .unset, .unset] [])) _
    refine XS.iloadN X1.here hx rfl (hb hby at_7) rfl ?_
    show Steps p.tables e below (T1.setTop (mkF m 8 #[.val (.int p0), .val (.int p1), .val (.int p2), .val (.int p3), .val (.int p4), .val (.int p5), .val (.int (own_min p0 p1)), .unset, .unset, .unset, .unset, .unset, .unset, .unset, .unset, .unset, .unset] [(.int p0)])) _
    refine XS.iloadN X1.here hx rfl (hb hby at_8) rfl ?_
    show Steps p.tables e below (T1.setTop (mkF m 9 #[.val (.int p0), .val (.int p1), .val (.int p2), .val (.int p3), .val (.int p4), .val (.int p5), .val (.int (own_min p0 p1)), .unset, .unset, .unset, .unset, .unset, .unset, .unset, .unset, .unset, .unset] [(.int p1), (.int p0)])) _
    exact k
  refine own_go k4 ?_
  clear k4
  obtain ⟨_, _, ⟨T3, L3, k3, n3⟩, -, X3, ⟨Lc3, hQ3, l3, y3, z3⟩, st3⟩ := Jvm.LawKit.callS X1 hx (y := (⟨"java/lang/Math", "max", "(II)I"⟩ : MethodName)) hown (mvT hZ (hw _ (List.mem_of_getElem? (i := 4) rfl))) (mvT hZ (hw _ (List.mem_of_getElem? (i := 5) rfl))) (mvT hZ (hw _ (List.mem_of_getElem? (i := 2) rfl))) (mvT hZ (hw _ (List.mem_of_getElem? (i := 6) rfl))) (by decide) (backOf (W := 0) (own_rm_max l Z a0 hw [] p0 p1 h0 n0 Z0 ) hZ (hw _ (List.mem_of_getElem? (i := 6) rfl)) (hw _ (List.mem_of_getElem? (i := 2) rfl)) (by decide) (by decide)) (g := (mkF m 9 #[.val (.int p0), .val (.int p1), .val (.int p2), .val (.int p3), .val (.int p4), .val (.int p5), .val (.int (own_min p0 p1)), .unset, .unset, .unset, .unset, .unset, .unset, .unset, .unset, .unset, .unset] [(.int p1), (.int p0)])) rfl (by rw [hml]; rfl) (argsL := [(.int p0), (.int p1)]) (rest := []) (lenOf own_pd_28II29I rfl) rfl (by show 2 * 0 + _ ≤ _; exact Nat.le_of_eq rfl) (hb hby at_9) (fun _ _ => ⟨rfl, eh1, (by decide : 0 + 0 ≤ _), (by decide : 0 + 0 ≤ _)⟩)
  dsimp only [Pt.U, Pt.locs, Pt.cells, Pt.slots] at X3 l3 y3 z3 st3 hQ3
  subst l3 y3 z3
  obtain ⟨rfl, N3q, eh3⟩ := hQ3
  have N3 := Fr.app N1 N3q
  refine own_go st3 ?_
  have k6 : ∀ t, Steps p.tables e below (T3.setTop (mkF m 16 #[.val (.int p0), .val (.int p1), .val (.int p2), .val (.int p3), .val (.int p4), .val (.int p5), .val (.int (own_min p0 p1)), .val (.int (own_max p0 p1)), .unset, .unset, .unset, .unset, .unset, .unset, .unset, .unset, .unset] [(.int p3), (.int p2)])) t → Steps p.tables e below (T3.setTop (mkF m 12 #[.val (.int p0), .val (.int p1), .val (.int p2), .val (.int p3), .val (.int p4), .val (.int p5), .val (.int (own_min p0 p1)), .unset, .unset, .unset, .unset, .unset, .unset, .unset, .unset, .unset, .unset] [(.int (own_max p0 p1))])) t := fun t k => by
    refine XS.istore X3.here hx rfl (hb hby at_12) rfl (l' := #[.val (.int p0), .val (.int p1), .val (.int p2), .val (.int p3), .val (.int p4), .val (.int p5), .val (.int (own_min p0 p1)), .val (.int (own_max p0 p1)), .unset, .unset, .unset, .unset, .unset, .unset, .unset, .unset, .unset]) rfl ?_
    show Steps p.tables e below (T3.setTop (mkF m 14 #[.val (.int p0), .val (.int p1), .val (.int p2), .val (.int p3), .val (.int p4), .val (.int p5), .val (.int (own_min p0 p1)), .val (.int (own_max p0 p1)), .unset, .unset, .unset, .unset, .unset, .unset, .unset, .unset, .unset] [])) _
    refine XS.iloadN X3.here hx rfl (hb hby at_14) rfl ?_
    show Steps p.tables e below (T3.setTop (mkF m 15 #[.val (.int p0), .val (.int p1), .val (.int p2), .val (.int p3), .val (.int p4), .val (.int p5), .val (.int (own_min p0 p1)), .val (.int (own_max p0 p1)), .unset, .unset, .unset, .unset, .unset, .unset, .unset, .unset, .unset] [(.int p2)])) _
    refine XS.iloadN X3.here hx rfl (hb hby at_15) rfl ?_
    show Steps p.tables e below (T3.setTop (mkF m 16 #[.val (.int p0), .val (.int p1), .val (.int p2), .val (.int p3), .val (.int p4), .val (.int p5), .val (.int (own_min p0 p1)), .val (.int (own_max p0 p1)), .unset, .unset, .unset, .unset, .unset, .unset, .unset, .unset, .unset] [(.int p3), (.int p2)])) _
    exact k
  refine own_go k6 ?_
  clear k6
  obtain ⟨_, _, ⟨T5, L5, k5, n5⟩, -, X5, ⟨Lc5, hQ5, l5, y5, z5⟩, st5⟩ := Jvm.LawKit.callS X3 hx (y := (⟨"java/lang/Math", "min", "(II)I"⟩ : MethodName)) hown (mvT hZ (hw _ (List.mem_of_getElem? (i := 0) rfl))) (mvT hZ (hw _ (List.mem_of_getElem? (i := 1) rfl))) (mvT hZ (hw _ (List.mem_of_getElem? (i := 2) rfl))) (mvT hZ (hw _ (List.mem_of_getElem? (i := 3) rfl))) (by decide) (backOf (W := 0) (own_rm_min l Z a0 hw [] p2 p3 h0 n0 Z0 ) hZ (hw _ (List.mem_of_getElem? (i := 3) rfl)) (hw _ (List.mem_of_getElem? (i := 2) rfl)) (by decide) (by decide)) (g := (mkF m 16 #[.val (.int p0), .val (.int p1), .val (.int p2), .val (.int p3), .val (.int p4), .val (.int p5), .val (.int (own_min p0 p1)), .val (.int (own_max p0 p1)), .unset, .unset, .unset, .unset, .unset, .unset, .unset, .unset, .unset] [(.int p3), (.int p2)])) rfl (by rw [hml]; rfl) (argsL := [(.int p2), (.int p3)]) (rest := []) (lenOf own_pd_28II29I rfl) rfl (by show 2 * 0 + _ ≤ _; exact Nat.le_of_eq rfl) (hb hby at_16) (fun _ _ => ⟨rfl, eh3, (by decide : 0 + 0 ≤ _), (by decide : 0 + 0 ≤ _)⟩)
  dsimp only [Pt.U, Pt.locs, Pt.cells, Pt.slots] at X5 l5 y5 z5 st5 hQ5
  subst l5 y5 z5
  obtain ⟨rfl, N5q, eh5⟩ := hQ5
  have N5 := Fr.app N3 N5q
  refine own_go st5 ?_
  have k8 : ∀ t, Steps p.tables e below (T5.setTop (mkF m 23 #[.val (.int p0), .val (.int p1), .val (.int p2), .val (.int p3), .val (.int p4), .val (.int p5), .val (.int (own_min p0 p1)), .val (.int (own_max p0 p1)), .val (.int (own_min p2 p3)), .unset, .unset, .unset, .unset, .unset, .unset, .unset, .unset] [(.int p3), (.int p2)])) t → Steps p.tables e below (T5.setTop (mkF m 19 #[.val (.int p0), .val (.int p1), .val (.int p2), .val (.int p3), .val (.int p4), .val (.int p5), .val (.int (own_min p0 p1)), .val (.int (own_max p0 p1)), .unset, .unset, .unset, .unset, .unset, .unset, .unset, .unset, .unset] [(.int (own_min p2 p3))])) t := fun t k => by
    refine XS.istore X5.here hx rfl (hb hby at_19) rfl (l' := #[.val (.int p0), .val (.int p1), .val (.int p2), .val (.int p3), .val (.int p4), .val (.int p5), .val (.int (own_min p0 p1)), .val (.int (own_max p0 p1)), .val (.int (own_min p2 p3)), .unset, .unset, .unset, .unset, .unset, .unset, .unset, .unset]) rfl ?_
    show Steps p.tables e below (T5.setTop (mkF m 21 #[.val (.int p0), .val (.int p1), .val (.int p2), .val (.int p3), .val (.int p4), .val (.int p5), .val (.int (own_min p0 p1)), .val (.int (own_max p0 p1)), .val (.int (own_min p2 p3)), .unset, .unset, .unset, .unset, .unset, .unset, .unset, .unset] [])) _
    refine XS.iloadN X5.here hx rfl (hb hby at_21) rfl ?_
    show Steps p.tables e below (T5.setTop (mkF m 22 #[.val (.int p0), .val (.int p1), .val (.int p2), .val (.int p3), .val (.int p4), .val (.int p5), .val (.int (own_min p0 p1)), .val (.int (own_max p0 p1)), .val (.int (own_min p2 p3)), .unset, .unset, .unset, .unset, .unset, .unset, .unset, .unset] [(.int p2)])) _
    refine XS.iloadN X5.here hx rfl (hb hby at_22) rfl ?_
    show Steps p.tables e below (T5.setTop (mkF m 23 #[.val (.int p0), .val (.int p1), .val (.int p2), .val (.int p3), .val (.int p4), .val (.int p5), .val (.int (own_min p0 p1)), .val (.int (own_max p0 p1)), .val (.int (own_min p2 p3)), .unset, .unset, .unset, .unset, .unset, .unset, .unset, .unset] [(.int p3), (.int p2)])) _
    exact k
  refine own_go k8 ?_
  clear k8
  obtain ⟨_, _, ⟨T7, L7, k7, n7⟩, -, X7, ⟨Lc7, hQ7, l7, y7, z7⟩, st7⟩ := Jvm.LawKit.callS X5 hx (y := (⟨"java/lang/Math", "max", "(II)I"⟩ : MethodName)) hown (mvT hZ (hw _ (List.mem_of_getElem? (i := 4) rfl))) (mvT hZ (hw _ (List.mem_of_getElem? (i := 5) rfl))) (mvT hZ (hw _ (List.mem_of_getElem? (i := 2) rfl))) (mvT hZ (hw _ (List.mem_of_getElem? (i := 6) rfl))) (by decide) (backOf (W := 0) (own_rm_max l Z a0 hw [] p2 p3 h0 n0 Z0 ) hZ (hw _ (List.mem_of_getElem? (i := 6) rfl)) (hw _ (List.mem_of_getElem? (i := 2) rfl)) (by decide) (by decide)) (g := (mkF m 23 #[.val (.int p0), .val (.int p1), .val (.int p2), .val (.int p3), .val (.int p4), .val (.int p5), .val (.int (own_min p0 p1)), .val (.int (own_max p0 p1)), .val (.int (own_min p2 p3)), .unset, .unset, .unset, .unset, .unset, .unset, .unset, .unset] [(.int p3), (.int p2)])) rfl (by rw [hml]; rfl) (argsL := [(.int p2), (.int p3)]) (rest := []) (lenOf own_pd_28II29I rfl) rfl (by show 2 * 0 + _ ≤ _; exact Nat.le_of_eq rfl) (hb hby at_23) (fun _ _ => ⟨rfl, eh5, (by decide : 0 + 0 ≤ _), (by decide : 0 + 0 ≤ _)⟩)
  dsimp only [Pt.U, Pt.locs, Pt.cells, Pt.slots] at X7 l7 y7 z7 st7 hQ7
  subst l7 y7 z7
  obtain ⟨rfl, N7q, eh7⟩ := hQ7
  have N7 := Fr.app N5 N7q
  refine own_go st7 ?_
  have k9 : ∀ t, Steps p.tables e below (T7.setTop (mkF m 42 #[.val (.int p0), .val (.int p1), .val (.int p2), .val (.int p3), .val (.int p4), .val (.int p5), .val (.int (own_min p0 p1)), .val (.int (own_max p0 p1)), .val (.int (own_min p2 p3)), .val (.int (own_max p2 p3)), .val (.int (p4 &&& (3 : Int32))), .val (.int (((p4.toUInt32 >>> ((2 : Int32) &&& 31).toUInt32).toInt32) &&& (3 : Int32))), .unset, .unset, .unset, .unset, .unset] [])) t → Steps p.tables e below (T7.setTop (mkF m 26 #[.val (.int p0), .val (.int p1), .val (.int p2), .val (.int p3), .val (.int p4), .val (.int p5), .val (.int (own_min p0 p1)), .val (.int (own_max p0 p1)), .val (.int (own_min p2 p3)), .unset, .unset, .unset, .unset, .unset, .unset, .unset, .unset] [(.int (own_max p2 p3))])) t := fun t k => by
    refine XS.istore X7.here hx rfl (hb hby at_26) rfl (l' := #[.val (.int p0), .val (.int p1), .val (.int p2), .val (.int p3), .val (.int p4), .val (.int p5), .val (.int (own_min p0 p1)), .val (.int (own_max p0 p1)), .val (.int (own_min p2 p3)), .val (.int (own_max p2 p3)), .unset, .unset, .unset, .unset, .unset, .unset, .unset]) rfl ?_
    show Steps p.tables e below (T7.setTop (mkF m 28 #[.val (.int p0), .val (.int p1), .val (.int p2), .val (.int p3), .val (.int p4), .val (.int p5), .val (.int (own_min p0 p1)), .val (.int (own_max p0 p1)), .val (.int (own_min p2 p3)), .val (.int (own_max p2 p3)), .unset, .unset, .unset, .unset, .unset, .unset, .unset] [])) _
    refine XS.iload X7.here hx rfl (hb hby at_28) rfl ?_
    show Steps p.tables e below (T7.setTop (mkF m 30 #[.val (.int p0), .val (.int p1), .val (.int p2), .val (.int p3), .val (.int p4), .val (.int p5), .val (.int (own_min p0 p1)), .val (.int (own_max p0 p1)), .val (.int (own_min p2 p3)), .val (.int (own_max p2 p3)), .unset, .unset, .unset, .unset, .unset, .unset, .unset] [(.int p4)])) _
    refine XS.iconst X7.here hx rfl (hb hby at_30) ?_
    show Steps p.tables e below (T7.setTop (mkF m 31 #[.val (.int p0), .val (.int p1), .val (.int p2), .val (.int p3), .val (.int p4), .val (.int p5), .val (.int (own_min p0 p1)), .val (.int (own_max p0 p1)), .val (.int (own_min p2 p3)), .val (.int (own_max p2 p3)), .unset, .unset, .unset, .unset, .unset, .unset, .unset] [(.int (3 : Int32)), (.int p4)])) _
    refine XS.iand X7.here hx rfl (hb hby at_31) rfl ?_
    show Steps p.tables e below (T7.setTop (mkF m 32 #[.val (.int p0), .val (.int p1), .val (.int p2), .val (.int p3), .val (.int p4), .val (.int p5), .val (.int (own_min p0 p1)), .val (.int (own_max p0 p1)), .val (.int (own_min p2 p3)), .val (.int (own_max p2 p3)), .unset, .unset, .unset, .unset, .unset, .unset, .unset] [(.int (p4 &&& (3 : Int32)))])) _
    refine XS.istore X7.here hx rfl (hb hby at_32) rfl (l' := #[.val (.int p0), .val (.int p1), .val (.int p2), .val (.int p3), .val (.int p4), .val (.int p5), .val (.int (own_min p0 p1)), .val (.int (own_max p0 p1)), .val (.int (own_min p2 p3)), .val (.int (own_max p2 p3)), .val (.int (p4 &&& (3 : Int32))), .unset, .unset, .unset, .unset, .unset, .unset]) rfl ?_
    show Steps p.tables e below (T7.setTop (mkF m 34 #[.val (.int p0), .val (.int p1), .val (.int p2), .val (.int p3), .val (.int p4), .val (.int p5), .val (.int (own_min p0 p1)), .val (.int (own_max p0 p1)), .val (.int (own_min p2 p3)), .val (.int (own_max p2 p3)), .val (.int (p4 &&& (3 : Int32))), .unset, .unset, .unset, .unset, .unset, .unset] [])) _
    refine XS.iload X7.here hx rfl (hb hby at_34) rfl ?_
    show Steps p.tables e below (T7.setTop (mkF m 36 #[.val (.int p0), .val (.int p1), .val (.int p2), .val (.int p3), .val (.int p4), .val (.int p5), .val (.int (own_min p0 p1)), .val (.int (own_max p0 p1)), .val (.int (own_min p2 p3)), .val (.int (own_max p2 p3)), .val (.int (p4 &&& (3 : Int32))), .unset, .unset, .unset, .unset, .unset, .unset] [(.int p4)])) _
    refine XS.iconst X7.here hx rfl (hb hby at_36) ?_
    show Steps p.tables e below (T7.setTop (mkF m 37 #[.val (.int p0), .val (.int p1), .val (.int p2), .val (.int p3), .val (.int p4), .val (.int p5), .val (.int (own_min p0 p1)), .val (.int (own_max p0 p1)), .val (.int (own_min p2 p3)), .val (.int (own_max p2 p3)), .val (.int (p4 &&& (3 : Int32))), .unset, .unset, .unset, .unset, .unset, .unset] [(.int (2 : Int32)), (.int p4)])) _
    refine XS.iushr X7.here hx rfl (hb hby at_37) rfl ?_
    show Steps p.tables e below (T7.setTop (mkF m 38 #[.val (.int p0), .val (.int p1), .val (.int p2), .val (.int p3), .val (.int p4), .val (.int p5), .val (.int (own_min p0 p1)), .val (.int (own_max p0 p1)), .val (.int (own_min p2 p3)), .val (.int (own_max p2 p3)), .val (.int (p4 &&& (3 : Int32))), .unset, .unset, .unset, .unset, .unset, .unset] [(.int ((p4.toUInt32 >>> ((2 : Int32) &&& 31).toUInt32).toInt32))])) _
    refine XS.iconst X7.here hx rfl (hb hby at_38) ?_
    show Steps p.tables e below (T7.setTop (mkF m 39 #[.val (.int p0), .val (.int p1), .val (.int p2), .val (.int p3), .val (.int p4), .val (.int p5), .val (.int (own_min p0 p1)), .val (.int (own_max p0 p1)), .val (.int (own_min p2 p3)), .val (.int (own_max p2 p3)), .val (.int (p4 &&& (3 : Int32))), .unset, .unset, .unset, .unset, .unset, .unset] [(.int (3 : Int32)), (.int ((p4.toUInt32 >>> ((2 : Int32) &&& 31).toUInt32).toInt32))])) _
    refine XS.iand X7.here hx rfl (hb hby at_39) rfl ?_
    show Steps p.tables e below (T7.setTop (mkF m 40 #[.val (.int p0), .val (.int p1), .val (.int p2), .val (.int p3), .val (.int p4), .val (.int p5), .val (.int (own_min p0 p1)), .val (.int (own_max p0 p1)), .val (.int (own_min p2 p3)), .val (.int (own_max p2 p3)), .val (.int (p4 &&& (3 : Int32))), .unset, .unset, .unset, .unset, .unset, .unset] [(.int (((p4.toUInt32 >>> ((2 : Int32) &&& 31).toUInt32).toInt32) &&& (3 : Int32)))])) _
    refine XS.istore X7.here hx rfl (hb hby at_40) rfl (l' := #[.val (.int p0), .val (.int p1), .val (.int p2), .val (.int p3), .val (.int p4), .val (.int p5), .val (.int (own_min p0 p1)), .val (.int (own_max p0 p1)), .val (.int (own_min p2 p3)), .val (.int (own_max p2 p3)), .val (.int (p4 &&& (3 : Int32))), .val (.int (((p4.toUInt32 >>> ((2 : Int32) &&& 31).toUInt32).toInt32) &&& (3 : Int32))), .unset, .unset, .unset, .unset, .unset]) rfl ?_
    show Steps p.tables e below (T7.setTop (mkF m 42 #[.val (.int p0), .val (.int p1), .val (.int p2), .val (.int p3), .val (.int p4), .val (.int p5), .val (.int (own_min p0 p1)), .val (.int (own_max p0 p1)), .val (.int (own_min p2 p3)), .val (.int (own_max p2 p3)), .val (.int (p4 &&& (3 : Int32))), .val (.int (((p4.toUInt32 >>> ((2 : Int32) &&& 31).toUInt32).toInt32) &&& (3 : Int32))), .unset, .unset, .unset, .unset, .unset] [])) _
    exact k
  refine own_go k9 ?_
  clear k9
  obtain ⟨qa, h_qa⟩ : ∃ z, z = (p4 &&& (3 : Int32)) := ⟨_, rfl⟩
  rw [← h_qa]
  have c1 : qa = 0 ∨ qa = 1 ∨ qa = 2 ∨ qa = 3 := by rw [h_qa]; exact own_m3 _
  obtain ⟨qb, h_qb⟩ : ∃ z, z = (((p4.toUInt32 >>> ((2 : Int32) &&& 31).toUInt32).toInt32) &&& (3 : Int32)) := ⟨_, rfl⟩
  rw [← h_qb]
  have c2 : qb = 0 ∨ qb = 1 ∨ qb = 2 ∨ qb = 3 := by rw [h_qb]; exact own_m3 _
  have k10 : ∀ t, Steps p.tables e below (T7.setTop (mkF m 48 #[.val (.int p0), .val (.int p1), .val (.int p2), .val (.int p3), .val (.int p4), .val (.int p5), .val (.int (own_min p0 p1)), .val (.int (own_max p0 p1)), .val (.int (own_min p2 p3)), .val (.int (own_max p2 p3)), .val (.int qa), .val (.int qb), .val (.double (FP.i2d p5)), .second, .unset, .unset, .unset] [(.int (5 : Int32))])) t → Steps p.tables e below (T7.setTop (mkF m 42 #[.val (.int p0), .val (.int p1), .val (.int p2), .val (.int p3), .val (.int p4), .val (.int p5), .val (.int (own_min p0 p1)), .val (.int (own_max p0 p1)), .val (.int (own_min p2 p3)), .val (.int (own_max p2 p3)), .val (.int qa), .val (.int qb), .unset, .unset, .unset, .unset, .unset] [])) t := fun t k => by
    refine XS.iload X7.here hx rfl (hb hby at_42) rfl ?_
    show Steps p.tables e below (T7.setTop (mkF m 44 #[.val (.int p0), .val (.int p1), .val (.int p2), .val (.int p3), .val (.int p4), .val (.int p5), .val (.int (own_min p0 p1)), .val (.int (own_max p0 p1)), .val (.int (own_min p2 p3)), .val (.int (own_max p2 p3)), .val (.int qa), .val (.int qb), .unset, .unset, .unset, .unset, .unset] [(.int p5)])) _
    refine XS.i2dS X7.here hx rfl (hb hby at_44) rfl rfl ?_
    show Steps p.tables e below (T7.setTop (mkF m 45 #[.val (.int p0), .val (.int p1), .val (.int p2), .val (.int p3), .val (.int p4), .val (.int p5), .val (.int (own_min p0 p1)), .val (.int (own_max p0 p1)), .val (.int (own_min p2 p3)), .val (.int (own_max p2 p3)), .val (.int qa), .val (.int qb), .unset, .unset, .unset, .unset, .unset] [(.double (FP.i2d p5))])) _
    refine XS.dstore X7.here hx rfl (hb hby at_45) rfl (l' := #[.val (.int p0), .val (.int p1), .val (.int p2), .val (.int p3), .val (.int p4), .val (.int p5), .val (.int (own_min p0 p1)), .val (.int (own_max p0 p1)), .val (.int (own_min p2 p3)), .val (.int (own_max p2 p3)), .val (.int qa), .val (.int qb), .val (.double (FP.i2d p5)), .second, .unset, .unset, .unset]) rfl ?_
    show Steps p.tables e below (T7.setTop (mkF m 47 #[.val (.int p0), .val (.int p1), .val (.int p2), .val (.int p3), .val (.int p4), .val (.int p5), .val (.int (own_min p0 p1)), .val (.int (own_max p0 p1)), .val (.int (own_min p2 p3)), .val (.int (own_max p2 p3)), .val (.int qa), .val (.int qb), .val (.double (FP.i2d p5)), .second, .unset, .unset, .unset] [])) _
    refine XS.iconst X7.here hx rfl (hb hby at_47) ?_
    show Steps p.tables e below (T7.setTop (mkF m 48 #[.val (.int p0), .val (.int p1), .val (.int p2), .val (.int p3), .val (.int p4), .val (.int p5), .val (.int (own_min p0 p1)), .val (.int (own_max p0 p1)), .val (.int (own_min p2 p3)), .val (.int (own_max p2 p3)), .val (.int qa), .val (.int qb), .val (.double (FP.i2d p5)), .second, .unset, .unset, .unset] [(.int (5 : Int32))])) _
    exact k
  refine own_go k10 ?_
  clear k10
  obtain ⟨T11, h11, k11, X11, e11, E11, A11, st11⟩ := newP X7 hx hZ (hw _ (List.mem_of_getElem? (i := 7) rfl)) eh7 (g := (mkF m 48 #[.val (.int p0), .val (.int p1), .val (.int p2), .val (.int p3), .val (.int p4), .val (.int p5), .val (.int (own_min p0 p1)), .val (.int (own_max p0 p1)), .val (.int (own_min p2 p3)), .val (.int (own_max p2 p3)), .val (.int qa), .val (.int qb), .val (.double (FP.i2d p5)), .second, .unset, .unset, .unset] [(.int (5 : Int32))])) rfl (hb hby at_48) rfl (by decide) (cap := 5) (by decide) (by decide) (by decide) (by decide)
  obtain ⟨b11, g11⟩ : ∃ z, z = h0.size := ⟨_, rfl⟩
  rw [← g11] at A11 st11
  refine own_go st11 ?_
  have g_b11 : n0 ≤ b11 := Nat.le_trans Z0 (Nat.le_of_eq g11.symm)
  have Z11 : n0 ≤ h11.size := Nat.le_trans Z0 E11.1
  have V11 : Arv Z h11 b11 k11 .double (5 : Int32) [(.double (0 : UInt64)), (.double (0 : UInt64)), (.double (0 : UInt64)), (.double (0 : UInt64)), (.double (0 : UInt64))] (.double (0 : UInt64)) := (Arv.new A11 (by decide)).pad (pad_rep [] (.double (0 : UInt64)) 5)
  have k12 : ∀ t, Steps p.tables e below (T11.setTop (mkF m 53 #[.val (.int p0), .val (.int p1), .val (.int p2), .val (.int p3), .val (.int p4), .val (.int p5), .val (.int (own_min p0 p1)), .val (.int (own_max p0 p1)), .val (.int (own_min p2 p3)), .val (.int (own_max p2 p3)), .val (.int qa), .val (.int qb), .val (.double (FP.i2d p5)), .second, .val (.ref b11), .unset, .unset] [(.int (5 : Int32))])) t → Steps p.tables e below (T11.setTop (mkF m 50 #[.val (.int p0), .val (.int p1), .val (.int p2), .val (.int p3), .val (.int p4), .val (.int p5), .val (.int (own_min p0 p1)), .val (.int (own_max p0 p1)), .val (.int (own_min p2 p3)), .val (.int (own_max p2 p3)), .val (.int qa), .val (.int qb), .val (.double (FP.i2d p5)), .second, .unset, .unset, .unset] [(.ref b11)])) t := fun t k => by
    refine XS.astore X11.here hx rfl (hb hby at_50) rfl rfl (l' := #[.val (.int p0), .val (.int p1), .val (.int p2), .val (.int p3), .val (.int p4), .val (.int p5), .val (.int (own_min p0 p1)), .val (.int (own_max p0 p1)), .val (.int (own_min p2 p3)), .val (.int (own_max p2 p3)), .val (.int qa), .val (.int qb), .val (.double (FP.i2d p5)), .second, .val (.ref b11), .unset, .unset]) rfl ?_
    show Steps p.tables e below (T11.setTop (mkF m 52 #[.val (.int p0), .val (.int p1), .val (.int p2), .val (.int p3), .val (.int p4), .val (.int p5), .val (.int (own_min p0 p1)), .val (.int (own_max p0 p1)), .val (.int (own_min p2 p3)), .val (.int (own_max p2 p3)), .val (.int qa), .val (.int qb), .val (.double (FP.i2d p5)), .second, .val (.ref b11), .unset, .unset] [])) _
    refine XS.iconst X11.here hx rfl (hb hby at_52) ?_
    show Steps p.tables e below (T11.setTop (mkF m 53 #[.val (.int p0), .val (.int p1), .val (.int p2), .val (.int p3), .val (.int p4), .val (.int p5), .val (.int (own_min p0 p1)), .val (.int (own_max p0 p1)), .val (.int (own_min p2 p3)), .val (.int (own_max p2 p3)), .val (.int qa), .val (.int qb), .val (.double (FP.i2d p5)), .second, .val (.ref b11), .unset, .unset] [(.int (5 : Int32))])) _
    exact k
  refine own_go k12 ?_
  clear k12
  obtain ⟨T13, h13, k13, X13, e13, E13, A13, st13⟩ := newP X11 hx hZ (hw _ (List.mem_of_getElem? (i := 7) rfl)) e11 (g := (mkF m 53 #[.val (.int p0), .val (.int p1), .val (.int p2), .val (.int p3), .val (.int p4), .val (.int p5), .val (.int (own_min p0 p1)), .val (.int (own_max p0 p1)), .val (.int (own_min p2 p3)), .val (.int (own_max p2 p3)), .val (.int qa), .val (.int qb), .val (.double (FP.i2d p5)), .second, .val (.ref b11), .unset, .unset] [(.int (5 : Int32))])) rfl (hb hby at_53) rfl (by decide) (cap := 5) (by decide) (by decide) (by decide) (by decide)
  obtain ⟨b13, g13⟩ : ∃ z, z = h11.size := ⟨_, rfl⟩
  rw [← g13] at A13 st13
  refine own_go st13 ?_
  have ne_b11_b13 : b11 ≠ b13 := Nat.ne_of_lt (Nat.lt_of_lt_of_le V11.lt (Nat.le_of_eq g13.symm))
  have f13_0 : Arv Z h13 b11 k11 .double (5 : Int32) [(.double (0 : UInt64)), (.double (0 : UInt64)), (.double (0 : UInt64)), (.double (0 : UInt64)), (.double (0 : UInt64))] (.double (0 : UInt64)) := V11.ext E13
  have g_b13 : n0 ≤ b13 := Nat.le_trans Z11 (Nat.le_of_eq g13.symm)
  have Z13 : n0 ≤ h13.size := Nat.le_trans Z11 E13.1
  have V13 : Arv Z h13 b13 k13 .double (5 : Int32) [(.double (0 : UInt64)), (.double (0 : UInt64)), (.double (0 : UInt64)), (.double (0 : UInt64)), (.double (0 : UInt64))] (.double (0 : UInt64)) := (Arv.new A13 (by decide)).pad (pad_rep [] (.double (0 : UInt64)) 5)
  have k14 : ∀ t, Steps p.tables e below (T13.setTop (mkF m 62 #[.val (.int p0), .val (.int p1), .val (.int p2), .val (.int p3), .val (.int p4), .val (.int p5), .val (.int (own_min p0 p1)), .val (.int (own_max p0 p1)), .val (.int (own_min p2 p3)), .val (.int (own_max p2 p3)), .val (.int qa), .val (.int qb), .val (.double (FP.i2d p5)), .second, .val (.ref b11), .val (.ref b13), .unset] [(.double (FP.i2d p5)), (.int (0 : Int32)), (.ref b11)])) t → Steps p.tables e below (T13.setTop (mkF m 55 #[.val (.int p0), .val (.int p1), .val (.int p2), .val (.int p3), .val (.int p4), .val (.int p5), .val (.int (own_min p0 p1)), .val (.int (own_max p0 p1)), .val (.int (own_min p2 p3)), .val (.int (own_max p2 p3)), .val (.int qa), .val (.int qb), .val (.double (FP.i2d p5)), .second, .val (.ref b11), .unset, .unset] [(.ref b13)])) t := fun t k => by
    refine XS.astore X13.here hx rfl (hb hby at_55) rfl rfl (l' := #[.val (.int p0), .val (.int p1), .val (.int p2), .val (.int p3), .val (.int p4), .val (.int p5), .val (.int (own_min p0 p1)), .val (.int (own_max p0 p1)), .val (.int (own_min p2 p3)), .val (.int (own_max p2 p3)), .val (.int qa), .val (.int qb), .val (.double (FP.i2d p5)), .second, .val (.ref b11), .val (.ref b13), .unset]) rfl ?_
    show Steps p.tables e below (T13.setTop (mkF m 57 #[.val (.int p0), .val (.int p1), .val (.int p2), .val (.int p3), .val (.int p4), .val (.int p5), .val (.int (own_min p0 p1)), .val (.int (own_max p0 p1)), .val (.int (own_min p2 p3)), .val (.int (own_max p2 p3)), .val (.int qa), .val (.int qb), .val (.double (FP.i2d p5)), .second, .val (.ref b11), .val (.ref b13), .unset] [])) _
    refine XS.aload X13.here hx rfl (hb hby at_57) rfl rfl ?_
    show Steps p.tables e below (T13.setTop (mkF m 59 #[.val (.int p0), .val (.int p1), .val (.int p2), .val (.int p3), .val (.int p4), .val (.int p5), .val (.int (own_min p0 p1)), .val (.int (own_max p0 p1)), .val (.int (own_min p2 p3)), .val (.int (own_max p2 p3)), .val (.int qa), .val (.int qb), .val (.double (FP.i2d p5)), .second, .val (.ref b11), .val (.ref b13), .unset] [(.ref b11)])) _
    refine XS.iconst X13.here hx rfl (hb hby at_59) ?_
    show Steps p.tables e below (T13.setTop (mkF m 60 #[.val (.int p0), .val (.int p1), .val (.int p2), .val (.int p3), .val (.int p4), .val (.int p5), .val (.int (own_min p0 p1)), .val (.int (own_max p0 p1)), .val (.int (own_min p2 p3)), .val (.int (own_max p2 p3)), .val (.int qa), .val (.int qb), .val (.double (FP.i2d p5)), .second, .val (.ref b11), .val (.ref b13), .unset] [(.int (0 : Int32)), (.ref b11)])) _
    refine XS.dload X13.here hx rfl (hb hby at_60) rfl ?_
    show Steps p.tables e below (T13.setTop (mkF m 62 #[.val (.int p0), .val (.int p1), .val (.int p2), .val (.int p3), .val (.int p4), .val (.int p5), .val (.int (own_min p0 p1)), .val (.int (own_max p0 p1)), .val (.int (own_min p2 p3)), .val (.int (own_max p2 p3)), .val (.int qa), .val (.int qb), .val (.double (FP.i2d p5)), .second, .val (.ref b11), .val (.ref b13), .unset] [(.double (FP.i2d p5)), (.int (0 : Int32)), (.ref b11)])) _
    exact k
  refine own_go k14 ?_
  clear k14
  obtain ⟨cl15, Ar15, q15, S15, N15, H15, G15⟩ := id (f13_0)
  have hi15 : ¬ ((0 : Int32) < 0 ∨ cl15.slots.size ≤ ((0 : Int32)).toNatClampNeg) := inb_of S15 ⟨by decide, by decide⟩
  obtain ⟨T16, h16, X16, e16, W16, st16⟩ := stD X13 hx hZ e13 Ar15 (j := (0 : Int32)) hi15 (g := (mkF m 62 #[.val (.int p0), .val (.int p1), .val (.int p2), .val (.int p3), .val (.int p4), .val (.int p5), .val (.int (own_min p0 p1)), .val (.int (own_max p0 p1)), .val (.int (own_min p2 p3)), .val (.int (own_max p2 p3)), .val (.int qa), .val (.int qb), .val (.double (FP.i2d p5)), .second, .val (.ref b11), .val (.ref b13), .unset] [(.double (FP.i2d p5)), (.int (0 : Int32)), (.ref b11)])) rfl rfl (hb hby at_62)
  refine own_go st16 ?_
  have V16 : Arv Z h16 b11 k11 .double (5 : Int32) [(.double (FP.i2d p5)), (.double (0 : UInt64)), (.double (0 : UInt64)), (.double (0 : UInt64)), (.double (0 : UInt64))] (.double (0 : UInt64)) := Arv.set Ar15 q15 S15 N15 H15 G15 rfl W16 0 rfl (Nat.le_of_ble_eq_true rfl)
  have f16_0 : Arv Z h16 b11 k11 .double (5 : Int32) [(.double (FP.i2d p5)), (.double (0 : UInt64)), (.double (0 : UInt64)), (.double (0 : UInt64)), (.double (0 : UInt64))] (.double (0 : UInt64)) := V16
  have f16_1 : Arv Z h16 b13 k13 .double (5 : Int32) [(.double (0 : UInt64)), (.double (0 : UInt64)), (.double (0 : UInt64)), (.double (0 : UInt64)), (.double (0 : UInt64))] (.double (0 : UInt64)) := V13.other W16 ((Ne.symm ne_b11_b13))
  have N16 := Fr.snoc X16 N7 g_b11
  have Z16 : n0 ≤ h16.size := Nat.le_trans Z13 (Keep.of_wr W16).1
  have k17 : ∀ t, Steps p.tables e below (T16.setTop (mkF m 68 #[.val (.int p0), .val (.int p1), .val (.int p2), .val (.int p3), .val (.int p4), .val (.int p5), .val (.int (own_min p0 p1)), .val (.int (own_max p0 p1)), .val (.int (own_min p2 p3)), .val (.int (own_max p2 p3)), .val (.int qa), .val (.int qb), .val (.double (FP.i2d p5)), .second, .val (.ref b11), .val (.ref b13), .unset] [(.double (FP.i2d p5)), (.int (1 : Int32)), (.ref b11)])) t → Steps p.tables e below (T16.setTop (mkF m 63 #[.val (.int p0), .val (.int p1), .val (.int p2), .val (.int p3), .val (.int p4), .val (.int p5), .val (.int (own_min p0 p1)), .val (.int (own_max p0 p1)), .val (.int (own_min p2 p3)), .val (.int (own_max p2 p3)), .val (.int qa), .val (.int qb), .val (.double (FP.i2d p5)), .second, .val (.ref b11), .val (.ref b13), .unset] [])) t := fun t k => by
    refine XS.aload X16.here hx rfl (hb hby at_63) rfl rfl ?_
    show Steps p.tables e below (T16.setTop (mkF m 65 #[.val (.int p0), .val (.int p1), .val (.int p2), .val (.int p3), .val (.int p4), .val (.int p5), .val (.int (own_min p0 p1)), .val (.int (own_max p0 p1)), .val (.int (own_min p2 p3)), .val (.int (own_max p2 p3)), .val (.int qa), .val (.int qb), .val (.double (FP.i2d p5)), .second, .val (.ref b11), .val (.ref b13), .unset] [(.ref b11)])) _
    refine XS.iconst X16.here hx rfl (hb hby at_65) ?_
    show Steps p.tables e below (T16.setTop (mkF m 66 #[.val (.int p0), .val (.int p1), .val (.int p2), .val (.int p3), .val (.int p4), .val (.int p5), .val (.int (own_min p0 p1)), .val (.int (own_max p0 p1)), .val (.int (own_min p2 p3)), .val (.int (own_max p2 p3)), .val (.int qa), .val (.int qb), .val (.double (FP.i2d p5)), .second, .val (.ref b11), .val (.ref b13), .unset] [(.int (1 : Int32)), (.ref b11)])) _
    refine XS.dload X16.here hx rfl (hb hby at_66) rfl ?_
    show Steps p.tables e below (T16.setTop (mkF m 68 #[.val (.int p0), .val (.int p1), .val (.int p2), .val (.int p3), .val (.int p4), .val (.int p5), .val (.int (own_min p0 p1)), .val (.int (own_max p0 p1)), .val (.int (own_min p2 p3)), .val (.int (own_max p2 p3)), .val (.int qa), .val (.int qb), .val (.double (FP.i2d p5)), .second, .val (.ref b11), .val (.ref b13), .unset] [(.double (FP.i2d p5)), (.int (1 : Int32)), (.ref b11)])) _
    exact k
  refine own_go k17 ?_
  clear k17
  obtain ⟨cl18, Ar18, q18, S18, N18, H18, G18⟩ := id (f16_0)
  have hi18 : ¬ ((1 : Int32) < 0 ∨ cl18.slots.size ≤ ((1 : Int32)).toNatClampNeg) := inb_of S18 ⟨by decide, by decide⟩
  obtain ⟨T19, h19, X19, e19, W19, st19⟩ := stD X16 hx hZ e16 Ar18 (j := (1 : Int32)) hi18 (g := (mkF m 68 #[.val (.int p0), .val (.int p1), .val (.int p2), .val (.int p3), .val (.int p4), .val (.int p5), .val (.int (own_min p0 p1)), .val (.int (own_max p0 p1)), .val (.int (own_min p2 p3)), .val (.int (own_max p2 p3)), .val (.int qa), .val (.int qb), .val (.double (FP.i2d p5)), .second, .val (.ref b11), .val (.ref b13), .unset] [(.double (FP.i2d p5)), (.int (1 : Int32)), (.ref b11)])) rfl rfl (hb hby at_68)
  refine own_go st19 ?_
  have V19 : Arv Z h19 b11 k11 .double (5 : Int32) [(.double (FP.i2d p5)), (.double (FP.i2d p5)), (.double (0 : UInt64)), (.double (0 : UInt64)), (.double (0 : UInt64))] (.double (0 : UInt64)) := Arv.set Ar18 q18 S18 N18 H18 G18 rfl W19 1 rfl (Nat.le_of_ble_eq_true rfl)
  have f19_0 : Arv Z h19 b11 k11 .double (5 : Int32) [(.double (FP.i2d p5)), (.double (FP.i2d p5)), (.double (0 : UInt64)), (.double (0 : UInt64)), (.double (0 : UInt64))] (.double (0 : UInt64)) := V19
  have f19_1 : Arv Z h19 b13 k13 .double (5 : Int32) [(.double (0 : UInt64)), (.double (0 : UInt64)), (.double (0 : UInt64)), (.double (0 : UInt64)), (.double (0 : UInt64))] (.double (0 : UInt64)) := f16_1.other W19 ((Ne.symm ne_b11_b13))
  have N19 := Fr.snoc X19 N16 g_b11
  have Z19 : n0 ≤ h19.size := Nat.le_trans Z16 (Keep.of_wr W19).1
  have k20 : ∀ t, Steps p.tables e below (T19.setTop (mkF m 74 #[.val (.int p0), .val (.int p1), .val (.int p2), .val (.int p3), .val (.int p4), .val (.int p5), .val (.int (own_min p0 p1)), .val (.int (own_max p0 p1)), .val (.int (own_min p2 p3)), .val (.int (own_max p2 p3)), .val (.int qa), .val (.int qb), .val (.double (FP.i2d p5)), .second, .val (.ref b11), .val (.ref b13), .unset] [(.double (FP.i2d p5)), (.int (2 : Int32)), (.ref b11)])) t → Steps p.tables e below (T19.setTop (mkF m 69 #[.val (.int p0), .val (.int p1), .val (.int p2), .val (.int p3), .val (.int p4), .val (.int p5), .val (.int (own_min p0 p1)), .val (.int (own_max p0 p1)), .val (.int (own_min p2 p3)), .val (.int (own_max p2 p3)), .val (.int qa), .val (.int qb), .val (.double (FP.i2d p5)), .second, .val (.ref b11), .val (.ref b13), .unset] [])) t := fun t k => by
    refine XS.aload X19.here hx rfl (hb hby at_69) rfl rfl ?_
    show Steps p.tables e below (T19.setTop (mkF m 71 #[.val (.int p0), .val (.int p1), .val (.int p2), .val (.int p3), .val (.int p4), .val (.int p5), .val (.int (own_min p0 p1)), .val (.int (own_max p0 p1)), .val (.int (own_min p2 p3)), .val (.int (own_max p2 p3)), .val (.int qa), .val (.int qb), .val (.double (FP.i2d p5)), .second, .val (.ref b11), .val (.ref b13), .unset] [(.ref b11)])) _
    refine XS.iconst X19.here hx rfl (hb hby at_71) ?_
    show Steps p.tables e below (T19.setTop (mkF m 72 #[.val (.int p0), .val (.int p1), .val (.int p2), .val (.int p3), .val (.int p4), .val (.int p5), .val (.int (own_min p0 p1)), .val (.int (own_max p0 p1)), .val (.int (own_min p2 p3)), .val (.int (own_max p2 p3)), .val (.int qa), .val (.int qb), .val (.double (FP.i2d p5)), .second, .val (.ref b11), .val (.ref b13), .unset] [(.int (2 : Int32)), (.ref b11)])) _
    refine XS.dload X19.here hx rfl (hb hby at_72) rfl ?_
    show Steps p.tables e below (T19.setTop (mkF m 74 #[.val (.int p0), .val (.int p1), .val (.int p2), .val (.int p3), .val (.int p4), .val (.int p5), .val (.int (own_min p0 p1)), .val (.int (own_max p0 p1)), .val (.int (own_min p2 p3)), .val (.int (own_max p2 p3)), .val (.int qa), .val (.int qb), .val (.double (FP.i2d p5)), .second, .val (.ref b11), .val (.ref b13), .unset] [(.double (FP.i2d p5)), (.int (2 : Int32)), (.ref b11)])) _
    exact k
  refine own_go k20 ?_
  clear k20
  obtain ⟨cl21, Ar21, q21, S21, N21, H21, G21⟩ := id (f19_0)
  have hi21 : ¬ ((2 : Int32) < 0 ∨ cl21.slots.size ≤ ((2 : Int32)).toNatClampNeg) := inb_of S21 ⟨by decide, by decide⟩
  obtain ⟨T22, h22, X22, e22, W22, st22⟩ := stD X19 hx hZ e19 Ar21 (j := (2 : Int32)) hi21 (g := (mkF m 74 #[.val (.int p0), .val (.int p1), .val (.int p2), .val (.int p3), .val (.int p4), .val (.int p5), .val (.int (own_min p0 p1)), .val (.int (own_max p0 p1)), .val (.int (own_min p2 p3)), .val (.int (own_max p2 p3)), .val (.int qa), .val (.int qb), .val (.double (FP.i2d p5)), .second, .val (.ref b11), .val (.ref b13), .unset] [(.double (FP.i2d p5)), (.int (2 : Int32)), (.ref b11)])) rfl rfl (hb hby at_74)
  refine own_go st22 ?_
  have V22 : Arv Z h22 b11 k11 .double (5 : Int32) [(.double (FP.i2d p5)), (.double (FP.i2d p5)), (.double (FP.i2d p5)), (.double (0 : UInt64)), (.double (0 : UInt64))] (.double (0 : UInt64)) := Arv.set Ar21 q21 S21 N21 H21 G21 rfl W22 2 rfl (Nat.le_of_ble_eq_true rfl)
  have f22_0 : Arv Z h22 b11 k11 .double (5 : Int32) [(.double (FP.i2d p5)), (.double (FP.i2d p5)), (.double (FP.i2d p5)), (.double (0 : UInt64)), (.double (0 : UInt64))] (.double (0 : UInt64)) := V22
  have f22_1 : Arv Z h22 b13 k13 .double (5 : Int32) [(.double (0 : UInt64)), (.double (0 : UInt64)), (.double (0 : UInt64)), (.double (0 : UInt64)), (.double (0 : UInt64))] (.double (0 : UInt64)) := f19_1.other W22 ((Ne.symm ne_b11_b13))
  have N22 := Fr.snoc X22 N19 g_b11
  have Z22 : n0 ≤ h22.size := Nat.le_trans Z19 (Keep.of_wr W22).1
  have k23 : ∀ t, Steps p.tables e below (T22.setTop (mkF m 80 #[.val (.int p0), .val (.int p1), .val (.int p2), .val (.int p3), .val (.int p4), .val (.int p5), .val (.int (own_min p0 p1)), .val (.int (own_max p0 p1)), .val (.int (own_min p2 p3)), .val (.int (own_max p2 p3)), .val (.int qa), .val (.int qb), .val (.double (FP.i2d p5)), .second, .val (.ref b11), .val (.ref b13), .unset] [(.double (FP.i2d p5)), (.int (3 : Int32)), (.ref b11)])) t → Steps p.tables e below (T22.setTop (mkF m 75 #[.val (.int p0), .val (.int p1), .val (.int p2), .val (.int p3), .val (.int p4), .val (.int p5), .val (.int (own_min p0 p1)), .val (.int (own_max p0 p1)), .val (.int (own_min p2 p3)), .val (.int (own_max p2 p3)), .val (.int qa), .val (.int qb), .val (.double (FP.i2d p5)), .second, .val (.ref b11), .val (.ref b13), .unset] [])) t := fun t k => by
    refine XS.aload X22.here hx rfl (hb hby at_75) rfl rfl ?_
    show Steps p.tables e below (T22.setTop (mkF m 77 #[.val (.int p0), .val (.int p1), .val (.int p2), .val (.int p3), .val (.int p4), .val (.int p5), .val (.int (own_min p0 p1)), .val (.int (own_max p0 p1)), .val (.int (own_min p2 p3)), .val (.int (own_max p2 p3)), .val (.int qa), .val (.int qb), .val (.double (FP.i2d p5)), .second, .val (.ref b11), .val (.ref b13), .unset] [(.ref b11)])) _
    refine XS.iconst X22.here hx rfl (hb hby at_77) ?_
    show Steps p.tables e below (T22.setTop (mkF m 78 #[.val (.int p0), .val (.int p1), .val (.int p2), .val (.int p3), .val (.int p4), .val (.int p5), .val (.int (own_min p0 p1)), .val (.int (own_max p0 p1)), .val (.int (own_min p2 p3)), .val (.int (own_max p2 p3)), .val (.int qa), .val (.int qb), .val (.double (FP.i2d p5)), .second, .val (.ref b11), .val (.ref b13), .unset] [(.int (3 : Int32)), (.ref b11)])) _
    refine XS.dload X22.here hx rfl (hb hby at_78) rfl ?_
    show Steps p.tables e below (T22.setTop (mkF m 80 #[.val (.int p0), .val (.int p1), .val (.int p2), .val (.int p3), .val (.int p4), .val (.int p5), .val (.int (own_min p0 p1)), .val (.int (own_max p0 p1)), .val (.int (own_min p2 p3)), .val (.int (own_max p2 p3)), .val (.int qa), .val (.int qb), .val (.double (FP.i2d p5)), .second, .val (.ref b11), .val (.ref b13), .unset] [(.double (FP.i2d p5)), (.int (3 : Int32)), (.ref b11)])) _
    exact k
  refine own_go k23 ?_
  clear k23
  obtain ⟨cl24, Ar24, q24, S24, N24, H24, G24⟩ := id (f22_0)
  have hi24 : ¬ ((3 : Int32) < 0 ∨ cl24.slots.size ≤ ((3 : Int32)).toNatClampNeg) := inb_of S24 ⟨by decide, by decide⟩
  obtain ⟨T25, h25, X25, e25, W25, st25⟩ := stD X22 hx hZ e22 Ar24 (j := (3 : Int32)) hi24 (g := (mkF m 80 #[.val (.int p0), .val (.int p1), .val (.int p2), .val (.int p3), .val (.int p4), .val (.int p5), .val (.int (own_min p0 p1)), .val (.int (own_max p0 p1)), .val (.int (own_min p2 p3)), .val (.int (own_max p2 p3)), .val (.int qa), .val (.int qb), .val (.double (FP.i2d p5)), .second, .val (.ref b11), .val (.ref b13), .unset] [(.double (FP.i2d p5)), (.int (3 : Int32)), (.ref b11)])) rfl rfl (hb hby at_80)
  refine own_go st25 ?_
  have V25 : Arv Z h25 b11 k11 .double (5 : Int32) [(.double (FP.i2d p5)), (.double (FP.i2d p5)), (.double (FP.i2d p5)), (.double (FP.i2d p5)), (.double (0 : UInt64))] (.double (0 : UInt64)) := Arv.set Ar24 q24 S24 N24 H24 G24 rfl W25 3 rfl (Nat.le_of_ble_eq_true rfl)
  have f25_0 : Arv Z h25 b11 k11 .double (5 : Int32) [(.double (FP.i2d p5)), (.double (FP.i2d p5)), (.double (FP.i2d p5)), (.double (FP.i2d p5)), (.double (0 : UInt64))] (.double (0 : UInt64)) := V25
  have f25_1 : Arv Z h25 b13 k13 .double (5 : Int32) [(.double (0 : UInt64)), (.double (0 : UInt64)), (.double (0 : UInt64)), (.double (0 : UInt64)), (.double (0 : UInt64))] (.double (0 : UInt64)) := f22_1.other W25 ((Ne.symm ne_b11_b13))
  have N25 := Fr.snoc X25 N22 g_b11
  have Z25 : n0 ≤ h25.size := Nat.le_trans Z22 (Keep.of_wr W25).1
  have k26 : ∀ t, Steps p.tables e below (T25.setTop (mkF m 86 #[.val (.int p0), .val (.int p1), .val (.int p2), .val (.int p3), .val (.int p4), .val (.int p5), .val (.int (own_min p0 p1)), .val (.int (own_max p0 p1)), .val (.int (own_min p2 p3)), .val (.int (own_max p2 p3)), .val (.int qa), .val (.int qb), .val (.double (FP.i2d p5)), .second, .val (.ref b11), .val (.ref b13), .unset] [(.double (FP.i2d p5)), (.int (4 : Int32)), (.ref b11)])) t → Steps p.tables e below (T25.setTop (mkF m 81 #[.val (.int p0), .val (.int p1), .val (.int p2), .val (.int p3), .val (.int p4), .val (.int p5), .val (.int (own_min p0 p1)), .val (.int (own_max p0 p1)), .val (.int (own_min p2 p3)), .val (.int (own_max p2 p3)), .val (.int qa), .val (.int qb), .val (.double (FP.i2d p5)), .second, .val (.ref b11), .val (.ref b13), .unset] [])) t := fun t k => by
    refine XS.aload X25.here hx rfl (hb hby at_81) rfl rfl ?_
    show Steps p.tables e below (T25.setTop (mkF m 83 #[.val (.int p0), .val (.int p1), .val (.int p2), .val (.int p3), .val (.int p4), .val (.int p5), .val (.int (own_min p0 p1)), .val (.int (own_max p0 p1)), .val (.int (own_min p2 p3)), .val (.int (own_max p2 p3)), .val (.int qa), .val (.int qb), .val (.double (FP.i2d p5)), .second, .val (.ref b11), .val (.ref b13), .unset] [(.ref b11)])) _
    refine XS.iconst X25.here hx rfl (hb hby at_83) ?_
    show Steps p.tables e below (T25.setTop (mkF m 84 #[.val (.int p0), .val (.int p1), .val (.int p2), .val (.int p3), .val (.int p4), .val (.int p5), .val (.int (own_min p0 p1)), .val (.int (own_max p0 p1)), .val (.int (own_min p2 p3)), .val (.int (own_max p2 p3)), .val (.int qa), .val (.int qb), .val (.double (FP.i2d p5)), .second, .val (.ref b11), .val (.ref b13), .unset] [(.int (4 : Int32)), (.ref b11)])) _
    refine XS.dload X25.here hx rfl (hb hby at_84) rfl ?_
    show Steps p.tables e below (T25.setTop (mkF m 86 #[.val (.int p0), .val (.int p1), .val (.int p2), .val (.int p3), .val (.int p4), .val (.int p5), .val (.int (own_min p0 p1)), .val (.int (own_max p0 p1)), .val (.int (own_min p2 p3)), .val (.int (own_max p2 p3)), .val (.int qa), .val (.int qb), .val (.double (FP.i2d p5)), .second, .val (.ref b11), .val (.ref b13), .unset] [(.double (FP.i2d p5)), (.int (4 : Int32)), (.ref b11)])) _
    exact k
  refine own_go k26 ?_
  clear k26
  obtain ⟨cl27, Ar27, q27, S27, N27, H27, G27⟩ := id (f25_0)
  have hi27 : ¬ ((4 : Int32) < 0 ∨ cl27.slots.size ≤ ((4 : Int32)).toNatClampNeg) := inb_of S27 ⟨by decide, by decide⟩
  obtain ⟨T28, h28, X28, e28, W28, st28⟩ := stD X25 hx hZ e25 Ar27 (j := (4 : Int32)) hi27 (g := (mkF m 86 #[.val (.int p0), .val (.int p1), .val (.int p2), .val (.int p3), .val (.int p4), .val (.int p5), .val (.int (own_min p0 p1)), .val (.int (own_max p0 p1)), .val (.int (own_min p2 p3)), .val (.int (own_max p2 p3)), .val (.int qa), .val (.int qb), .val (.double (FP.i2d p5)), .second, .val (.ref b11), .val (.ref b13), .unset] [(.double (FP.i2d p5)), (.int (4 : Int32)), (.ref b11)])) rfl rfl (hb hby at_86)
  refine own_go st28 ?_
  have V28 : Arv Z h28 b11 k11 .double (5 : Int32) [(.double (FP.i2d p5)), (.double (FP.i2d p5)), (.double (FP.i2d p5)), (.double (FP.i2d p5)), (.double (FP.i2d p5))] (.double (0 : UInt64)) := Arv.set Ar27 q27 S27 N27 H27 G27 rfl W28 4 rfl (Nat.le_of_ble_eq_true rfl)
  have f28_0 : Arv Z h28 b11 k11 .double (5 : Int32) [(.double (FP.i2d p5)), (.double (FP.i2d p5)), (.double (FP.i2d p5)), (.double (FP.i2d p5)), (.double (FP.i2d p5))] (.double (0 : UInt64)) := V28
  have f28_1 : Arv Z h28 b13 k13 .double (5 : Int32) [(.double (0 : UInt64)), (.double (0 : UInt64)), (.double (0 : UInt64)), (.double (0 : UInt64)), (.double (0 : UInt64))] (.double (0 : UInt64)) := f25_1.other W28 ((Ne.symm ne_b11_b13))
  have N28 := Fr.snoc X28 N25 g_b11
  have Z28 : n0 ≤ h28.size := Nat.le_trans Z25 (Keep.of_wr W28).1
  have k29 : ∀ t, Steps p.tables e below (T28.setTop (mkF m 92 #[.val (.int p0), .val (.int p1), .val (.int p2), .val (.int p3), .val (.int p4), .val (.int p5), .val (.int (own_min p0 p1)), .val (.int (own_max p0 p1)), .val (.int (own_min p2 p3)), .val (.int (own_max p2 p3)), .val (.int qa), .val (.int qb), .val (.double (FP.i2d p5)), .second, .val (.ref b11), .val (.ref b13), .unset] [(.double (FP.i2d p5)), (.int (0 : Int32)), (.ref b13)])) t → Steps p.tables e below (T28.setTop (mkF m 87 #[.val (.int p0), .val (.int p1), .val (.int p2), .val (.int p3), .val (.int p4), .val (.int p5), .val (.int (own_min p0 p1)), .val (.int (own_max p0 p1)), .val (.int (own_min p2 p3)), .val (.int (own_max p2 p3)), .val (.int qa), .val (.int qb), .val (.double (FP.i2d p5)), .second, .val (.ref b11), .val (.ref b13), .unset] [])) t := fun t k => by
    refine XS.aload X28.here hx rfl (hb hby at_87) rfl rfl ?_
    show Steps p.tables e below (T28.setTop (mkF m 89 #[.val (.int p0), .val (.int p1), .val (.int p2), .val (.int p3), .val (.int p4), .val (.int p5), .val (.int (own_min p0 p1)), .val (.int (own_max p0 p1)), .val (.int (own_min p2 p3)), .val (.int (own_max p2 p3)), .val (.int qa), .val (.int qb), .val (.double (FP.i2d p5)), .second, .val (.ref b11), .val (.ref b13), .unset] [(.ref b13)])) _
    refine XS.iconst X28.here hx rfl (hb hby at_89) ?_
    show Steps p.tables e below (T28.setTop (mkF m 90 #[.val (.int p0), .val (.int p1), .val (.int p2), .val (.int p3), .val (.int p4), .val (.int p5), .val (.int (own_min p0 p1)), .val (.int (own_max p0 p1)), .val (.int (own_min p2 p3)), .val (.int (own_max p2 p3)), .val (.int qa), .val (.int qb), .val (.double (FP.i2d p5)), .second, .val (.ref b11), .val (.ref b13), .unset] [(.int (0 : Int32)), (.ref b13)])) _
    refine XS.dload X28.here hx rfl (hb hby at_90) rfl ?_
    show Steps p.tables e below (T28.setTop (mkF m 92 #[.val (.int p0), .val (.int p1), .val (.int p2), .val (.int p3), .val (.int p4), .val (.int p5), .val (.int (own_min p0 p1)), .val (.int (own_max p0 p1)), .val (.int (own_min p2 p3)), .val (.int (own_max p2 p3)), .val (.int qa), .val (.int qb), .val (.double (FP.i2d p5)), .second, .val (.ref b11), .val (.ref b13), .unset] [(.double (FP.i2d p5)), (.int (0 : Int32)), (.ref b13)])) _
    exact k
  refine own_go k29 ?_
  clear k29
  obtain ⟨cl30, Ar30, q30, S30, N30, H30, G30⟩ := id (f28_1)
  have hi30 : ¬ ((0 : Int32) < 0 ∨ cl30.slots.size ≤ ((0 : Int32)).toNatClampNeg) := inb_of S30 ⟨by decide, by decide⟩
  obtain ⟨T31, h31, X31, e31, W31, st31⟩ := stD X28 hx hZ e28 Ar30 (j := (0 : Int32)) hi30 (g := (mkF m 92 #[.val (.int p0), .val (.int p1), .val (.int p2), .val (.int p3), .val (.int p4), .val (.int p5), .val (.int (own_min p0 p1)), .val (.int (own_max p0 p1)), .val (.int (own_min p2 p3)), .val (.int (own_max p2 p3)), .val (.int qa), .val (.int qb), .val (.double (FP.i2d p5)), .second, .val (.ref b11), .val (.ref b13), .unset] [(.double (FP.i2d p5)), (.int (0 : Int32)), (.ref b13)])) rfl rfl (hb hby at_92)
  refine own_go st31 ?_
  have V31 : Arv Z h31 b13 k13 .double (5 : Int32) [(.double (FP.i2d p5)), (.double (0 : UInt64)), (.double (0 : UInt64)), (.double (0 : UInt64)), (.double (0 : UInt64))] (.double (0 : UInt64)) := Arv.set Ar30 q30 S30 N30 H30 G30 rfl W31 0 rfl (Nat.le_of_ble_eq_true rfl)
  have f31_0 : Arv Z h31 b11 k11 .double (5 : Int32) [(.double (FP.i2d p5)), (.double (FP.i2d p5)), (.double (FP.i2d p5)), (.double (FP.i2d p5)), (.double (FP.i2d p5))] (.double (0 : UInt64)) := f28_0.other W31 (ne_b11_b13)
  have f31_1 : Arv Z h31 b13 k13 .double (5 : Int32) [(.double (FP.i2d p5)), (.double (0 : UInt64)), (.double (0 : UInt64)), (.double (0 : UInt64)), (.double (0 : UInt64))] (.double (0 : UInt64)) := V31
  have N31 := Fr.snoc X31 N28 g_b13
  have Z31 : n0 ≤ h31.size := Nat.le_trans Z28 (Keep.of_wr W31).1
  have k32 : ∀ t, Steps p.tables e below (T31.setTop (mkF m 98 #[.val (.int p0), .val (.int p1), .val (.int p2), .val (.int p3), .val (.int p4), .val (.int p5), .val (.int (own_min p0 p1)), .val (.int (own_max p0 p1)), .val (.int (own_min p2 p3)), .val (.int (own_max p2 p3)), .val (.int qa), .val (.int qb), .val (.double (FP.i2d p5)), .second, .val (.ref b11), .val (.ref b13), .unset] [(.double (FP.i2d p5)), (.int (1 : Int32)), (.ref b13)])) t → Steps p.tables e below (T31.setTop (mkF m 93 #[.val (.int p0), .val (.int p1), .val (.int p2), .val (.int p3), .val (.int p4), .val (.int p5), .val (.int (own_min p0 p1)), .val (.int (own_max p0 p1)), .val (.int (own_min p2 p3)), .val (.int (own_max p2 p3)), .val (.int qa), .val (.int qb), .val (.double (FP.i2d p5)), .second, .val (.ref b11), .val (.ref b13), .unset] [])) t := fun t k => by
    refine XS.aload X31.here hx rfl (hb hby at_93) rfl rfl ?_
    show Steps p.tables e below (T31.setTop (mkF m 95 #[.val (.int p0), .val (.int p1), .val (.int p2), .val (.int p3), .val (.int p4), .val (.int p5), .val (.int (own_min p0 p1)), .val (.int (own_max p0 p1)), .val (.int (own_min p2 p3)), .val (.int (own_max p2 p3)), .val (.int qa), .val (.int qb), .val (.double (FP.i2d p5)), .second, .val (.ref b11), .val (.ref b13), .unset] [(.ref b13)])) _
    refine XS.iconst X31.here hx rfl (hb hby at_95) ?_
    show Steps p.tables e below (T31.setTop (mkF m 96 #[.val (.int p0), .val (.int p1), .val (.int p2), .val (.int p3), .val (.int p4), .val (.int p5), .val (.int (own_min p0 p1)), .val (.int (own_max p0 p1)), .val (.int (own_min p2 p3)), .val (.int (own_max p2 p3)), .val (.int qa), .val (.int qb), .val (.double (FP.i2d p5)), .second, .val (.ref b11), .val (.ref b13), .unset] [(.int (1 : Int32)), (.ref b13)])) _
    refine XS.dload X31.here hx rfl (hb hby at_96) rfl ?_
    show Steps p.tables e below (T31.setTop (mkF m 98 #[.val (.int p0), .val (.int p1), .val (.int p2), .val (.int p3), .val (.int p4), .val (.int p5), .val (.int (own_min p0 p1)), .val (.int (own_max p0 p1)), .val (.int (own_min p2 p3)), .val (.int (own_max p2 p3)), .val (.int qa), .val (.int qb), .val (.double (FP.i2d p5)), .second, .val (.ref b11), .val (.ref b13), .unset] [(.double (FP.i2d p5)), (.int (1 : Int32)), (.ref b13)])) _
    exact k
  refine own_go k32 ?_
  clear k32
  obtain ⟨cl33, Ar33, q33, S33, N33, H33, G33⟩ := id (f31_1)
  have hi33 : ¬ ((1 : Int32) < 0 ∨ cl33.slots.size ≤ ((1 : Int32)).toNatClampNeg) := inb_of S33 ⟨by decide, by decide⟩
  obtain ⟨T34, h34, X34, e34, W34, st34⟩ := stD X31 hx hZ e31 Ar33 (j := (1 : Int32)) hi33 (g := (mkF m 98 #[.val (.int p0), .val (.int p1), .val (.int p2), .val (.int p3), .val (.int p4), .val (.int p5), .val (.int (own_min p0 p1)), .val (.int (own_max p0 p1)), .val (.int (own_min p2 p3)), .val (.int (own_max p2 p3)), .val (.int qa), .val (.int qb), .val (.double (FP.i2d p5)), .second, .val (.ref b11), .val (.ref b13), .unset] [(.double (FP.i2d p5)), (.int (1 : Int32)), (.ref b13)])) rfl rfl (hb hby at_98)
  refine own_go st34 ?_
  have V34 : Arv Z h34 b13 k13 .double (5 : Int32) [(.double (FP.i2d p5)), (.double (FP.i2d p5)), (.double (0 : UInt64)), (.double (0 : UInt64)), (.double (0 : UInt64))] (.double (0 : UInt64)) := Arv.set Ar33 q33 S33 N33 H33 G33 rfl W34 1 rfl (Nat.le_of_ble_eq_true rfl)
  have f34_0 : Arv Z h34 b11 k11 .double (5 : Int32) [(.double (FP.i2d p5)), (.double (FP.i2d p5)), (.double (FP.i2d p5)), (.double (FP.i2d p5)), (.double (FP.i2d p5))] (.double (0 : UInt64)) := f31_0.other W34 (ne_b11_b13)
  have f34_1 : Arv Z h34 b13 k13 .double (5 : Int32) [(.double (FP.i2d p5)), (.double (FP.i2d p5)), (.double (0 : UInt64)), (.double (0 : UInt64)), (.double (0 : UInt64))] (.double (0 : UInt64)) := V34
  have N34 := Fr.snoc X34 N31 g_b13
  have Z34 : n0 ≤ h34.size := Nat.le_trans Z31 (Keep.of_wr W34).1
  have k35 : ∀ t, Steps p.tables e below (T34.setTop (mkF m 104 #[.val (.int p0), .val (.int p1), .val (.int p2), .val (.int p3), .val (.int p4), .val (.int p5), .val (.int (own_min p0 p1)), .val (.int (own_max p0 p1)), .val (.int (own_min p2 p3)), .val (.int (own_max p2 p3)), .val (.int qa), .val (.int qb), .val (.double (FP.i2d p5)), .second, .val (.ref b11), .val (.ref b13), .unset] [(.double (FP.i2d p5)), (.int (2 : Int32)), (.ref b13)])) t → Steps p.tables e below (T34.setTop (mkF m 99 #[.val (.int p0), .val (.int p1), .val (.int p2), .val (.int p3), .val (.int p4), .val (.int p5), .val (.int (own_min p0 p1)), .val (.int (own_max p0 p1)), .val (.int (own_min p2 p3)), .val (.int (own_max p2 p3)), .val (.int qa), .val (.int qb), .val (.double (FP.i2d p5)), .second, .val (.ref b11), .val (.ref b13), .unset] [])) t := fun t k => by
    refine XS.aload X34.here hx rfl (hb hby at_99) rfl rfl ?_
    show Steps p.tables e below (T34.setTop (mkF m 101 #[.val (.int p0), .val (.int p1), .val (.int p2), .val (.int p3), .val (.int p4), .val (.int p5), .val (.int (own_min p0 p1)), .val (.int (own_max p0 p1)), .val (.int (own_min p2 p3)), .val (.int (own_max p2 p3)), .val (.int qa), .val (.int qb), .val (.double (FP.i2d p5)), .second, .val (.ref b11), .val (.ref b13), .unset] [(.ref b13)])) _
    refine XS.iconst X34.here hx rfl (hb hby at_101) ?_
    show Steps p.tables e below (T34.setTop (mkF m 102 #[.val (.int p0), .val (.int p1), .val (.int p2), .val (.int p3), .val (.int p4), .val (.int p5), .val (.int (own_min p0 p1)), .val (.int (own_max p0 p1)), .val (.int (own_min p2 p3)), .val (.int (own_max p2 p3)), .val (.int qa), .val (.int qb), .val (.double (FP.i2d p5)), .second, .val (.ref b11), .val (.ref b13), .unset] [(.int (2 : Int32)), (.ref b13)])) _
    refine XS.dload X34.here hx rfl (hb hby at_102) rfl ?_
    show Steps p.tables e below (T34.setTop (mkF m 104 #[.val (.int p0), .val (.int p1), .val (.int p2), .val (.int p3), .val (.int p4), .val (.int p5), .val (.int (own_min p0 p1)), .val (.int (own_max p0 p1)), .val (.int (own_min p2 p3)), .val (.int (own_max p2 p3)), .val (.int qa), .val (.int qb), .val (.double (FP.i2d p5)), .second, .val (.ref b11), .val (.ref b13), .unset] [(.double (FP.i2d p5)), (.int (2 : Int32)), (.ref b13)])) _
    exact k
  refine own_go k35 ?_
  clear k35
  obtain ⟨cl36, Ar36, q36, S36, N36, H36, G36⟩ := id (f34_1)
  have hi36 : ¬ ((2 : Int32) < 0 ∨ cl36.slots.size ≤ ((2 : Int32)).toNatClampNeg) := inb_of S36 ⟨by decide, by decide⟩
  obtain ⟨T37, h37, X37, e37, W37, st37⟩ := stD X34 hx hZ e34 Ar36 (j := (2 : Int32)) hi36 (g := (mkF m 104 #[.val (.int p0), .val (.int p1), .val (.int p2), .val (.int p3), .val (.int p4), .val (.int p5), .val (.int (own_min p0 p1)), .val (.int (own_max p0 p1)), .val (.int (own_min p2 p3)), .val (.int (own_max p2 p3)), .val (.int qa), .val (.int qb), .val (.double (FP.i2d p5)), .second, .val (.ref b11), .val (.ref b13), .unset] [(.double (FP.i2d p5)), (.int (2 : Int32)), (.ref b13)])) rfl rfl (hb hby at_104)
  refine own_go st37 ?_
  have V37 : Arv Z h37 b13 k13 .double (5 : Int32) [(.double (FP.i2d p5)), (.double (FP.i2d p5)), (.double (FP.i2d p5)), (.double (0 : UInt64)), (.double (0 : UInt64))] (.double (0 : UInt64)) := Arv.set Ar36 q36 S36 N36 H36 G36 rfl W37 2 rfl (Nat.le_of_ble_eq_true rfl)
  have f37_0 : Arv Z h37 b11 k11 .double (5 : Int32) [(.double (FP.i2d p5)), (.double (FP.i2d p5)), (.double (FP.i2d p5)), (.double (FP.i2d p5)), (.double (FP.i2d p5))] (.double (0 : UInt64)) := f34_0.other W37 (ne_b11_b13)
  have f37_1 : Arv Z h37 b13 k13 .double (5 : Int32) [(.double (FP.i2d p5)), (.double (FP.i2d p5)), (.double (FP.i2d p5)), (.double (0 : UInt64)), (.double (0 : UInt64))] (.double (0 : UInt64)) := V37
  have N37 := Fr.snoc X37 N34 g_b13
  have Z37 : n0 ≤ h37.size := Nat.le_trans Z34 (Keep.of_wr W37).1
  have k38 : ∀ t, Steps p.tables e below (T37.setTop (mkF m 110 #[.val (.int p0), .val (.int p1), .val (.int p2), .val (.int p3), .val (.int p4), .val (.int p5), .val (.int (own_min p0 p1)), .val (.int (own_max p0 p1)), .val (.int (own_min p2 p3)), .val (.int (own_max p2 p3)), .val (.int qa), .val (.int qb), .val (.double (FP.i2d p5)), .second, .val (.ref b11), .val (.ref b13), .unset] [(.double (FP.i2d p5)), (.int (3 : Int32)), (.ref b13)])) t → Steps p.tables e below (T37.setTop (mkF m 105 #[.val (.int p0), .val (.int p1), .val (.int p2), .val (.int p3), .val (.int p4), .val (.int p5), .val (.int (own_min p0 p1)), .val (.int (own_max p0 p1)), .val (.int (own_min p2 p3)), .val (.int (own_max p2 p3)), .val (.int qa), .val (.int qb), .val (.double (FP.i2d p5)), .second, .val (.ref b11), .val (.ref b13), .unset] [])) t := fun t k => by
    refine XS.aload X37.here hx rfl (hb hby at_105) rfl rfl ?_
    show Steps p.tables e below (T37.setTop (mkF m 107 #[.val (.int p0), .val (.int p1), .val (.int p2), .val (.int p3), .val (.int p4), .val (.int p5), .val (.int (own_min p0 p1)), .val (.int (own_max p0 p1)), .val (.int (own_min p2 p3)), .val (.int (own_max p2 p3)), .val (.int qa), .val (.int qb), .val (.double (FP.i2d p5)), .second, .val (.ref b11), .val (.ref b13), .unset] [(.ref b13)])) _
    refine XS.iconst X37.here hx rfl (hb hby at_107) ?_
    show Steps p.tables e below (T37.setTop (mkF m 108 #[.val (.int p0), .val (.int p1), .val (.int p2), .val (.int p3), .val (.int p4), .val (.int p5), .val (.int (own_min p0 p1)), .val (.int (own_max p0 p1)), .val (.int (own_min p2 p3)), .val (.int (own_max p2 p3)), .val (.int qa), .val (.int qb), .val (.double (FP.i2d p5)), .second, .val (.ref b11), .val (.ref b13), .unset] [(.int (3 : Int32)), (.ref b13)])) _
    refine XS.dload X37.here hx rfl (hb hby at_108) rfl ?_
    show Steps p.tables e below (T37.setTop (mkF m 110 #[.val (.int p0), .val (.int p1), .val (.int p2), .val (.int p3), .val (.int p4), .val (.int p5), .val (.int (own_min p0 p1)), .val (.int (own_max p0 p1)), .val (.int (own_min p2 p3)), .val (.int (own_max p2 p3)), .val (.int qa), .val (.int qb), .val (.double (FP.i2d p5)), .second, .val (.ref b11), .val (.ref b13), .unset] [(.double (FP.i2d p5)), (.int (3 : Int32)), (.ref b13)])) _
    exact k
  refine own_go k38 ?_
  clear k38
  obtain ⟨cl39, Ar39, q39, S39, N39, H39, G39⟩ := id (f37_1)
  have hi39 : ¬ ((3 : Int32) < 0 ∨ cl39.slots.size ≤ ((3 : Int32)).toNatClampNeg) := inb_of S39 ⟨by decide, by decide⟩
  obtain ⟨T40, h40, X40, e40, W40, st40⟩ := stD X37 hx hZ e37 Ar39 (j := (3 : Int32)) hi39 (g := (mkF m 110 #[.val (.int p0), .val (.int p1), .val (.int p2), .val (.int p3), .val (.int p4), .val (.int p5), .val (.int (own_min p0 p1)), .val (.int (own_max p0 p1)), .val (.int (own_min p2 p3)), .val (.int (own_max p2 p3)), .val (.int qa), .val (.int qb), .val (.double (FP.i2d p5)), .second, .val (.ref b11), .val (.ref b13), .unset] [(.double (FP.i2d p5)), (.int (3 : Int32)), (.ref b13)])) rfl rfl (hb hby at_110)
  refine own_go st40 ?_
  have V40 : Arv Z h40 b13 k13 .double (5 : Int32) [(.double (FP.i2d p5)), (.double (FP.i2d p5)), (.double (FP.i2d p5)), (.double (FP.i2d p5)), (.double (0 : UInt64))] (.double (0 : UInt64)) := Arv.set Ar39 q39 S39 N39 H39 G39 rfl W40 3 rfl (Nat.le_of_ble_eq_true rfl)
  have f40_0 : Arv Z h40 b11 k11 .double (5 : Int32) [(.double (FP.i2d p5)), (.double (FP.i2d p5)), (.double (FP.i2d p5)), (.double (FP.i2d p5)), (.double (FP.i2d p5))] (.double (0 : UInt64)) := f37_0.other W40 (ne_b11_b13)
  have f40_1 : Arv Z h40 b13 k13 .double (5 : Int32) [(.double (FP.i2d p5)), (.double (FP.i2d p5)), (.double (FP.i2d p5)), (.double (FP.i2d p5)), (.double (0 : UInt64))] (.double (0 : UInt64)) := V40
  have N40 := Fr.snoc X40 N37 g_b13
  have Z40 : n0 ≤ h40.size := Nat.le_trans Z37 (Keep.of_wr W40).1
  have k41 : ∀ t, Steps p.tables e below (T40.setTop (mkF m 116 #[.val (.int p0), .val (.int p1), .val (.int p2), .val (.int p3), .val (.int p4), .val (.int p5), .val (.int (own_min p0 p1)), .val (.int (own_max p0 p1)), .val (.int (own_min p2 p3)), .val (.int (own_max p2 p3)), .val (.int qa), .val (.int qb), .val (.double (FP.i2d p5)), .second, .val (.ref b11), .val (.ref b13), .unset] [(.double (FP.i2d p5)), (.int (4 : Int32)), (.ref b13)])) t → Steps p.tables e below (T40.setTop (mkF m 111 #[.val (.int p0), .val (.int p1), .val (.int p2), .val (.int p3), .val (.int p4), .val (.int p5), .val (.int (own_min p0 p1)), .val (.int (own_max p0 p1)), .val (.int (own_min p2 p3)), .val (.int (own_max p2 p3)), .val (.int qa), .val (.int qb), .val (.double (FP.i2d p5)), .second, .val (.ref b11), .val (.ref b13), .unset] [])) t := fun t k => by
    refine XS.aload X40.here hx rfl (hb hby at_111) rfl rfl ?_
    show Steps p.tables e below (T40.setTop (mkF m 113 #[.val (.int p0), .val (.int p1), .val (.int p2), .val (.int p3), .val (.int p4), .val (.int p5), .val (.int (own_min p0 p1)), .val (.int (own_max p0 p1)), .val (.int (own_min p2 p3)), .val (.int (own_max p2 p3)), .val (.int qa), .val (.int qb), .val (.double (FP.i2d p5)), .second, .val (.ref b11), .val (.ref b13), .unset] [(.ref b13)])) _
    refine XS.iconst X40.here hx rfl (hb hby at_113) ?_
    show Steps p.tables e below (T40.setTop (mkF m 114 #[.val (.int p0), .val (.int p1), .val (.int p2), .val (.int p3), .val (.int p4), .val (.int p5), .val (.int (own_min p0 p1)), .val (.int (own_max p0 p1)), .val (.int (own_min p2 p3)), .val (.int (own_max p2 p3)), .val (.int qa), .val (.int qb), .val (.double (FP.i2d p5)), .second, .val (.ref b11), .val (.ref b13), .unset] [(.int (4 : Int32)), (.ref b13)])) _
    refine XS.dload X40.here hx rfl (hb hby at_114) rfl ?_
    show Steps p.tables e below (T40.setTop (mkF m 116 #[.val (.int p0), .val (.int p1), .val (.int p2), .val (.int p3), .val (.int p4), .val (.int p5), .val (.int (own_min p0 p1)), .val (.int (own_max p0 p1)), .val (.int (own_min p2 p3)), .val (.int (own_max p2 p3)), .val (.int qa), .val (.int qb), .val (.double (FP.i2d p5)), .second, .val (.ref b11), .val (.ref b13), .unset] [(.double (FP.i2d p5)), (.int (4 : Int32)), (.ref b13)])) _
    exact k
  refine own_go k41 ?_
  clear k41
  obtain ⟨cl42, Ar42, q42, S42, N42, H42, G42⟩ := id (f40_1)
  have hi42 : ¬ ((4 : Int32) < 0 ∨ cl42.slots.size ≤ ((4 : Int32)).toNatClampNeg) := inb_of S42 ⟨by decide, by decide⟩
  obtain ⟨T43, h43, X43, e43, W43, st43⟩ := stD X40 hx hZ e40 Ar42 (j := (4 : Int32)) hi42 (g := (mkF m 116 #[.val (.int p0), .val (.int p1), .val (.int p2), .val (.int p3), .val (.int p4), .val (.int p5), .val (.int (own_min p0 p1)), .val (.int (own_max p0 p1)), .val (.int (own_min p2 p3)), .val (.int (own_max p2 p3)), .val (.int qa), .val (.int qb), .val (.double (FP.i2d p5)), .second, .val (.ref b11), .val (.ref b13), .unset] [(.double (FP.i2d p5)), (.int (4 : Int32)), (.ref b13)])) rfl rfl (hb hby at_116)
  refine own_go st43 ?_
  have V43 : Arv Z h43 b13 k13 .double (5 : Int32) [(.double (FP.i2d p5)), (.double (FP.i2d p5)), (.double (FP.i2d p5)), (.double (FP.i2d p5)), (.double (FP.i2d p5))] (.double (0 : UInt64)) := Arv.set Ar42 q42 S42 N42 H42 G42 rfl W43 4 rfl (Nat.le_of_ble_eq_true rfl)
  have f43_0 : Arv Z h43 b11 k11 .double (5 : Int32) [(.double (FP.i2d p5)), (.double (FP.i2d p5)), (.double (FP.i2d p5)), (.double (FP.i2d p5)), (.double (FP.i2d p5))] (.double (0 : UInt64)) := f40_0.other W43 (ne_b11_b13)
  have f43_1 : Arv Z h43 b13 k13 .double (5 : Int32) [(.double (FP.i2d p5)), (.double (FP.i2d p5)), (.double (FP.i2d p5)), (.double (FP.i2d p5)), (.double (FP.i2d p5))] (.double (0 : UInt64)) := V43
  have N43 := Fr.snoc X43 N40 g_b13
  have Z43 : n0 ≤ h43.size := Nat.le_trans Z40 (Keep.of_wr W43).1
  have k44 : ∀ t, Steps p.tables e below (T43.setTop (mkF m 124 #[.val (.int p0), .val (.int p1), .val (.int p2), .val (.int p3), .val (.int p4), .val (.int p5), .val (.int (own_min p0 p1)), .val (.int (own_max p0 p1)), .val (.int (own_min p2 p3)), .val (.int (own_max p2 p3)), .val (.int qa), .val (.int qb), .val (.double (FP.i2d p5)), .second, .val (.ref b11), .val (.ref b13), .unset] [(.double (FP.i2d (own_min p0 p1))), (.int qa), (.ref b11)])) t → Steps p.tables e below (T43.setTop (mkF m 117 #[.val (.int p0), .val (.int p1), .val (.int p2), .val (.int p3), .val (.int p4), .val (.int p5), .val (.int (own_min p0 p1)), .val (.int (own_max p0 p1)), .val (.int (own_min p2 p3)), .val (.int (own_max p2 p3)), .val (.int qa), .val (.int qb), .val (.double (FP.i2d p5)), .second, .val (.ref b11), .val (.ref b13), .unset] [])) t := fun t k => by
    refine XS.aload X43.here hx rfl (hb hby at_117) rfl rfl ?_
    show Steps p.tables e below (T43.setTop (mkF m 119 #[.val (.int p0), .val (.int p1), .val (.int p2), .val (.int p3), .val (.int p4), .val (.int p5), .val (.int (own_min p0 p1)), .val (.int (own_max p0 p1)), .val (.int (own_min p2 p3)), .val (.int (own_max p2 p3)), .val (.int qa), .val (.int qb), .val (.double (FP.i2d p5)), .second, .val (.ref b11), .val (.ref b13), .unset] [(.ref b11)])) _
    refine XS.iload X43.here hx rfl (hb hby at_119) rfl ?_
    show Steps p.tables e below (T43.setTop (mkF m 121 #[.val (.int p0), .val (.int p1), .val (.int p2), .val (.int p3), .val (.int p4), .val (.int p5), .val (.int (own_min p0 p1)), .val (.int (own_max p0 p1)), .val (.int (own_min p2 p3)), .val (.int (own_max p2 p3)), .val (.int qa), .val (.int qb), .val (.double (FP.i2d p5)), .second, .val (.ref b11), .val (.ref b13), .unset] [(.int qa), (.ref b11)])) _
    refine XS.iload X43.here hx rfl (hb hby at_121) rfl ?_
    show Steps p.tables e below (T43.setTop (mkF m 123 #[.val (.int p0), .val (.int p1), .val (.int p2), .val (.int p3), .val (.int p4), .val (.int p5), .val (.int (own_min p0 p1)), .val (.int (own_max p0 p1)), .val (.int (own_min p2 p3)), .val (.int (own_max p2 p3)), .val (.int qa), .val (.int qb), .val (.double (FP.i2d p5)), .second, .val (.ref b11), .val (.ref b13), .unset] [(.int (own_min p0 p1)), (.int qa), (.ref b11)])) _
    refine XS.i2dS X43.here hx rfl (hb hby at_123) rfl rfl ?_
    show Steps p.tables e below (T43.setTop (mkF m 124 #[.val (.int p0), .val (.int p1), .val (.int p2), .val (.int p3), .val (.int p4), .val (.int p5), .val (.int (own_min p0 p1)), .val (.int (own_max p0 p1)), .val (.int (own_min p2 p3)), .val (.int (own_max p2 p3)), .val (.int qa), .val (.int qb), .val (.double (FP.i2d p5)), .second, .val (.ref b11), .val (.ref b13), .unset] [(.double (FP.i2d (own_min p0 p1))), (.int qa), (.ref b11)])) _
    exact k
  refine own_go k44 ?_
  clear k44
  obtain ⟨cl45, Ar45, q45, S45, N45, H45, G45⟩ := id (f43_0)
  have hi45 : ¬ (qa < 0 ∨ cl45.slots.size ≤ (qa).toNatClampNeg) := inb_of S45 (own_in c1).1
  obtain ⟨T46, h46, X46, e46, W46, st46⟩ := stD X43 hx hZ e43 Ar45 (j := qa) hi45 (g := (mkF m 124 #[.val (.int p0), .val (.int p1), .val (.int p2), .val (.int p3), .val (.int p4), .val (.int p5), .val (.int (own_min p0 p1)), .val (.int (own_max p0 p1)), .val (.int (own_min p2 p3)), .val (.int (own_max p2 p3)), .val (.int qa), .val (.int qb), .val (.double (FP.i2d p5)), .second, .val (.ref b11), .val (.ref b13), .unset] [(.double (FP.i2d (own_min p0 p1))), (.int qa), (.ref b11)])) rfl rfl (hb hby at_124)
  refine own_go st46 ?_
  have V46 : Arv Z h46 b11 k11 .double (5 : Int32) ([(.double (FP.i2d p5)), (.double (FP.i2d p5)), (.double (FP.i2d p5)), (.double (FP.i2d p5)), (.double (FP.i2d p5))].set (qa).toNatClampNeg (.double (FP.i2d (own_min p0 p1)))) (.double (0 : UInt64)) := Arv.set Ar45 q45 S45 N45 H45 G45 rfl W46 (qa).toNatClampNeg rfl (own_in c1).2.2.1
  have f46_0 : Arv Z h46 b11 k11 .double (5 : Int32) ([(.double (FP.i2d p5)), (.double (FP.i2d p5)), (.double (FP.i2d p5)), (.double (FP.i2d p5)), (.double (FP.i2d p5))].set (qa).toNatClampNeg (.double (FP.i2d (own_min p0 p1)))) (.double (0 : UInt64)) := V46
  have f46_1 : Arv Z h46 b13 k13 .double (5 : Int32) [(.double (FP.i2d p5)), (.double (FP.i2d p5)), (.double (FP.i2d p5)), (.double (FP.i2d p5)), (.double (FP.i2d p5))] (.double (0 : UInt64)) := f43_1.other W46 ((Ne.symm ne_b11_b13))
  have N46 := Fr.snoc X46 N43 g_b11
  have Z46 : n0 ≤ h46.size := Nat.le_trans Z43 (Keep.of_wr W46).1
  have k47 : ∀ t, Steps p.tables e below (T46.setTop (mkF m 134 #[.val (.int p0), .val (.int p1), .val (.int p2), .val (.int p3), .val (.int p4), .val (.int p5), .val (.int (own_min p0 p1)), .val (.int (own_max p0 p1)), .val (.int (own_min p2 p3)), .val (.int (own_max p2 p3)), .val (.int qa), .val (.int qb), .val (.double (FP.i2d p5)), .second, .val (.ref b11), .val (.ref b13), .unset] [(.double (FP.i2d (own_max p0 p1))), (.int (qa + (1 : Int32))), (.ref b11)])) t → Steps p.tables e below (T46.setTop (mkF m 125 #[.val (.int p0), .val (.int p1), .val (.int p2), .val (.int p3), .val (.int p4), .val (.int p5), .val (.int (own_min p0 p1)), .val (.int (own_max p0 p1)), .val (.int (own_min p2 p3)), .val (.int (own_max p2 p3)), .val (.int qa), .val (.int qb), .val (.double (FP.i2d p5)), .second, .val (.ref b11), .val (.ref b13), .unset] [])) t := fun t k => by
    refine XS.aload X46.here hx rfl (hb hby at_125) rfl rfl ?_
    show Steps p.tables e below (T46.setTop (mkF m 127 #[.val (.int p0), .val (.int p1), .val (.int p2), .val (.int p3), .val (.int p4), .val (.int p5), .val (.int (own_min p0 p1)), .val (.int (own_max p0 p1)), .val (.int (own_min p2 p3)), .val (.int (own_max p2 p3)), .val (.int qa), .val (.int qb), .val (.double (FP.i2d p5)), .second, .val (.ref b11), .val (.ref b13), .unset] [(.ref b11)])) _
    refine XS.iload X46.here hx rfl (hb hby at_127) rfl ?_
    show Steps p.tables e below (T46.setTop (mkF m 129 #[.val (.int p0), .val (.int p1), .val (.int p2), .val (.int p3), .val (.int p4), .val (.int p5), .val (.int (own_min p0 p1)), .val (.int (own_max p0 p1)), .val (.int (own_min p2 p3)), .val (.int (own_max p2 p3)), .val (.int qa), .val (.int qb), .val (.double (FP.i2d p5)), .second, .val (.ref b11), .val (.ref b13), .unset] [(.int qa), (.ref b11)])) _
    refine XS.iconst X46.here hx rfl (hb hby at_129) ?_
    show Steps p.tables e below (T46.setTop (mkF m 130 #[.val (.int p0), .val (.int p1), .val (.int p2), .val (.int p3), .val (.int p4), .val (.int p5), .val (.int (own_min p0 p1)), .val (.int (own_max p0 p1)), .val (.int (own_min p2 p3)), .val (.int (own_max p2 p3)), .val (.int qa), .val (.int qb), .val (.double (FP.i2d p5)), .second, .val (.ref b11), .val (.ref b13), .unset] [(.int (1 : Int32)), (.int qa), (.ref b11)])) _
    refine XS.iadd X46.here hx rfl (hb hby at_130) rfl ?_
    show Steps p.tables e below (T46.setTop (mkF m 131 #[.val (.int p0), .val (.int p1), .val (.int p2), .val (.int p3), .val (.int p4), .val (.int p5), .val (.int (own_min p0 p1)), .val (.int (own_max p0 p1)), .val (.int (own_min p2 p3)), .val (.int (own_max p2 p3)), .val (.int qa), .val (.int qb), .val (.double (FP.i2d p5)), .second, .val (.ref b11), .val (.ref b13), .unset] [(.int (qa + (1 : Int32))), (.ref b11)])) _
    refine XS.iload X46.here hx rfl (hb hby at_131) rfl ?_
    show Steps p.tables e below (T46.setTop (mkF m 133 #[.val (.int p0), .val (.int p1), .val (.int p2), .val (.int p3), .val (.int p4), .val (.int p5), .val (.int (own_min p0 p1)), .val (.int (own_max p0 p1)), .val (.int (own_min p2 p3)), .val (.int (own_max p2 p3)), .val (.int qa), .val (.int qb), .val (.double (FP.i2d p5)), .second, .val (.ref b11), .val (.ref b13), .unset] [(.int (own_max p0 p1)), (.int (qa + (1 : Int32))), (.ref b11)])) _
    refine XS.i2dS X46.here hx rfl (hb hby at_133) rfl rfl ?_
    show Steps p.tables e below (T46.setTop (mkF m 134 #[.val (.int p0), .val (.int p1), .val (.int p2), .val (.int p3), .val (.int p4), .val (.int p5), .val (.int (own_min p0 p1)), .val (.int (own_max p0 p1)), .val (.int (own_min p2 p3)), .val (.int (own_max p2 p3)), .val (.int qa), .val (.int qb), .val (.double (FP.i2d p5)), .second, .val (.ref b11), .val (.ref b13), .unset] [(.double (FP.i2d (own_max p0 p1))), (.int (qa + (1 : Int32))), (.ref b11)])) _
    exact k
  refine own_go k47 ?_
  clear k47
  obtain ⟨cl48, Ar48, q48, S48, N48, H48, G48⟩ := id (f46_0)
  have hi48 : ¬ ((qa + (1 : Int32)) < 0 ∨ cl48.slots.size ≤ ((qa + (1 : Int32))).toNatClampNeg) := inb_of S48 (own_in c1).2.1
  obtain ⟨T49, h49, X49, e49, W49, st49⟩ := stD X46 hx hZ e46 Ar48 (j := (qa + (1 : Int32))) hi48 (g := (mkF m 134 #[.val (.int p0), .val (.int p1), .val (.int p2), .val (.int p3), .val (.int p4), .val (.int p5), .val (.int (own_min p0 p1)), .val (.int (own_max p0 p1)), .val (.int (own_min p2 p3)), .val (.int (own_max p2 p3)), .val (.int qa), .val (.int qb), .val (.double (FP.i2d p5)), .second, .val (.ref b11), .val (.ref b13), .unset] [(.double (FP.i2d (own_max p0 p1))), (.int (qa + (1 : Int32))), (.ref b11)])) rfl rfl (hb hby at_134)
  refine own_go st49 ?_
  have V49 : Arv Z h49 b11 k11 .double (5 : Int32) (([(.double (FP.i2d p5)), (.double (FP.i2d p5)), (.double (FP.i2d p5)), (.double (FP.i2d p5)), (.double (FP.i2d p5))].set (qa).toNatClampNeg (.double (FP.i2d (own_min p0 p1)))).set ((qa + (1 : Int32))).toNatClampNeg (.double (FP.i2d (own_max p0 p1)))) (.double (0 : UInt64)) := Arv.set Ar48 q48 S48 N48 H48 G48 rfl W49 ((qa + (1 : Int32))).toNatClampNeg rfl (by rw [List.length_set]; exact (own_in c1).2.2.2)
  have f49_0 : Arv Z h49 b11 k11 .double (5 : Int32) (([(.double (FP.i2d p5)), (.double (FP.i2d p5)), (.double (FP.i2d p5)), (.double (FP.i2d p5)), (.double (FP.i2d p5))].set (qa).toNatClampNeg (.double (FP.i2d (own_min p0 p1)))).set ((qa + (1 : Int32))).toNatClampNeg (.double (FP.i2d (own_max p0 p1)))) (.double (0 : UInt64)) := V49
  have f49_1 : Arv Z h49 b13 k13 .double (5 : Int32) [(.double (FP.i2d p5)), (.double (FP.i2d p5)), (.double (FP.i2d p5)), (.double (FP.i2d p5)), (.double (FP.i2d p5))] (.double (0 : UInt64)) := f46_1.other W49 ((Ne.symm ne_b11_b13))
  have N49 := Fr.snoc X49 N46 g_b11
  have Z49 : n0 ≤ h49.size := Nat.le_trans Z46 (Keep.of_wr W49).1
  have k50 : ∀ t, Steps p.tables e below (T49.setTop (mkF m 142 #[.val (.int p0), .val (.int p1), .val (.int p2), .val (.int p3), .val (.int p4), .val (.int p5), .val (.int (own_min p0 p1)), .val (.int (own_max p0 p1)), .val (.int (own_min p2 p3)), .val (.int (own_max p2 p3)), .val (.int qa), .val (.int qb), .val (.double (FP.i2d p5)), .second, .val (.ref b11), .val (.ref b13), .unset] [(.double (FP.i2d (own_min p2 p3))), (.int qb), (.ref b13)])) t → Steps p.tables e below (T49.setTop (mkF m 135 #[.val (.int p0), .val (.int p1), .val (.int p2), .val (.int p3), .val (.int p4), .val (.int p5), .val (.int (own_min p0 p1)), .val (.int (own_max p0 p1)), .val (.int (own_min p2 p3)), .val (.int (own_max p2 p3)), .val (.int qa), .val (.int qb), .val (.double (FP.i2d p5)), .second, .val (.ref b11), .val (.ref b13), .unset] [])) t := fun t k => by
    refine XS.aload X49.here hx rfl (hb hby at_135) rfl rfl ?_
    show Steps p.tables e below (T49.setTop (mkF m 137 #[.val (.int p0), .val (.int p1), .val (.int p2), .val (.int p3), .val (.int p4), .val (.int p5), .val (.int (own_min p0 p1)), .val (.int (own_max p0 p1)), .val (.int (own_min p2 p3)), .val (.int (own_max p2 p3)), .val (.int qa), .val (.int qb), .val (.double (FP.i2d p5)), .second, .val (.ref b11), .val (.ref b13), .unset] [(.ref b13)])) _
    refine XS.iload X49.here hx rfl (hb hby at_137) rfl ?_
    show Steps p.tables e below (T49.setTop (mkF m 139 #[.val (.int p0), .val (.int p1), .val (.int p2), .val (.int p3), .val (.int p4), .val (.int p5), .val (.int (own_min p0 p1)), .val (.int (own_max p0 p1)), .val (.int (own_min p2 p3)), .val (.int (own_max p2 p3)), .val (.int qa), .val (.int qb), .val (.double (FP.i2d p5)), .second, .val (.ref b11), .val (.ref b13), .unset] [(.int qb), (.ref b13)])) _
    refine XS.iload X49.here hx rfl (hb hby at_139) rfl ?_
    show Steps p.tables e below (T49.setTop (mkF m 141 #[.val (.int p0), .val (.int p1), .val (.int p2), .val (.int p3), .val (.int p4), .val (.int p5), .val (.int (own_min p0 p1)), .val (.int (own_max p0 p1)), .val (.int (own_min p2 p3)), .val (.int (own_max p2 p3)), .val (.int qa), .val (.int qb), .val (.double (FP.i2d p5)), .second, .val (.ref b11), .val (.ref b13), .unset] [(.int (own_min p2 p3)), (.int qb), (.ref b13)])) _
    refine XS.i2dS X49.here hx rfl (hb hby at_141) rfl rfl ?_
    show Steps p.tables e below (T49.setTop (mkF m 142 #[.val (.int p0), .val (.int p1), .val (.int p2), .val (.int p3), .val (.int p4), .val (.int p5), .val (.int (own_min p0 p1)), .val (.int (own_max p0 p1)), .val (.int (own_min p2 p3)), .val (.int (own_max p2 p3)), .val (.int qa), .val (.int qb), .val (.double (FP.i2d p5)), .second, .val (.ref b11), .val (.ref b13), .unset] [(.double (FP.i2d (own_min p2 p3))), (.int qb), (.ref b13)])) _
    exact k
  refine own_go k50 ?_
  clear k50
  obtain ⟨cl51, Ar51, q51, S51, N51, H51, G51⟩ := id (f49_1)
  have hi51 : ¬ (qb < 0 ∨ cl51.slots.size ≤ (qb).toNatClampNeg) := inb_of S51 (own_in c2).1
  obtain ⟨T52, h52, X52, e52, W52, st52⟩ := stD X49 hx hZ e49 Ar51 (j := qb) hi51 (g := (mkF m 142 #[.val (.int p0), .val (.int p1), .val (.int p2), .val (.int p3), .val (.int p4), .val (.int p5), .val (.int (own_min p0 p1)), .val (.int (own_max p0 p1)), .val (.int (own_min p2 p3)), .val (.int (own_max p2 p3)), .val (.int qa), .val (.int qb), .val (.double (FP.i2d p5)), .second, .val (.ref b11), .val (.ref b13), .unset] [(.double (FP.i2d (own_min p2 p3))), (.int qb), (.ref b13)])) rfl rfl (hb hby at_142)
  refine own_go st52 ?_
  have V52 : Arv Z h52 b13 k13 .double (5 : Int32) ([(.double (FP.i2d p5)), (.double (FP.i2d p5)), (.double (FP.i2d p5)), (.double (FP.i2d p5)), (.double (FP.i2d p5))].set (qb).toNatClampNeg (.double (FP.i2d (own_min p2 p3)))) (.double (0 : UInt64)) := Arv.set Ar51 q51 S51 N51 H51 G51 rfl W52 (qb).toNatClampNeg rfl (own_in c2).2.2.1
  have f52_0 : Arv Z h52 b11 k11 .double (5 : Int32) (([(.double (FP.i2d p5)), (.double (FP.i2d p5)), (.double (FP.i2d p5)), (.double (FP.i2d p5)), (.double (FP.i2d p5))].set (qa).toNatClampNeg (.double (FP.i2d (own_min p0 p1)))).set ((qa + (1 : Int32))).toNatClampNeg (.double (FP.i2d (own_max p0 p1)))) (.double (0 : UInt64)) := f49_0.other W52 (ne_b11_b13)
  have f52_1 : Arv Z h52 b13 k13 .double (5 : Int32) ([(.double (FP.i2d p5)), (.double (FP.i2d p5)), (.double (FP.i2d p5)), (.double (FP.i2d p5)), (.double (FP.i2d p5))].set (qb).toNatClampNeg (.double (FP.i2d (own_min p2 p3)))) (.double (0 : UInt64)) := V52
  have N52 := Fr.snoc X52 N49 g_b13
  have Z52 : n0 ≤ h52.size := Nat.le_trans Z49 (Keep.of_wr W52).1
  have k53 : ∀ t, Steps p.tables e below (T52.setTop (mkF m 152 #[.val (.int p0), .val (.int p1), .val (.int p2), .val (.int p3), .val (.int p4), .val (.int p5), .val (.int (own_min p0 p1)), .val (.int (own_max p0 p1)), .val (.int (own_min p2 p3)), .val (.int (own_max p2 p3)), .val (.int qa), .val (.int qb), .val (.double (FP.i2d p5)), .second, .val (.ref b11), .val (.ref b13), .unset] [(.double (FP.i2d (own_max p2 p3))), (.int (qb + (1 : Int32))), (.ref b13)])) t → Steps p.tables e below (T52.setTop (mkF m 143 #[.val (.int p0), .val (.int p1), .val (.int p2), .val (.int p3), .val (.int p4), .val (.int p5), .val (.int (own_min p0 p1)), .val (.int (own_max p0 p1)), .val (.int (own_min p2 p3)), .val (.int (own_max p2 p3)), .val (.int qa), .val (.int qb), .val (.double (FP.i2d p5)), .second, .val (.ref b11), .val (.ref b13), .unset] [])) t := fun t k => by
    refine XS.aload X52.here hx rfl (hb hby at_143) rfl rfl ?_
    show Steps p.tables e below (T52.setTop (mkF m 145 #[.val (.int p0), .val (.int p1), .val (.int p2), .val (.int p3), .val (.int p4), .val (.int p5), .val (.int (own_min p0 p1)), .val (.int (own_max p0 p1)), .val (.int (own_min p2 p3)), .val (.int (own_max p2 p3)), .val (.int qa), .val (.int qb), .val (.double (FP.i2d p5)), .second, .val (.ref b11), .val (.ref b13), .unset] [(.ref b13)])) _
    refine XS.iload X52.here hx rfl (hb hby at_145) rfl ?_
    show Steps p.tables e below (T52.setTop (mkF m 147 #[.val (.int p0), .val (.int p1), .val (.int p2), .val (.int p3), .val (.int p4), .val (.int p5), .val (.int (own_min p0 p1)), .val (.int (own_max p0 p1)), .val (.int (own_min p2 p3)), .val (.int (own_max p2 p3)), .val (.int qa), .val (.int qb), .val (.double (FP.i2d p5)), .second, .val (.ref b11), .val (.ref b13), .unset] [(.int qb), (.ref b13)])) _
    refine XS.iconst X52.here hx rfl (hb hby at_147) ?_
    show Steps p.tables e below (T52.setTop (mkF m 148 #[.val (.int p0), .val (.int p1), .val (.int p2), .val (.int p3), .val (.int p4), .val (.int p5), .val (.int (own_min p0 p1)), .val (.int (own_max p0 p1)), .val (.int (own_min p2 p3)), .val (.int (own_max p2 p3)), .val (.int qa), .val (.int qb), .val (.double (FP.i2d p5)), .second, .val (.ref b11), .val (.ref b13), .unset] [(.int (1 : Int32)), (.int qb), (.ref b13)])) _
    refine XS.iadd X52.here hx rfl (hb hby at_148) rfl ?_
    show Steps p.tables e below (T52.setTop (mkF m 149 #[.val (.int p0), .val (.int p1), .val (.int p2), .val (.int p3), .val (.int p4), .val (.int p5), .val (.int (own_min p0 p1)), .val (.int (own_max p0 p1)), .val (.int (own_min p2 p3)), .val (.int (own_max p2 p3)), .val (.int qa), .val (.int qb), .val (.double (FP.i2d p5)), .second, .val (.ref b11), .val (.ref b13), .unset] [(.int (qb + (1 : Int32))), (.ref b13)])) _
    refine XS.iload X52.here hx rfl (hb hby at_149) rfl ?_
    show Steps p.tables e below (T52.setTop (mkF m 151 #[.val (.int p0), .val (.int p1), .val (.int p2), .val (.int p3), .val (.int p4), .val (.int p5), .val (.int (own_min p0 p1)), .val (.int (own_max p0 p1)), .val (.int (own_min p2 p3)), .val (.int (own_max p2 p3)), .val (.int qa), .val (.int qb), .val (.double (FP.i2d p5)), .second, .val (.ref b11), .val (.ref b13), .unset] [(.int (own_max p2 p3)), (.int (qb + (1 : Int32))), (.ref b13)])) _
    refine XS.i2dS X52.here hx rfl (hb hby at_151) rfl rfl ?_
    show Steps p.tables e below (T52.setTop (mkF m 152 #[.val (.int p0), .val (.int p1), .val (.int p2), .val (.int p3), .val (.int p4), .val (.int p5), .val (.int (own_min p0 p1)), .val (.int (own_max p0 p1)), .val (.int (own_min p2 p3)), .val (.int (own_max p2 p3)), .val (.int qa), .val (.int qb), .val (.double (FP.i2d p5)), .second, .val (.ref b11), .val (.ref b13), .unset] [(.double (FP.i2d (own_max p2 p3))), (.int (qb + (1 : Int32))), (.ref b13)])) _
    exact k
  refine own_go k53 ?_
  clear k53
  obtain ⟨cl54, Ar54, q54, S54, N54, H54, G54⟩ := id (f52_1)
  have hi54 : ¬ ((qb + (1 : Int32)) < 0 ∨ cl54.slots.size ≤ ((qb + (1 : Int32))).toNatClampNeg) := inb_of S54 (own_in c2).2.1
  obtain ⟨T55, h55, X55, e55, W55, st55⟩ := stD X52 hx hZ e52 Ar54 (j := (qb + (1 : Int32))) hi54 (g := (mkF m 152 #[.val (.int p0), .val (.int p1), .val (.int p2), .val (.int p3), .val (.int p4), .val (.int p5), .val (.int (own_min p0 p1)), .val (.int (own_max p0 p1)), .val (.int (own_min p2 p3)), .val (.int (own_max p2 p3)), .val (.int qa), .val (.int qb), .val (.double (FP.i2d p5)), .second, .val (.ref b11), .val (.ref b13), .unset] [(.double (FP.i2d (own_max p2 p3))), (.int (qb + (1 : Int32))), (.ref b13)])) rfl rfl (hb hby at_152)
  refine own_go st55 ?_
  have V55 : Arv Z h55 b13 k13 .double (5 : Int32) (([(.double (FP.i2d p5)), (.double (FP.i2d p5)), (.double (FP.i2d p5)), (.double (FP.i2d p5)), (.double (FP.i2d p5))].set (qb).toNatClampNeg (.double (FP.i2d (own_min p2 p3)))).set ((qb + (1 : Int32))).toNatClampNeg (.double (FP.i2d (own_max p2 p3)))) (.double (0 : UInt64)) := Arv.set Ar54 q54 S54 N54 H54 G54 rfl W55 ((qb + (1 : Int32))).toNatClampNeg rfl (by rw [List.length_set]; exact (own_in c2).2.2.2)
  have f55_0 : Arv Z h55 b11 k11 .double (5 : Int32) (([(.double (FP.i2d p5)), (.double (FP.i2d p5)), (.double (FP.i2d p5)), (.double (FP.i2d p5)), (.double (FP.i2d p5))].set (qa).toNatClampNeg (.double (FP.i2d (own_min p0 p1)))).set ((qa + (1 : Int32))).toNatClampNeg (.double (FP.i2d (own_max p0 p1)))) (.double (0 : UInt64)) := f52_0.other W55 (ne_b11_b13)
  have f55_1 : Arv Z h55 b13 k13 .double (5 : Int32) (([(.double (FP.i2d p5)), (.double (FP.i2d p5)), (.double (FP.i2d p5)), (.double (FP.i2d p5)), (.double (FP.i2d p5))].set (qb).toNatClampNeg (.double (FP.i2d (own_min p2 p3)))).set ((qb + (1 : Int32))).toNatClampNeg (.double (FP.i2d (own_max p2 p3)))) (.double (0 : UInt64)) := V55
  have N55 := Fr.snoc X55 N52 g_b13
  have Z55 : n0 ≤ h55.size := Nat.le_trans Z52 (Keep.of_wr W55).1
  have k57 : ∀ t, Steps p.tables e below (T55.setTop (mkF m 157 #[.val (.int p0), .val (.int p1), .val (.int p2), .val (.int p3), .val (.int p4), .val (.int p5), .val (.int (own_min p0 p1)), .val (.int (own_max p0 p1)), .val (.int (own_min p2 p3)), .val (.int (own_max p2 p3)), .val (.int qa), .val (.int qb), .val (.double (FP.i2d p5)), .second, .val (.ref b11), .val (.ref b13), .unset] [(.int (own_min p2 p3)), (.int (own_min p0 p1))])) t → Steps p.tables e below (T55.setTop (mkF m 153 #[.val (.int p0), .val (.int p1), .val (.int p2), .val (.int p3), .val (.int p4), .val (.int p5), .val (.int (own_min p0 p1)), .val (.int (own_max p0 p1)), .val (.int (own_min p2 p3)), .val (.int (own_max p2 p3)), .val (.int qa), .val (.int qb), .val (.double (FP.i2d p5)), .second, .val (.ref b11), .val (.ref b13), .unset] [])) t := fun t k => by
    refine XS.iload X55.here hx rfl (hb hby at_153) rfl ?_
    show Steps p.tables e below (T55.setTop (mkF m 155 #[.val (.int p0), .val (.int p1), .val (.int p2), .val (.int p3), .val (.int p4), .val (.int p5), .val (.int (own_min p0 p1)), .val (.int (own_max p0 p1)), .val (.int (own_min p2 p3)), .val (.int (own_max p2 p3)), .val (.int qa), .val (.int qb), .val (.double (FP.i2d p5)), .second, .val (.ref b11), .val (.ref b13), .unset] [(.int (own_min p0 p1))])) _
    refine XS.iload X55.here hx rfl (hb hby at_155) rfl ?_
    show Steps p.tables e below (T55.setTop (mkF m 157 #[.val (.int p0), .val (.int p1), .val (.int p2), .val (.int p3), .val (.int p4), .val (.int p5), .val (.int (own_min p0 p1)), .val (.int (own_max p0 p1)), .val (.int (own_min p2 p3)), .val (.int (own_max p2 p3)), .val (.int qa), .val (.int qb), .val (.double (FP.i2d p5)), .second, .val (.ref b11), .val (.ref b13), .unset] [(.int (own_min p2 p3)), (.int (own_min p0 p1))])) _
    exact k
  refine own_go k57 ?_
  clear k57
  obtain ⟨_, _, ⟨T56, L56, k56, n56⟩, -, X56, ⟨Lc56, hQ56, l56, y56, z56⟩, st56⟩ := Jvm.LawKit.callS X55 hx (y := (⟨"java/lang/Math", "max", "(II)I"⟩ : MethodName)) hown (mvT hZ (hw _ (List.mem_of_getElem? (i := 4) rfl))) (mvT hZ (hw _ (List.mem_of_getElem? (i := 5) rfl))) (mvT hZ (hw _ (List.mem_of_getElem? (i := 2) rfl))) (mvT hZ (hw _ (List.mem_of_getElem? (i := 6) rfl))) (by decide) (backOf (W := 0) (own_rm_max l Z a0 hw [] (own_min p0 p1) (own_min p2 p3) h55 n0 Z55 ) hZ (hw _ (List.mem_of_getElem? (i := 6) rfl)) (hw _ (List.mem_of_getElem? (i := 2) rfl)) (by decide) (by decide)) (g := (mkF m 157 #[.val (.int p0), .val (.int p1), .val (.int p2), .val (.int p3), .val (.int p4), .val (.int p5), .val (.int (own_min p0 p1)), .val (.int (own_max p0 p1)), .val (.int (own_min p2 p3)), .val (.int (own_max p2 p3)), .val (.int qa), .val (.int qb), .val (.double (FP.i2d p5)), .second, .val (.ref b11), .val (.ref b13), .unset] [(.int (own_min p2 p3)), (.int (own_min p0 p1))])) rfl (by rw [hml]; rfl) (argsL := [(.int (own_min p0 p1)), (.int (own_min p2 p3))]) (rest := []) (lenOf own_pd_28II29I rfl) rfl (by show 2 * 0 + _ ≤ _; exact Nat.le_of_eq rfl) (hb hby at_157) (fun _ _ => ⟨rfl, e55, (by decide : 2 + 0 ≤ _), (by decide : 10 + 0 ≤ _)⟩)
  dsimp only [Pt.U, Pt.locs, Pt.cells, Pt.slots] at X56 l56 y56 z56 st56 hQ56
  subst l56 y56 z56
  obtain ⟨rfl, N56q, eh56⟩ := hQ56
  have N56 := Fr.app N55 N56q
  refine own_go st56 ?_
  have k59 : ∀ t, Steps p.tables e below (T56.setTop (mkF m 164 #[.val (.int p0), .val (.int p1), .val (.int p2), .val (.int p3), .val (.int p4), .val (.int p5), .val (.int (own_min p0 p1)), .val (.int (own_max p0 p1)), .val (.int (own_min p2 p3)), .val (.int (own_max p2 p3)), .val (.int qa), .val (.int qb), .val (.double (FP.i2d p5)), .second, .val (.ref b11), .val (.ref b13), .unset] [(.int (own_max p2 p3)), (.int (own_max p0 p1)), (.int (own_max (own_min p0 p1) (own_min p2 p3)))])) t → Steps p.tables e below (T56.setTop (mkF m 160 #[.val (.int p0), .val (.int p1), .val (.int p2), .val (.int p3), .val (.int p4), .val (.int p5), .val (.int (own_min p0 p1)), .val (.int (own_max p0 p1)), .val (.int (own_min p2 p3)), .val (.int (own_max p2 p3)), .val (.int qa), .val (.int qb), .val (.double (FP.i2d p5)), .second, .val (.ref b11), .val (.ref b13), .unset] [(.int (own_max (own_min p0 p1) (own_min p2 p3)))])) t := fun t k => by
    refine XS.iload X56.here hx rfl (hb hby at_160) rfl ?_
    show Steps p.tables e below (T56.setTop (mkF m 162 #[.val (.int p0), .val (.int p1), .val (.int p2), .val (.int p3), .val (.int p4), .val (.int p5), .val (.int (own_min p0 p1)), .val (.int (own_max p0 p1)), .val (.int (own_min p2 p3)), .val (.int (own_max p2 p3)), .val (.int qa), .val (.int qb), .val (.double (FP.i2d p5)), .second, .val (.ref b11), .val (.ref b13), .unset] [(.int (own_max p0 p1)), (.int (own_max (own_min p0 p1) (own_min p2 p3)))])) _
    refine XS.iload X56.here hx rfl (hb hby at_162) rfl ?_
    show Steps p.tables e below (T56.setTop (mkF m 164 #[.val (.int p0), .val (.int p1), .val (.int p2), .val (.int p3), .val (.int p4), .val (.int p5), .val (.int (own_min p0 p1)), .val (.int (own_max p0 p1)), .val (.int (own_min p2 p3)), .val (.int (own_max p2 p3)), .val (.int qa), .val (.int qb), .val (.double (FP.i2d p5)), .second, .val (.ref b11), .val (.ref b13), .unset] [(.int (own_max p2 p3)), (.int (own_max p0 p1)), (.int (own_max (own_min p0 p1) (own_min p2 p3)))])) _
    exact k
  refine own_go k59 ?_
  clear k59
  obtain ⟨_, _, ⟨T58, L58, k58, n58⟩, -, X58, ⟨Lc58, hQ58, l58, y58, z58⟩, st58⟩ := Jvm.LawKit.callS X56 hx (y := (⟨"java/lang/Math", "min", "(II)I"⟩ : MethodName)) hown (mvT hZ (hw _ (List.mem_of_getElem? (i := 0) rfl))) (mvT hZ (hw _ (List.mem_of_getElem? (i := 1) rfl))) (mvT hZ (hw _ (List.mem_of_getElem? (i := 2) rfl))) (mvT hZ (hw _ (List.mem_of_getElem? (i := 3) rfl))) (by decide) (backOf (W := 1) (own_rm_min l Z a0 hw [] (own_max p0 p1) (own_max p2 p3) h55 n0 Z55 ) hZ (hw _ (List.mem_of_getElem? (i := 3) rfl)) (hw _ (List.mem_of_getElem? (i := 2) rfl)) (by decide) (by decide)) (g := (mkF m 164 #[.val (.int p0), .val (.int p1), .val (.int p2), .val (.int p3), .val (.int p4), .val (.int p5), .val (.int (own_min p0 p1)), .val (.int (own_max p0 p1)), .val (.int (own_min p2 p3)), .val (.int (own_max p2 p3)), .val (.int qa), .val (.int qb), .val (.double (FP.i2d p5)), .second, .val (.ref b11), .val (.ref b13), .unset] [(.int (own_max p2 p3)), (.int (own_max p0 p1)), (.int (own_max (own_min p0 p1) (own_min p2 p3)))])) rfl (by rw [hml]; rfl) (argsL := [(.int (own_max p0 p1)), (.int (own_max p2 p3))]) (rest := [(.int (own_max (own_min p0 p1) (own_min p2 p3)))]) (lenOf own_pd_28II29I rfl) rfl (by show 2 * 0 + _ ≤ _; exact Nat.le_of_eq rfl) (hb hby at_164) (fun _ _ => ⟨rfl, eh56, (by decide : 2 + 0 ≤ _), (by decide : 10 + 0 ≤ _)⟩)
  dsimp only [Pt.U, Pt.locs, Pt.cells, Pt.slots] at X58 l58 y58 z58 st58 hQ58
  subst l58 y58 z58
  obtain ⟨rfl, N58q, eh58⟩ := hQ58
  have N58 := Fr.app N56 N58q
  refine own_go st58 ?_
  obtain ⟨v60_0, hv60_0⟩ : ∃ z, z = (if (own_min (own_max p0 p1) (own_max p2 p3)) < (own_max (own_min p0 p1) (own_min p2 p3)) then (1 : Int32) else (0 : Int32)) := ⟨_, rfl⟩
  have k60 : ∀ t, Steps p.tables e below (T58.setTop (mkF m 175 #[.val (.int p0), .val (.int p1), .val (.int p2), .val (.int p3), .val (.int p4), .val (.int p5), .val (.int (own_min p0 p1)), .val (.int (own_max p0 p1)), .val (.int (own_min p2 p3)), .val (.int (own_max p2 p3)), .val (.int qa), .val (.int qb), .val (.double (FP.i2d p5)), .second, .val (.ref b11), .val (.ref b13), .unset] [(.int v60_0)])) t → Steps p.tables e below (T58.setTop (mkF m 167 #[.val (.int p0), .val (.int p1), .val (.int p2), .val (.int p3), .val (.int p4), .val (.int p5), .val (.int (own_min p0 p1)), .val (.int (own_max p0 p1)), .val (.int (own_min p2 p3)), .val (.int (own_max p2 p3)), .val (.int qa), .val (.int qb), .val (.double (FP.i2d p5)), .second, .val (.ref b11), .val (.ref b13), .unset] [(.int (own_min (own_max p0 p1) (own_max p2 p3))), (.int (own_max (own_min p0 p1) (own_min p2 p3)))])) t := fun t k => by
    by_cases hc167_60_0 : (own_min (own_max p0 p1) (own_max p2 p3)) < (own_max (own_min p0 p1) (own_min p2 p3))
    · skip
      refine XS.icmpNo X58.here hx rfl (hb hby at_167) rfl (tlt hc167_60_0).2.2.2 ?_
      show Steps p.tables e below (T58.setTop (mkF m 170 #[.val (.int p0), .val (.int p1), .val (.int p2), .val (.int p3), .val (.int p4), .val (.int p5), .val (.int (own_min p0 p1)), .val (.int (own_max p0 p1)), .val (.int (own_min p2 p3)), .val (.int (own_max p2 p3)), .val (.int qa), .val (.int qb), .val (.double (FP.i2d p5)), .second, .val (.ref b11), .val (.ref b13), .unset] [])) _
      refine XS.iconst X58.here hx rfl (hb hby at_170) ?_
      show Steps p.tables e below (T58.setTop (mkF m 171 #[.val (.int p0), .val (.int p1), .val (.int p2), .val (.int p3), .val (.int p4), .val (.int p5), .val (.int (own_min p0 p1)), .val (.int (own_max p0 p1)), .val (.int (own_min p2 p3)), .val (.int (own_max p2 p3)), .val (.int qa), .val (.int qb), .val (.double (FP.i2d p5)), .second, .val (.ref b11), .val (.ref b13), .unset] [(.int (1 : Int32))])) _
      refine XS.goto X58.here hx rfl (pc0 := 171) (pc' := 175) rfl (hb hby at_171) (by decide) (by decide) ?_
      show Steps p.tables e below (T58.setTop (mkF m 175 #[.val (.int p0), .val (.int p1), .val (.int p2), .val (.int p3), .val (.int p4), .val (.int p5), .val (.int (own_min p0 p1)), .val (.int (own_max p0 p1)), .val (.int (own_min p2 p3)), .val (.int (own_max p2 p3)), .val (.int qa), .val (.int qb), .val (.double (FP.i2d p5)), .second, .val (.ref b11), .val (.ref b13), .unset] [(.int (1 : Int32))])) _
      have q_v60_0 := hv60_0
      first | rw [if_pos hc167_60_0] at q_v60_0 | skip
      subst q_v60_0
      exact k
    · skip
      refine XS.icmpYes X58.here hx rfl (pc0 := 167) (pc' := 174) rfl (hb hby at_167) rfl (flt hc167_60_0).2.2.2 (by decide) (by decide) ?_
      show Steps p.tables e below (T58.setTop (mkF m 174 #[.val (.int p0), .val (.int p1), .val (.int p2), .val (.int p3), .val (.int p4), .val (.int p5), .val (.int (own_min p0 p1)), .val (.int (own_max p0 p1)), .val (.int (own_min p2 p3)), .val (.int (own_max p2 p3)), .val (.int qa), .val (.int qb), .val (.double (FP.i2d p5)), .second, .val (.ref b11), .val (.ref b13), .unset] [])) _
      refine XS.iconst X58.here hx rfl (hb hby at_174) ?_
      show Steps p.tables e below (T58.setTop (mkF m 175 #[.val (.int p0), .val (.int p1), .val (.int p2), .val (.int p3), .val (.int p4), .val (.int p5), .val (.int (own_min p0 p1)), .val (.int (own_max p0 p1)), .val (.int (own_min p2 p3)), .val (.int (own_max p2 p3)), .val (.int qa), .val (.int qb), .val (.double (FP.i2d p5)), .second, .val (.ref b11), .val (.ref b13), .unset] [(.int (0 : Int32))])) _
      have q_v60_0 := hv60_0
      first | rw [if_neg hc167_60_0] at q_v60_0 | skip
      subst q_v60_0
      exact k
  refine own_go k60 ?_
  clear k60
  have k62 : ∀ t, Steps p.tables e below (T58.setTop (mkF m 185 #[.val (.int p0), .val (.int p1), .val (.int p2), .val (.int p3), .val (.int p4), .val (.int p5), .val (.int (own_min p0 p1)), .val (.int (own_max p0 p1)), .val (.int (own_min p2 p3)), .val (.int (own_max p2 p3)), .val (.int qa), .val (.int qb), .val (.double (FP.i2d p5)), .second, .val (.ref b11), .val (.ref b13), .val (.int v60_0)] [(.int qb), (.ref b13), (.int qa), (.ref b11)])) t → Steps p.tables e below (T58.setTop (mkF m 175 #[.val (.int p0), .val (.int p1), .val (.int p2), .val (.int p3), .val (.int p4), .val (.int p5), .val (.int (own_min p0 p1)), .val (.int (own_max p0 p1)), .val (.int (own_min p2 p3)), .val (.int (own_max p2 p3)), .val (.int qa), .val (.int qb), .val (.double (FP.i2d p5)), .second, .val (.ref b11), .val (.ref b13), .unset] [(.int v60_0)])) t := fun t k => by
    refine XS.istore X58.here hx rfl (hb hby at_175) rfl (l' := #[.val (.int p0), .val (.int p1), .val (.int p2), .val (.int p3), .val (.int p4), .val (.int p5), .val (.int (own_min p0 p1)), .val (.int (own_max p0 p1)), .val (.int (own_min p2 p3)), .val (.int (own_max p2 p3)), .val (.int qa), .val (.int qb), .val (.double (FP.i2d p5)), .second, .val (.ref b11), .val (.ref b13), .val (.int v60_0)]) rfl ?_
    show Steps p.tables e below (T58.setTop (mkF m 177 #[.val (.int p0), .val (.int p1), .val (.int p2), .val (.int p3), .val (.int p4), .val (.int p5), .val (.int (own_min p0 p1)), .val (.int (own_max p0 p1)), .val (.int (own_min p2 p3)), .val (.int (own_max p2 p3)), .val (.int qa), .val (.int qb), .val (.double (FP.i2d p5)), .second, .val (.ref b11), .val (.ref b13), .val (.int v60_0)] [])) _
    refine XS.aload X58.here hx rfl (hb hby at_177) rfl rfl ?_
    show Steps p.tables e below (T58.setTop (mkF m 179 #[.val (.int p0), .val (.int p1), .val (.int p2), .val (.int p3), .val (.int p4), .val (.int p5), .val (.int (own_min p0 p1)), .val (.int (own_max p0 p1)), .val (.int (own_min p2 p3)), .val (.int (own_max p2 p3)), .val (.int qa), .val (.int qb), .val (.double (FP.i2d p5)), .second, .val (.ref b11), .val (.ref b13), .val (.int v60_0)] [(.ref b11)])) _
    refine XS.iload X58.here hx rfl (hb hby at_179) rfl ?_
    show Steps p.tables e below (T58.setTop (mkF m 181 #[.val (.int p0), .val (.int p1), .val (.int p2), .val (.int p3), .val (.int p4), .val (.int p5), .val (.int (own_min p0 p1)), .val (.int (own_max p0 p1)), .val (.int (own_min p2 p3)), .val (.int (own_max p2 p3)), .val (.int qa), .val (.int qb), .val (.double (FP.i2d p5)), .second, .val (.ref b11), .val (.ref b13), .val (.int v60_0)] [(.int qa), (.ref b11)])) _
    refine XS.aload X58.here hx rfl (hb hby at_181) rfl rfl ?_
    show Steps p.tables e below (T58.setTop (mkF m 183 #[.val (.int p0), .val (.int p1), .val (.int p2), .val (.int p3), .val (.int p4), .val (.int p5), .val (.int (own_min p0 p1)), .val (.int (own_max p0 p1)), .val (.int (own_min p2 p3)), .val (.int (own_max p2 p3)), .val (.int qa), .val (.int qb), .val (.double (FP.i2d p5)), .second, .val (.ref b11), .val (.ref b13), .val (.int v60_0)] [(.ref b13), (.int qa), (.ref b11)])) _
    refine XS.iload X58.here hx rfl (hb hby at_183) rfl ?_
    show Steps p.tables e below (T58.setTop (mkF m 185 #[.val (.int p0), .val (.int p1), .val (.int p2), .val (.int p3), .val (.int p4), .val (.int p5), .val (.int (own_min p0 p1)), .val (.int (own_max p0 p1)), .val (.int (own_min p2 p3)), .val (.int (own_max p2 p3)), .val (.int qa), .val (.int qb), .val (.double (FP.i2d p5)), .second, .val (.ref b11), .val (.ref b13), .val (.int v60_0)] [(.int qb), (.ref b13), (.int qa), (.ref b11)])) _
    exact k
  refine own_go k62 ?_
  clear k62
  obtain ⟨_, _, ⟨T61, L61, k61, n61⟩, -, X61, ⟨Lc61, hQ61, l61, y61, z61⟩, st61⟩ := Jvm.LawKit.callS X58 hx (y := (⟨"com/example/chronopath/chronopath/network/ArrivalLine", "slopesApart", "([DI[DI)Z"⟩ : MethodName)) hown (mvT hZ (hw _ (List.mem_of_getElem? (i := 8) rfl))) (mvT hZ (hw _ (List.mem_of_getElem? (i := 9) rfl))) (mvT hZ (hw _ (List.mem_of_getElem? (i := 10) rfl))) (mvT hZ (hw _ (List.mem_of_getElem? (i := 11) rfl))) (by decide) (backOf (W := 0) (own_rm_apart l Z a0 hw [] b11 qa b13 qb k11 k13 (([(.double (FP.i2d p5)), (.double (FP.i2d p5)), (.double (FP.i2d p5)), (.double (FP.i2d p5)), (.double (FP.i2d p5))].set (qa).toNatClampNeg (.double (FP.i2d (own_min p0 p1)))).set ((qa + (1 : Int32))).toNatClampNeg (.double (FP.i2d (own_max p0 p1)))) (([(.double (FP.i2d p5)), (.double (FP.i2d p5)), (.double (FP.i2d p5)), (.double (FP.i2d p5)), (.double (FP.i2d p5))].set (qb).toNatClampNeg (.double (FP.i2d (own_min p2 p3)))).set ((qb + (1 : Int32))).toNatClampNeg (.double (FP.i2d (own_max p2 p3)))) (own_min p0 p1) (own_max p0 p1) (own_min p2 p3) (own_max p2 p3) h55 n0 Z55 f55_0 f55_1 (own_in c1).1 (own_in c1).2.1 (own_in c2).1 (own_in c2).2.1 (own_two c1 _ _ _ _).1 (own_two c1 _ _ _ _).2 (own_two c2 _ _ _ _).1 (own_two c2 _ _ _ _).2) hZ (hw _ (List.mem_of_getElem? (i := 11) rfl)) (hw _ (List.mem_of_getElem? (i := 10) rfl)) (by decide) (by decide)) (g := (mkF m 185 #[.val (.int p0), .val (.int p1), .val (.int p2), .val (.int p3), .val (.int p4), .val (.int p5), .val (.int (own_min p0 p1)), .val (.int (own_max p0 p1)), .val (.int (own_min p2 p3)), .val (.int (own_max p2 p3)), .val (.int qa), .val (.int qb), .val (.double (FP.i2d p5)), .second, .val (.ref b11), .val (.ref b13), .val (.int v60_0)] [(.int qb), (.ref b13), (.int qa), (.ref b11)])) rfl (by rw [hml]; rfl) (argsL := [(.ref b11), (.int qa), (.ref b13), (.int qb)]) (rest := []) (lenOf own_pd_285bDI5bDI29Z rfl) rfl (by show 2 * 0 + _ ≤ _; exact Nat.le_of_eq rfl) (hb hby at_185) (fun _ _ => ⟨rfl, eh58, (by decide : 2 + 0 ≤ _), (by decide : 10 + 0 ≤ _)⟩)
  dsimp only [Pt.U, Pt.locs, Pt.cells, Pt.slots] at X61 l61 y61 z61 st61 hQ61
  subst l61 y61 z61
  obtain ⟨rfl, N61q, eh61⟩ := hQ61
  have N61 := Fr.app N58 N61q
  refine own_go st61 ?_
  have k63 : ∀ t, Steps p.tables e below (T61.setTop (mkF m 198 #[.val (.int p0), .val (.int p1), .val (.int p2), .val (.int p3), .val (.int p4), .val (.int p5), .val (.int (own_min p0 p1)), .val (.int (own_max p0 p1)), .val (.int (own_min p2 p3)), .val (.int (own_max p2 p3)), .val (.int qa), .val (.int qb), .val (.double (FP.i2d p5)), .second, .val (.ref b11), .val (.ref b13), .val (.int v60_0)] [(.int (1 : Int32))])) t → Steps p.tables e below (T61.setTop (mkF m 188 #[.val (.int p0), .val (.int p1), .val (.int p2), .val (.int p3), .val (.int p4), .val (.int p5), .val (.int (own_min p0 p1)), .val (.int (own_max p0 p1)), .val (.int (own_min p2 p3)), .val (.int (own_max p2 p3)), .val (.int qa), .val (.int qb), .val (.double (FP.i2d p5)), .second, .val (.ref b11), .val (.ref b13), .val (.int v60_0)] [(.int (own_ap (own_min p0 p1) (own_max p0 p1) (own_min p2 p3) (own_max p2 p3)))])) t := fun t k => by
    refine XS.iload X61.here hx rfl (hb hby at_188) rfl ?_
    show Steps p.tables e below (T61.setTop (mkF m 190 #[.val (.int p0), .val (.int p1), .val (.int p2), .val (.int p3), .val (.int p4), .val (.int p5), .val (.int (own_min p0 p1)), .val (.int (own_max p0 p1)), .val (.int (own_min p2 p3)), .val (.int (own_max p2 p3)), .val (.int qa), .val (.int qb), .val (.double (FP.i2d p5)), .second, .val (.ref b11), .val (.ref b13), .val (.int v60_0)] [(.int v60_0), (.int (own_ap (own_min p0 p1) (own_max p0 p1) (own_min p2 p3) (own_max p2 p3)))])) _
    refine XS.icmpNo X61.here hx rfl (hb hby at_190) rfl (teq ((own_same p0 p1 p2 p3).trans hv60_0.symm)).2 ?_
    show Steps p.tables e below (T61.setTop (mkF m 193 #[.val (.int p0), .val (.int p1), .val (.int p2), .val (.int p3), .val (.int p4), .val (.int p5), .val (.int (own_min p0 p1)), .val (.int (own_max p0 p1)), .val (.int (own_min p2 p3)), .val (.int (own_max p2 p3)), .val (.int qa), .val (.int qb), .val (.double (FP.i2d p5)), .second, .val (.ref b11), .val (.ref b13), .val (.int v60_0)] [])) _
    refine XS.iconst X61.here hx rfl (hb hby at_193) ?_
    show Steps p.tables e below (T61.setTop (mkF m 194 #[.val (.int p0), .val (.int p1), .val (.int p2), .val (.int p3), .val (.int p4), .val (.int p5), .val (.int (own_min p0 p1)), .val (.int (own_max p0 p1)), .val (.int (own_min p2 p3)), .val (.int (own_max p2 p3)), .val (.int qa), .val (.int qb), .val (.double (FP.i2d p5)), .second, .val (.ref b11), .val (.ref b13), .val (.int v60_0)] [(.int (1 : Int32))])) _
    refine XS.goto X61.here hx rfl (pc0 := 194) (pc' := 198) rfl (hb hby at_194) (by decide) (by decide) ?_
    show Steps p.tables e below (T61.setTop (mkF m 198 #[.val (.int p0), .val (.int p1), .val (.int p2), .val (.int p3), .val (.int p4), .val (.int p5), .val (.int (own_min p0 p1)), .val (.int (own_max p0 p1)), .val (.int (own_min p2 p3)), .val (.int (own_max p2 p3)), .val (.int qa), .val (.int qb), .val (.double (FP.i2d p5)), .second, .val (.ref b11), .val (.ref b13), .val (.int v60_0)] [(.int (1 : Int32))])) _
    exact k
  refine own_go k63 ?_
  clear k63
  obtain ⟨fs, hr, hrun, hended, hW, hsame⟩ := X61.leave (v := some (.int (nar .boolean (1 : Int32)))) (fun h => by rw [Bd.returns] at h; cases h)
  refine ⟨_, _, retN X61 hx (t := .boolean) Bd.returns (by simp) (hb hby at_198) hr, hPf _ _ ⟨hrun, hended, _, _, rfl, ?_, ⟨_, rfl⟩, hW, hsame.mono (by decide) (by decide)⟩⟩
  show own_Q_law Z p0 p1 p2 p3 p4 p5 h0 n0 _ T61.heap _
  rw [eh61]
  exact ⟨rfl, N61⟩
set_option maxRecDepth 65536 in
set_option maxHeartbeats 40000000 in
theorem own_comes {Post : Tables → Env → Array Value → State → Outcome → State → Prop} (hpost : ∀ tb e args s v u, (limb_1_1.after args s (.returned v) u = true ∧ limb_1_2.after args s (.returned v) u = true ∧ True) → FrameEnd s (.returned v) u (Jvm.fieldLocs frame_1_writes args s ++ Jvm.arrayLocs frame_1_arrays args s ++ Jvm.staticLocs frame_1_statics s) 16 128 → Post tb e args s (.returned v) u) :
    ArmFor flags0 classFile x code maxLocals ret World_1 tables_1 room_1 Calls_1 rest_1 Pre_1 Post := by
  intro l hfl _ _ p e ha hc hk s m args below hf hA hF happ hP
  obtain ⟨hcalls, hrest, hpre⟩ := hP
  obtain ⟨-, -, -, hnamed, -, -, -, hat⟩ := (Spec.applies_iff hf).mp happ
  obtain ⟨hg, hn⟩ := and_e (Cond.before_iff.mp (show (Jvm.Cond.and given_1 narrow_1).before args s = true from hpre))
  obtain ⟨hg1a, hg1b⟩ := and_e hg
  obtain ⟨hg2a, hg2b⟩ := and_e hg1b
  obtain ⟨hg3a, hg3b⟩ := and_e hg2b
  obtain ⟨hg4a, hg4b⟩ := and_e hg3b
  obtain ⟨hg5a, hg5b⟩ := and_e hg4b
  obtain ⟨hg6a, hg6b⟩ := and_e hg5b
  obtain ⟨w0, w1, w2, w3, w4, w5, rfl⟩ : ∃ w0 w1 w2 w3 w4 w5 : Value, args = #[w0, w1, w2, w3, w4, w5] := by
    have hs : args.size = 6 := by simpa [Cond.value, given_1] using hg1a
    obtain ⟨L⟩ := args
    match L, hs with
    | [w0, w1, w2, w3, w4, w5], _ => exact ⟨w0, w1, w2, w3, w4, w5, rfl⟩
  have hw := fun d (hd : d ∈ tables_1) => atoms_spec (ws := Jvm.Cond.code x code maxLocals ret :: tables_1) hat d (List.mem_cons_of_mem _ hd)
  have hfit : Fit s := fun {y c} hc i hi => by
    obtain ⟨ha, rfl⟩ := Array.getElem?_eq_some_iff.mp hc
    have q := List.all_eq_true.mp ((Array.all_eq_true_iff_forall_mem.mp hF) _ (Array.getElem_mem ha)) i (List.mem_range.mpr hi)
    simpa [Array.getElem?_eq_getElem hi] using q
  obtain ⟨i0, ei0⟩ := is_v hg2a
  obtain rfl : w0 = (.int i0) := Option.some.inj ei0
  obtain ⟨i1, ei1⟩ := is_v hg3a
  obtain rfl : w1 = (.int i1) := Option.some.inj ei1
  obtain ⟨i2, ei2⟩ := is_v hg4a
  obtain rfl : w2 = (.int i2) := Option.some.inj ei2
  obtain ⟨i3, ei3⟩ := is_v hg5a
  obtain rfl : w3 = (.int i3) := Option.some.inj ei3
  obtain ⟨i4, ei4⟩ := is_v hg6a
  obtain rfl : w4 = (.int i4) := Option.some.inj ei4
  obtain ⟨i5, ei5⟩ := is_v hg6b
  obtain rfl : w5 = (.int i5) := Option.some.inj ei5
  obtain ⟨n, o, h1, h2, h3, _, L, rfl, ⟨rfl, N⟩, hq⟩ := own_rm_law l s _ hw tables_1 i0 i1 i2 i3 i4 i5 s.heap s.heap.size (Nat.le_refl _) p e ha hc hk s m _ below hf ((Spec.applies_iff_loose hf).mp happ).1 ⟨rfl, State.Warmed39.refl s, rfl⟩ trivial
  refine ⟨n, _, h1, h2, h3, hpost _ _ _ _ _ _ ⟨Cond.after_iff.mpr rfl, Cond.after_iff.mpr (eq_i res_at (Term.int_eval (1)) rfl), trivial⟩ ⟨hq.1, hq.2.1, (hq.2.2.sift fun y hy => Or.inr (N y hy)).mono (by decide) (by decide)⟩⟩
theorem main_1_1 : Claimed_1_1 := own_comes fun _ _ _ _ _ _ h hF => ⟨h.1, hF⟩
theorem main_1_2 : Claimed_1_2 := own_comes fun _ _ _ _ _ _ h hF => ⟨h.2.1, hF⟩
end Jvm.Pilot.@@N@@
namespace Jvm.Pilot.@@N@@
open Jvm Jvm.ClassFile Sem Op Lib Jvm.Free Jvm.Stand Jvm.Pilot.@@N@@.Jvm.D
/-! MADE BY PROGRAM (witnessworld.py) out of the Statement's table words and the real class files: 10 classes; the members and pool entries that the words name. The judged class is class 1, her method 1. -/
namespace start1
open Jvm.ClassFile
def u (s : String) : CpInfo := .utf8 (stringToUtf16 s)
/-- a pool by its gaps: so many unusable entries, then the entry; so many at the end -/
def gap : Nat → List CpInfo → List CpInfo
  | 0, r => r
  | n + 1, r => .unusable :: gap n r
def poolList (es : List (Nat × CpInfo)) (last : Nat) : List CpInfo := es.foldr (fun e r => gap e.1 (e.2 :: r)) (gap last [])
def pool (es : List (Nat × CpInfo)) (last : Nat) : Array CpInfo := ⟨poolList es last⟩
def fileOf (pool : Array CpInfo) (this : Nat) (attrs : Array Attribute := #[]) (ms : Array MethodInfo := #[]) (fl : Nat := 33) (sup : Nat := 0) (ifs : Array Nat := #[]) (fds : Array FieldInfo := #[]) : ClassFile where
  minorVersion := 0
  majorVersion := 65
  constantPool := pool
  accessFlags := fl
  thisClass := this
  superClass := sup
  interfaces := ifs
  fields := fds
  methods := ms
  attributes := attrs
def plain (name : String) (sup : Option ClassId) : Class where
  name := name
  kind := .ordinary
  loader := none
  accessFlags := 33
  super := sup
  interfaces := #[]
  cf := none
  fields := #[]
  methods := #[]
  instanceTypes := #[]
  staticTypes := #[]
  resolved := #[]
  callSites := []
  init := .initialized
  statics := none
  mirror := none

def pool0 : Array CpInfo := pool [(5, u "<init>"), (0, u "()V"), (1, .class_ 10), (1, u "java/lang/Object")] 113

def k0m0 : Method := { name := "<init>", desc := "()V", sig := { parameters := [], returnType := none }, accessFlags := 1, code := none }
/-- java/lang/Object -/
def k0 : Class := { plain "java/lang/Object" none with
  accessFlags := 33
  interfaces := #[]
  cf := some (fileOf pool0 8 #[] #[{ accessFlags := 1, nameIndex := 5, descriptorIndex := 6, attributes := #[] }] 33 0 #[] #[])
  fields := #[]
  methods := #[k0m0]
  instanceTypes := #[]
  staticTypes := #[]
  resolved := Array.replicate 124 none
  statics := none }

def pool1 : Array CpInfo := pool [(2, .class_ 4), (1, u "java/lang/Object"), (0, u "<init>"), (0, u "()V"), (0, .methodref 8 9), (0, .class_ 10), (0, .nameAndType 11 12), (0, u "java/lang/Math"), (0, u "min"), (0, u "(II)I"), (0, .methodref 8 14), (0, .nameAndType 15 12), (0, u "max"), (0, .methodref 17 18), (0, .class_ 19), (0, .nameAndType 20 21), (0, u "com/example/chronopath/chronopath/network/ArrivalLine"), (0, u "slopesApart"), (0, u "([DI[DI)Z"), (0, .class_ 23), (0, u "com/example/chronopath/chronopath/network/ArrivalLineSlopesApartPinLaw"), (2, u "law"), (0, u "(IIIIII)Z")] 5

def k1m0 : Method := { name := "<init>", desc := "()V", sig := { parameters := [], returnType := none }, accessFlags := 1, code := none }
def k1c1 : Code := { maxStack := 4, maxLocals := 17, code := code, exceptionTable := #[], attributes := #[] }
def k1m1 : Method := { name := "law", desc := "(IIIIII)Z", sig := { parameters := [.int, .int, .int, .int, .int, .int], returnType := some .boolean }, accessFlags := 9, code := some k1c1 }
/-- com/example/chronopath/chronopath/network/ArrivalLineSlopesApartPinLaw -/
def k1 : Class := { plain "com/example/chronopath/chronopath/network/ArrivalLineSlopesApartPinLaw" (some 0) with
  accessFlags := 49
  interfaces := #[]
  cf := some (fileOf pool1 22 #[] #[{ accessFlags := 1, nameIndex := 5, descriptorIndex := 6, attributes := #[] }, { accessFlags := 9, nameIndex := 26, descriptorIndex := 27, attributes := #[] }] 49 2 #[] #[])
  fields := #[]
  methods := #[k1m0, k1m1]
  instanceTypes := #[]
  staticTypes := #[]
  resolved := Array.replicate 33 none
  statics := none }

def pool2 : Array CpInfo := pool [(1, .class_ 2), (0, u "java/lang/Math"), (1, .class_ 6), (1, u "java/lang/Object"), (0, u "<init>"), (0, u "()V"), (89, .class_ 100), (1, u "java/lang/Math$RandomNumberGeneratorHolder"), (71, u "negativeZeroFloatBits"), (0, u "J"), (2, u "negativeZeroDoubleBits"), (21, u "max"), (2, u "min"), (43, u "$assertionsDisabled"), (0, u "Z"), (88, u "(II)I"), (2, u "twoToTheDoubleScaleDown"), (0, u "D"), (4, u "twoToTheDoubleScaleUp"), (9, u "E"), (3, u "PI"), (2, u "TAU"), (2, u "DEGREES_TO_RADIANS"), (0, u "RADIANS_TO_DEGREES")] 94

def k2m0 : Method := { name := "<init>", desc := "()V", sig := { parameters := [], returnType := none }, accessFlags := 2, code := none }
def k2c1 : Code := { maxStack := 2, maxLocals := 2, code := jdk_29_method_65_code, exceptionTable := #[], attributes := #[] }
def k2m1 : Method := { name := "max", desc := "(II)I", sig := { parameters := [.int, .int], returnType := some .int }, accessFlags := 9, code := some k2c1 }
def k2c2 : Code := { maxStack := 2, maxLocals := 2, code := jdk_29_method_69_code, exceptionTable := #[], attributes := #[] }
def k2m2 : Method := { name := "min", desc := "(II)I", sig := { parameters := [.int, .int], returnType := some .int }, accessFlags := 9, code := some k2c2 }
/-- java/lang/Math -/
def k2 : Class := { plain "java/lang/Math" (some 0) with
  accessFlags := 49
  interfaces := #[]
  cf := some (fileOf pool2 1 #[.nestMembers #[98]] #[{ accessFlags := 2, nameIndex := 7, descriptorIndex := 8, attributes := #[] }, { accessFlags := 9, nameIndex := 198, descriptorIndex := 335, attributes := #[] }, { accessFlags := 9, nameIndex := 201, descriptorIndex := 335, attributes := #[] }] 49 4 #[] #[{ accessFlags := 25, nameIndex := 354, descriptorIndex := 339, attributes := #[] }, { accessFlags := 25, nameIndex := 358, descriptorIndex := 339, attributes := #[] }, { accessFlags := 25, nameIndex := 361, descriptorIndex := 339, attributes := #[] }, { accessFlags := 26, nameIndex := 364, descriptorIndex := 339, attributes := #[] }, { accessFlags := 26, nameIndex := 365, descriptorIndex := 339, attributes := #[] }, { accessFlags := 26, nameIndex := 172, descriptorIndex := 173, attributes := #[] }, { accessFlags := 26, nameIndex := 176, descriptorIndex := 173, attributes := #[] }, { accessFlags := 8, nameIndex := 344, descriptorIndex := 339, attributes := #[] }, { accessFlags := 8, nameIndex := 338, descriptorIndex := 339, attributes := #[] }, { accessFlags := 4120, nameIndex := 245, descriptorIndex := 246, attributes := #[] }])
  fields := #[{ name := "E", type := .double, accessFlags := 25, slot := 0, constantValue := 0 }, { name := "PI", type := .double, accessFlags := 25, slot := 1, constantValue := 0 }, { name := "TAU", type := .double, accessFlags := 25, slot := 2, constantValue := 0 }, { name := "DEGREES_TO_RADIANS", type := .double, accessFlags := 26, slot := 3, constantValue := 0 }, { name := "RADIANS_TO_DEGREES", type := .double, accessFlags := 26, slot := 4, constantValue := 0 }, { name := "negativeZeroFloatBits", type := .long, accessFlags := 26, slot := 5, constantValue := 0 }, { name := "negativeZeroDoubleBits", type := .long, accessFlags := 26, slot := 6, constantValue := 0 }, { name := "twoToTheDoubleScaleUp", type := .double, accessFlags := 8, slot := 7, constantValue := 0 }, { name := "twoToTheDoubleScaleDown", type := .double, accessFlags := 8, slot := 8, constantValue := 0 }, { name := "$assertionsDisabled", type := .boolean, accessFlags := 4120, slot := 9, constantValue := 0 }]
  methods := #[k2m0, k2m1, k2m2]
  instanceTypes := #[]
  staticTypes := #[.double, .double, .double, .double, .double, .long, .long, .double, .double, .boolean]
  resolved := Array.replicate 460 none
  statics := none }

def pool3 : Array CpInfo := pool [(2, .class_ 4), (1, u "java/lang/Object"), (3, .class_ 10), (1, u "com/example/chronopath/chronopath/network/ArrivalLine"), (0, u "before"), (0, u "Lcom/example/chronopath/chronopath/network/ArrivalLine;"), (2, u "nodeBefore"), (0, u "I"), (2, u "piece"), (0, u "Lcom/example/chronopath/chronopath/network/TravelTime$Piece;"), (2, u "slopeLow"), (0, u "D"), (2, u "slopeHigh"), (2, u "startLow"), (2, u "startHigh"), (20, u "numbers"), (16, .class_ 73), (1, u "com/example/chronopath/chronopath/network/ArrivalLine$Numbers"), (100, u "Lcom/example/chronopath/chronopath/network/ArrivalLine$Numbers;"), (70, u "BOUNDS"), (17, u "slopesApart"), (0, u "([DI[DI)Z")] 21

def k3c0 : Code := { maxStack := 4, maxLocals := 4, code := prog_16_method_12_code, exceptionTable := #[], attributes := #[] }
def k3m0 : Method := { name := "slopesApart", desc := "([DI[DI)Z", sig := { parameters := [(.array .double), .int, (.array .double), .int], returnType := some .boolean }, accessFlags := 8, code := some k3c0 }
/-- com/example/chronopath/chronopath/network/ArrivalLine -/
def k3 : Class := { plain "com/example/chronopath/chronopath/network/ArrivalLine" (some 0) with
  accessFlags := 48
  interfaces := #[]
  cf := some (fileOf pool3 8 #[.nestMembers #[71]] #[{ accessFlags := 8, nameIndex := 263, descriptorIndex := 264, attributes := #[] }] 48 2 #[] #[{ accessFlags := 24, nameIndex := 245, descriptorIndex := 16, attributes := #[] }, { accessFlags := 18, nameIndex := 11, descriptorIndex := 12, attributes := #[] }, { accessFlags := 18, nameIndex := 15, descriptorIndex := 16, attributes := #[] }, { accessFlags := 18, nameIndex := 19, descriptorIndex := 20, attributes := #[] }, { accessFlags := 18, nameIndex := 23, descriptorIndex := 24, attributes := #[] }, { accessFlags := 18, nameIndex := 27, descriptorIndex := 24, attributes := #[] }, { accessFlags := 18, nameIndex := 30, descriptorIndex := 24, attributes := #[] }, { accessFlags := 18, nameIndex := 33, descriptorIndex := 24, attributes := #[] }, { accessFlags := 2, nameIndex := 54, descriptorIndex := 174, attributes := #[] }])
  fields := #[{ name := "BOUNDS", type := .int, accessFlags := 24, slot := 0, constantValue := 0 }, { name := "before", type := (.object "com/example/chronopath/chronopath/network/ArrivalLine"), accessFlags := 18, slot := 0, constantValue := 0 }, { name := "nodeBefore", type := .int, accessFlags := 18, slot := 1, constantValue := 0 }, { name := "piece", type := (.object "com/example/chronopath/chronopath/network/TravelTime$Piece"), accessFlags := 18, slot := 2, constantValue := 0 }, { name := "slopeLow", type := .double, accessFlags := 18, slot := 3, constantValue := 0 }, { name := "slopeHigh", type := .double, accessFlags := 18, slot := 4, constantValue := 0 }, { name := "startLow", type := .double, accessFlags := 18, slot := 5, constantValue := 0 }, { name := "startHigh", type := .double, accessFlags := 18, slot := 6, constantValue := 0 }, { name := "numbers", type := (.object "com/example/chronopath/chronopath/network/ArrivalLine$Numbers"), accessFlags := 2, slot := 7, constantValue := 0 }]
  methods := #[k3m0]
  instanceTypes := #[(.object "com/example/chronopath/chronopath/network/ArrivalLine"), .int, (.object "com/example/chronopath/chronopath/network/TravelTime$Piece"), .double, .double, .double, .double, (.object "com/example/chronopath/chronopath/network/ArrivalLine$Numbers")]
  staticTypes := #[.int]
  resolved := Array.replicate 286 none
  statics := none }

def pool4 : Array CpInfo := pool [(1, u "java/lang/Cloneable"), (0, .class_ 1), (0, u "java/lang/Object"), (0, .class_ 3)] 3

/-- java/lang/Cloneable -/
def k4 : Class := { plain "java/lang/Cloneable" (some 0) with
  accessFlags := 1537
  interfaces := #[]
  cf := some (fileOf pool4 2 #[] #[] 1537 4 #[] #[])
  fields := #[]
  methods := #[]
  instanceTypes := #[]
  staticTypes := #[]
  resolved := Array.replicate 8 none
  statics := none }

def pool5 : Array CpInfo := pool [(1, u "java/io/Serializable"), (0, .class_ 1), (0, u "java/lang/Object"), (0, .class_ 3)] 3

/-- java/io/Serializable -/
def k5 : Class := { plain "java/io/Serializable" (some 0) with
  accessFlags := 1537
  interfaces := #[]
  cf := some (fileOf pool5 2 #[] #[] 1537 4 #[] #[])
  fields := #[]
  methods := #[]
  instanceTypes := #[]
  staticTypes := #[]
  resolved := Array.replicate 8 none
  statics := none }

/-- the primitive byte -/
def k6 : Class := { plain "byte" none with kind := .primitive 'B', accessFlags := 0x411 }
/-- [B -/
def k7 : Class := { plain "[B" (some 0) with kind := .array 6 .byte, interfaces := #[4, 5], accessFlags := 1041 }

/-- the primitive int -/
def k8 : Class := { plain "int" none with kind := .primitive 'I', accessFlags := 0x411 }
/-- [I -/
def k9 : Class := { plain "[I" (some 0) with kind := .array 8 .int, interfaces := #[4, 5], accessFlags := 1041 }

def heap : Heap := #[]
/-- the primitive double -/
def k10 : Class := { plain "double" none with kind := .primitive 'D', accessFlags := 0x411 }
/-- [D -/
def k11 : Class := { plain "[D" (some 0) with kind := .array 10 .double, interfaces := #[4, 5], accessFlags := 1041 }
def classes : Array Class := #[k0, k1, k2, k3, k4, k5, k6, k7, k8, k9, k10, k11]
def interned : List (Array UInt16 × Addr) := []
def slotsUsed : Nat := 0
def theMethod : MethodId := ⟨1, 1⟩
def args0 : Array Value := #[.int 5, .int 5, .int 5, .int 5, .int 5, .int 5]
def aboutOver (below : List Frame) : State where
  vm := { classes := classes, interned := interned.toArray }
  heap := heap
  slotsUsed := slotsUsed
  threads := #[{ frames := .invoking theMethod args0 :: below }]
def below0 : List Frame := [.native { method := ⟨0, 0⟩, args := #[] }]
def about1 : State := aboutOver below0
def p0 : Program := .bare "" "" ""
def e0 : Env := launch0.env 0 0 0
theorem w_frames : about1.frames = Frame.invoking theMethod args0 :: below0 := rfl
set_option maxRecDepth 65536 in
theorem w_args : argsFit about1.vm theMethod args0 = true := by decide +kernel
set_option maxRecDepth 65536 in
theorem w_heap : heapFits about1 = true := by decide +kernel
set_option maxRecDepth 65536 in
theorem w_runnable : about1.curStatus? = some .runnable := by decide +kernel
set_option maxRecDepth 65536 in
theorem w_alone : about1.alone = true := by decide +kernel
set_option maxRecDepth 65536 in
theorem w_named : about1.methodNamed? x = some theMethod := by decide +kernel
set_option maxRecDepth 65536 in
theorem w_hears : about1.hears theMethod below0 = true := by decide +kernel
set_option maxRecDepth 65536 in
theorem w_ripe : about1.ripe theMethod args0 below0 = true := by decide +kernel
theorem w_running : about1.status = .running := rfl
set_option maxRecDepth 65536 in
theorem w_room : about1.hasRoom e0.platform room_1 = true :=
  launch0.hasRoom_least _ room_1 (by decide +kernel) (by decide +kernel) (by decide +kernel) (by decide +kernel) (by decide +kernel) (by decide +kernel)
theorem allAtoms_all (ts : List Jvm.Cond) (a : Array Jvm.Value) (st : Jvm.State) : (allAtoms ts).before a st = ts.all (fun c => c.before a st) := by
  induction ts with
  | nil => rfl
  | cons c t ih =>
    show (Jvm.Cond.and c (allAtoms t)).before a st = _
    rw [Jvm.Cond.before_and, ih, List.all_cons]
def words1 : List Jvm.Cond := Jvm.Cond.code x code maxLocals ret :: tables_1
/-- a 'code' word, met by the world's own term for the bytes: nothing is compared byte by byte -/
theorem code_word {y : MethodName} {bytes : ByteArray} {mx : Nat} {rt : Option FieldType} {a : Array Value} {s : State} {m : MethodId} {meth : Method} {c : Code} (h1 : s.methodNamed? y = some m) (h2 : s.vm.method? m = some meth) (h3 : meth.code = some c) (h4 : c.code = bytes)
    (h5 : (c.maxLocals == mx && c.exceptionTable.isEmpty && decide (c.maxStack ≤ mostOperands) && decide (meth.sig.returnType = rt) && !meth.locks && decide (parseMethodDescriptor y.desc = some meth.sig)) = true) : (Jvm.Cond.code y bytes mx rt).before a s = true := by
  simp only [Bool.and_eq_true, beq_iff_eq, Bool.not_eq_true', decide_eq_true_eq] at h5
  obtain ⟨⟨⟨⟨⟨g1, g2⟩, g3⟩, g4⟩, g5⟩, g6⟩ := h5
  simp [Cond.before, Cond.holds, Cond.value, h1, h2, h3, h4, g1, g2, g3, g4, g5, g6]
def isCode : Jvm.Cond → Bool
  | .code _ _ _ _ => true
  | _ => false
theorem all_split {L : List Jvm.Cond} {P : Jvm.Cond → Bool} (h1 : L.all (fun c => isCode c || P c) = true) (h2 : ∀ c ∈ L.filter isCode, P c = true) : L.all P = true := by
  refine List.all_eq_true.mpr fun c hc => ?_
  have h := List.all_eq_true.mp h1 c hc
  rcases Bool.eq_false_or_eq_true (isCode c) with hi | hi
  · exact h2 c (List.mem_filter.mpr ⟨hc, hi⟩)
  · simpa [hi] using h
set_option maxRecDepth 65536 in
theorem w_c0 : (Jvm.Cond.code x code maxLocals ret).before args0 about1 = true := code_word (m := ⟨1, 1⟩) (meth := k1m1) (c := k1c1) (by decide +kernel) rfl rfl rfl (by decide +kernel)
set_option maxRecDepth 65536 in
theorem w_c1 : (Jvm.Cond.code ({ cls := "java/lang/Math", name := "min", desc := "(II)I" } : Jvm.MethodName) jdk_29_method_69_code (2 : Nat) (Option.some Jvm.ClassFile.FieldType.int)).before args0 about1 = true := code_word (m := ⟨2, 2⟩) (meth := k2m2) (c := k2c2) (by decide +kernel) rfl rfl rfl (by decide +kernel)
set_option maxRecDepth 65536 in
theorem w_c2 : (Jvm.Cond.code ({ cls := "java/lang/Math", name := "max", desc := "(II)I" } : Jvm.MethodName) jdk_29_method_65_code (2 : Nat) (Option.some Jvm.ClassFile.FieldType.int)).before args0 about1 = true := code_word (m := ⟨2, 1⟩) (meth := k2m1) (c := k2c1) (by decide +kernel) rfl rfl rfl (by decide +kernel)
set_option maxRecDepth 65536 in
theorem w_c3 : (Jvm.Cond.code ({ cls := "com/example/chronopath/chronopath/network/ArrivalLine", name := "slopesApart", desc := "([DI[DI)Z" } : Jvm.MethodName) prog_16_method_12_code (4 : Nat) (Option.some Jvm.ClassFile.FieldType.boolean)).before args0 about1 = true := code_word (m := ⟨3, 0⟩) (meth := k3m0) (c := k3c0) (by decide +kernel) rfl rfl rfl (by decide +kernel)
def codes1 : List Jvm.Cond := [Jvm.Cond.code x code maxLocals ret, Jvm.Cond.code ({ cls := "java/lang/Math", name := "min", desc := "(II)I" } : Jvm.MethodName) jdk_29_method_69_code (2 : Nat) (Option.some Jvm.ClassFile.FieldType.int), Jvm.Cond.code ({ cls := "java/lang/Math", name := "max", desc := "(II)I" } : Jvm.MethodName) jdk_29_method_65_code (2 : Nat) (Option.some Jvm.ClassFile.FieldType.int), Jvm.Cond.code ({ cls := "com/example/chronopath/chronopath/network/ArrivalLine", name := "slopesApart", desc := "([DI[DI)Z" } : Jvm.MethodName) prog_16_method_12_code (4 : Nat) (Option.some Jvm.ClassFile.FieldType.boolean)]
set_option maxRecDepth 65536 in
theorem codes_eq : words1.filter isCode = codes1 := rfl
theorem w_codes : ∀ c ∈ words1.filter isCode, c.before args0 about1 = true := by
  rw [codes_eq]
  intro c hc
  simp only [codes1, List.mem_cons, List.not_mem_nil, or_false] at hc
  rcases hc with rfl | rfl | rfl | rfl
  · exact w_c0
  · exact w_c1
  · exact w_c2
  · exact w_c3
set_option maxRecDepth 65536 in
theorem w_t1 : words1.all (fun c => isCode c || c.before args0 about1) = true := by decide +kernel
theorem w_tables : (allAtoms (Jvm.Cond.code x code maxLocals ret :: tables_1)).before args0 about1 = true := by
  rw [allAtoms_all]
  show words1.all (fun c => c.before args0 about1) = true
  refine all_split ?_ w_codes
  rw [w_t1]
set_option maxRecDepth 65536 in
theorem w_case : (Jvm.Cond.and given_1 narrow_1).before args0 about1 = true := by decide +kernel
theorem w_applies : (headSpec (Jvm.Cond.code x code maxLocals ret :: tables_1) room_1).applies x e0.platform about1 = true :=
  (Spec.applies_iff w_frames).mpr ⟨w_running, w_runnable, w_alone, w_named, w_hears, w_ripe, w_room, w_tables⟩
theorem atStart : AtStart classFile x code maxLocals ret World_1 tables_1 room_1 Calls_1 rest_1 Pre_1 launch0 p0 e0 about1 theMethod args0 below0 :=
  ⟨lists_1, trivial, launch0.admits_env _ _ _, launch0.least_env, fairChoices_fair.cas, fairChoices_fair.clock, w_frames, w_args, w_heap, w_applies, trivial, trivial, w_case⟩
end start1
theorem witness_1 : WitnessClaimed_1 := ⟨start1.p0, start1.e0, start1.about1, start1.theMethod, start1.args0, start1.below0, start1.atStart⟩
end Jvm.Pilot.@@N@@
