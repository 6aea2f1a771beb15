import JvmDerived
import JvmDerived.Pilot.@@N@@Statement
import JvmDerived.Pilot.@@N@@Code
set_option linter.unusedVariables false
set_option linter.unusedSimpArgs false
namespace Jvm.Pilot.@@N@@
open Jvm Jvm.ClassFile Sem Op Lib Jvm.Free Jvm.Stand Jvm.LawKit Jvm.RoadKit Bundle Jvm.Pilot.@@N@@.Jvm.D
theorem own_go {α β : Sort _} {A B : α → Prop} {P : α → β → Prop} (k : ∀ t, A t → B t) (h : ∃ t o, A t ∧ P t o) : ∃ t o, B t ∧ P t o := by
  obtain ⟨t, o, h1, h2⟩ := h
  exact ⟨t, o, k t h1, h2⟩
theorem own_abs {α β : Sort _} {A : α → Prop} {P : α → β → Prop} (h : ∀ P' : α → β → Prop, (∀ t o, P t o → P' t o) → ∃ t o, A t ∧ P' t o) : ∃ t o, A t ∧ P t o := h P fun _ _ q => q
theorem own_cat1 {v : Value} (h : v.isRef = true) : v.category = 1 := by rcases ref_cases h with rfl | ⟨_, rfl⟩ <;> rfl
theorem own_slot1 {v : Value} (h : v.isRef = true) : Slot.val v = .unset ∨ ∃ w, Slot.val v = .val w ∧ w.category = 1 := Or.inr ⟨v, rfl, own_cat1 h⟩
theorem own_nar {C : String} {w : Value} (h : w.isRef = true) : narrow (.object C) w = w := by rcases ref_cases h with rfl | ⟨_, rfl⟩ <;> rfl
open Jvm.FP.Core (val64 b64 inUnits good_b64) in
def own_U (x : UInt64) (u : Nat) : Prop := ∃ c q, val64 x = .fin false c q ∧ inUnits c q b64.qmin = u
theorem own_qmin : Jvm.FP.Core.b64.qmin = -1074 := by decide
theorem own_qmax : Jvm.FP.Core.b64.qmax = 971 := by decide
theorem own_inU (c : Nat) (q : Int) : Jvm.FP.Core.inUnits c q Jvm.FP.Core.b64.qmin = c * 2 ^ (q + 1074).toNat := by
  unfold Jvm.FP.Core.inUnits; rw [own_qmin]; congr 2
theorem own_Unan {x : UInt64} {u : Nat} (h : own_U x u) : Jvm.FP.Core.val64 x ≠ .nan := by
  obtain ⟨c, q, e, -⟩ := h; rw [e]; exact Jvm.FP.Core.Datum.noConfusion
theorem own_Unn {x : UInt64} {u : Nat} (h : own_U x u) : Jvm.Free.Fl.NoNaN64 x := by
  have := own_Unan h
  exact Jvm.Free.Fl.val64_no.mpr this
theorem own_rnd {N k : Nat} (hN : N < 9007199254740992) (hk : k ≤ 1074) : ∃ c q, Jvm.FP.Core.round Jvm.FP.Core.b64 (.fin false N (-(k : Int))) = .fin false c q ∧ Jvm.FP.Core.inUnits c q Jvm.FP.Core.b64.qmin = N * 2 ^ (1074 - k) := by
  obtain ⟨c, q, h1, h2⟩ := Jvm.FP.Core.round_exact Jvm.FP.Core.good_b64 false (c := N) (q := -(k : Int)) (show N < 2 ^ 53 from hN) (by rw [own_qmin]; omega) (by rw [own_qmax]; omega)
  refine ⟨c, q, h1, h2.trans ?_⟩
  rw [own_inU]; congr 2; omega
theorem own_Ufit {x : UInt64} {c : Nat} {q : Int} (e : Jvm.FP.Core.val64 x = .fin false c q) : -1074 ≤ q := by
  have h := Jvm.FP.Core.val64_fits x
  rw [e] at h; have := h.2.1; rw [own_qmin] at this; exact this
/-- what rounds as N / 2 ^ k, N below 2 ^ 53, is just that -/
theorem own_Uof {x : UInt64} {D : Jvm.FP.Core.Datum} {N k : Nat} (hx : Jvm.FP.Core.val64 x = Jvm.FP.Core.round Jvm.FP.Core.b64 D) (hN : N < 9007199254740992) (hk : k ≤ 1074) (h : Jvm.FP.Core.round Jvm.FP.Core.b64 D = Jvm.FP.Core.round Jvm.FP.Core.b64 (.fin false N (-(k : Int)))) : own_U x (N * 2 ^ (1074 - k)) := by
  obtain ⟨c, q, h1, h2⟩ := own_rnd hN hk
  exact ⟨c, q, hx.trans (h.trans h1), h2⟩
theorem own_i2d {x : Int32} {N : Nat} (h : x.toInt = N) : own_U (Jvm.FP.i2d x) (N * 2 ^ 1074) := by
  have r := x.toInt_lt
  refine own_Uof (k := 0) (Jvm.FP.Core.val64_i2d x) (by omega) (by omega) ?_
  rw [h]; rfl
theorem own_l2d {x : Int64} {N : Nat} (h : x.toInt = N) (hN : N < 9007199254740992) : own_U (Jvm.FP.l2d x) (N * 2 ^ 1074) := by
  refine own_Uof (k := 0) (Jvm.FP.Core.val64_l2d x) hN (by omega) ?_
  rw [h]; rfl
theorem own_add {x y : UInt64} {u v N k : Nat} (hx : own_U x u) (hy : own_U y v) (hN : N < 9007199254740992) (hk : k ≤ 1074) (h : u + v = N * 2 ^ (1074 - k)) : own_U (Jvm.FP.dadd x y) (N * 2 ^ (1074 - k)) := by
  obtain ⟨c, q, e1, e2⟩ := hx
  obtain ⟨d, r, f1, f2⟩ := hy
  have hq := own_Ufit e1
  have hr := own_Ufit f1
  refine own_Uof (Jvm.FP.Core.val64_dadd x y) hN hk ?_
  rw [e1, f1]
  have hs : Jvm.FP.Core.sumUnits false c q false d r (min q r) = ((Jvm.FP.Core.inUnits c q (min q r) + Jvm.FP.Core.inUnits d r (min q r) : Nat) : Int) := by
    show ((Jvm.FP.Core.inUnits c q (min q r) : Nat) : Int) + ((Jvm.FP.Core.inUnits d r (min q r) : Nat) : Int) = _
    omega
  have hx : Jvm.FP.Core.exactSum (.fin false c q) (.fin false d r) = .fin false (Jvm.FP.Core.inUnits c q (min q r) + Jvm.FP.Core.inUnits d r (min q r)) (min q r) := by
    show Jvm.FP.Core.Datum.fin (Jvm.FP.Core.sumSign false false _) (Jvm.FP.Core.sumUnits false c q false d r (min q r)).natAbs (min q r) = _
    rw [hs]
    congr 1
    unfold Jvm.FP.Core.sumSign
    split
    · rfl
    · exact decide_eq_false (by omega)
  rw [hx, ← Jvm.FP.Core.round_inUnits false _ (e := Jvm.FP.Core.b64.qmin) (by rw [own_qmin]; omega), ← Jvm.FP.Core.round_inUnits false N (q := -(k : Int)) (e := Jvm.FP.Core.b64.qmin) (by rw [own_qmin]; omega)]
  congr 2
  rw [own_inU N, show (-(k : Int) + 1074).toNat = 1074 - k by omega, ← h, ← e2, ← f2, Jvm.FP.Core.inUnits_move c (e := Jvm.FP.Core.b64.qmin) (r := min q r) (q := q) (by rw [own_qmin]; omega) (by omega), Jvm.FP.Core.inUnits_move d (e := Jvm.FP.Core.b64.qmin) (r := min q r) (q := r) (by rw [own_qmin]; omega) (by omega)]
  unfold Jvm.FP.Core.inUnits
  rw [Nat.add_mul]
theorem own_sub {x y : UInt64} {u v N k : Nat} (hx : own_U x u) (hy : own_U y v) (hN : N < 9007199254740992) (hk : k ≤ 1074) (h : u = v + N * 2 ^ (1074 - k)) : own_U (Jvm.FP.dsub x y) (N * 2 ^ (1074 - k)) := by
  obtain ⟨c, q, e1, e2⟩ := hx
  obtain ⟨d, r, f1, f2⟩ := hy
  have hq := own_Ufit e1
  have hr := own_Ufit f1
  have m1 := Jvm.FP.Core.inUnits_move c (e := Jvm.FP.Core.b64.qmin) (r := min q r) (q := q) (by rw [own_qmin]; omega) (by omega)
  have m2 := Jvm.FP.Core.inUnits_move d (e := Jvm.FP.Core.b64.qmin) (r := min q r) (q := r) (by rw [own_qmin]; omega) (by omega)
  have hle : Jvm.FP.Core.inUnits d r (min q r) ≤ Jvm.FP.Core.inUnits c q (min q r) := by
    have p := Nat.two_pow_pos (min q r - Jvm.FP.Core.b64.qmin).toNat
    refine Nat.le_of_mul_le_mul_right ?_ p
    rw [← m1, ← m2, e2, f2]; omega
  refine own_Uof (Jvm.FP.Core.val64_dsub x y) hN hk ?_
  rw [e1, f1]
  have hs : Jvm.FP.Core.sumUnits false c q true d r (min q r) = ((Jvm.FP.Core.inUnits c q (min q r) - Jvm.FP.Core.inUnits d r (min q r) : Nat) : Int) := by
    show ((Jvm.FP.Core.inUnits c q (min q r) : Nat) : Int) + -((Jvm.FP.Core.inUnits d r (min q r) : Nat) : Int) = _
    omega
  have hx : Jvm.FP.Core.exactSum (.fin false c q) (Jvm.FP.Core.negate (.fin false d r)) = .fin false (Jvm.FP.Core.inUnits c q (min q r) - Jvm.FP.Core.inUnits d r (min q r)) (min q r) := by
    show Jvm.FP.Core.Datum.fin (Jvm.FP.Core.sumSign false true (Jvm.FP.Core.sumUnits false c q true d r (min q r))) (Jvm.FP.Core.sumUnits false c q true d r (min q r)).natAbs (min q r) = _
    rw [hs]
    congr 1
    unfold Jvm.FP.Core.sumSign
    split
    · rfl
    · exact decide_eq_false (by omega)
  rw [hx, ← Jvm.FP.Core.round_inUnits false _ (e := Jvm.FP.Core.b64.qmin) (by rw [own_qmin]; omega), ← Jvm.FP.Core.round_inUnits false N (q := -(k : Int)) (e := Jvm.FP.Core.b64.qmin) (by rw [own_qmin]; omega)]
  congr 2
  rw [own_inU N, show (-(k : Int) + 1074).toNat = 1074 - k by omega]
  have e3 : u - v = N * 2 ^ (1074 - k) := by omega
  rw [← e3, ← e2, ← f2, m1, m2]
  unfold Jvm.FP.Core.inUnits
  rw [Nat.sub_mul]
theorem own_mul {x y : UInt64} {u v N k : Nat} (hx : own_U x u) (hy : own_U y v) (hN : N < 9007199254740992) (hk : k ≤ 1074) (h : u * v = N * 2 ^ (2148 - k)) : own_U (Jvm.FP.dmul x y) (N * 2 ^ (1074 - k)) := by
  obtain ⟨c, q, e1, e2⟩ := hx
  obtain ⟨d, r, f1, f2⟩ := hy
  have hq := own_Ufit e1
  have hr := own_Ufit f1
  refine own_Uof (Jvm.FP.Core.val64_dmul x y) hN hk ?_
  rw [e1, f1]
  rw [own_inU] at e2 f2
  show Jvm.FP.Core.roundRatio Jvm.FP.Core.b64 false (c * d) 1 (q + r) = Jvm.FP.Core.roundRatio Jvm.FP.Core.b64 false N 1 (-(k : Int))
  refine Jvm.FP.Core.roundRatio_congr (by decide) (by decide) ?_
  rw [Nat.mul_one, Nat.mul_one]
  obtain ⟨a, ha⟩ : ∃ a, a = (q + 1074).toNat := ⟨_, rfl⟩
  obtain ⟨b, hb⟩ : ∃ b, b = (r + 1074).toNat := ⟨_, rfl⟩
  rw [← ha] at e2
  rw [← hb] at f2
  have key : c * d * 2 ^ (a + b) = N * 2 ^ (2148 - k) := by
    rw [← h, ← e2, ← f2, Nat.pow_add]; ac_rfl
  by_cases g : 2148 - k ≤ a + b
  · rw [show (q + r - -(k : Int)).toNat = a + b - (2148 - k) by omega, show (-(k : Int) - (q + r)).toNat = 0 by omega, Nat.pow_zero, Nat.mul_one]
    refine Nat.eq_of_mul_eq_mul_right (Nat.two_pow_pos (2148 - k)) ?_
    rw [Nat.mul_assoc, ← Nat.pow_add, show a + b - (2148 - k) + (2148 - k) = a + b by omega]; exact key
  · rw [show (q + r - -(k : Int)).toNat = 0 by omega, show (-(k : Int) - (q + r)).toNat = 2148 - k - (a + b) by omega, Nat.pow_zero, Nat.mul_one]
    refine Nat.eq_of_mul_eq_mul_right (Nat.two_pow_pos (a + b)) ?_
    rw [Nat.mul_assoc N, ← Nat.pow_add, show 2148 - k - (a + b) + (a + b) = 2148 - k by omega]; exact key
theorem own_div {x y : UInt64} {u v A B : Nat} (hx : own_U x u) (hy : own_U y v) (hv : 0 < v) (hB : 0 < B) (h : u * B = A * v) : Jvm.FP.Core.val64 (Jvm.FP.ddiv x y) = Jvm.FP.Core.roundRatio Jvm.FP.Core.b64 false A B 0 := by
  obtain ⟨c, q, e1, e2⟩ := hx
  obtain ⟨d, r, f1, f2⟩ := hy
  have hq := own_Ufit e1
  have hr := own_Ufit f1
  rw [show Jvm.FP.Core.val64 (Jvm.FP.ddiv x y) = _ from Jvm.FP.Core.val64_ddiv x y, e1, f1]
  rw [own_inU] at e2 f2
  have hd : d ≠ 0 := fun z => by rw [z, Nat.zero_mul] at f2; omega
  show (if d = 0 then _ else Jvm.FP.Core.roundRatio Jvm.FP.Core.b64 (false != false) c d (q - r)) = _
  rw [if_neg hd]
  refine Jvm.FP.Core.roundRatio_congr (s := false) (Nat.pos_of_ne_zero hd) hB ?_
  obtain ⟨a, ha⟩ : ∃ a, a = (q + 1074).toNat := ⟨_, rfl⟩
  obtain ⟨b, hb⟩ : ∃ b, b = (r + 1074).toNat := ⟨_, rfl⟩
  rw [← ha] at e2
  rw [← hb] at f2
  have key : c * B * 2 ^ a = A * d * 2 ^ b := by
    have := h; rw [← e2, ← f2] at this
    calc c * B * 2 ^ a = c * 2 ^ a * B := by ac_rfl
      _ = A * (d * 2 ^ b) := this
      _ = A * d * 2 ^ b := by ac_rfl
  by_cases g : b ≤ a
  · rw [show (q - r - 0).toNat = a - b by omega, show (0 - (q - r)).toNat = 0 by omega, Nat.pow_zero, Nat.mul_one]
    refine Nat.eq_of_mul_eq_mul_right (Nat.two_pow_pos b) ?_
    rw [Nat.mul_assoc, ← Nat.pow_add, show a - b + b = a by omega]; exact key
  · rw [show (q - r - 0).toNat = 0 by omega, show (0 - (q - r)).toNat = b - a by omega, Nat.pow_zero, Nat.mul_one]
    refine Nat.eq_of_mul_eq_mul_right (Nat.two_pow_pos a) ?_
    rw [Nat.mul_assoc (A * d), ← Nat.pow_add, show b - a + a = b by omega]; exact key
/-- a quotient that is a number N / 2 ^ k -/
theorem own_divx {x y : UInt64} {u v N k : Nat} (hx : own_U x u) (hy : own_U y v) (hv : 0 < v) (hN : N < 9007199254740992) (hk : k ≤ 1074) (h : u * 2 ^ k = N * v) : own_U (Jvm.FP.ddiv x y) (N * 2 ^ (1074 - k)) := by
  obtain ⟨c, q, h1, h2⟩ := own_rnd hN hk
  refine ⟨c, q, ?_, h2⟩
  rw [own_div hx hy hv (Nat.two_pow_pos k) h, ← h1]
  show _ = Jvm.FP.Core.roundRatio Jvm.FP.Core.b64 false N 1 (-(k : Int))
  refine Jvm.FP.Core.roundRatio_congr (Nat.two_pow_pos k) (by decide) ?_
  rw [show (0 - -(k : Int)).toNat = k by omega, show (-(k : Int) - 0).toNat = 0 by omega]
  simp
theorem own_zv {x : UInt64} {u : Nat} (h : own_U x u) : Jvm.FP.Core.zval Jvm.FP.Core.b64 (Jvm.FP.Core.val64 x) = u := by
  obtain ⟨c, q, e1, e2⟩ := h
  rw [e1, ← e2]; rfl
theorem own_cmp {x y : UInt64} {u v : Nat} (hx : own_U x u) (hy : own_U y v) (o : CmpOp) : cmpValue (Jvm.FP.dcmp x y) o = if u < v then -1 else if u = v then 0 else 1 := by
  rw [show Jvm.FP.dcmp x y = _ from Jvm.FP.Core.dcmp_zval (own_Unan hx) (own_Unan hy), own_zv hx, own_zv hy, Jvm.FP.Core.compare_ite]
  by_cases h1 : u < v
  · rw [if_pos h1, if_pos (by omega)]; rfl
  · by_cases h2 : u = v
    · rw [if_neg h1, if_pos h2, if_neg (by omega), if_pos (by omega)]; rfl
    · rw [if_neg h1, if_neg h2, if_neg (by omega), if_neg (by omega)]; rfl
theorem own_same {x y : UInt64} {A B : Nat} (hx : Jvm.FP.Core.val64 x = Jvm.FP.Core.roundRatio Jvm.FP.Core.b64 false A B 0) (hy : Jvm.FP.Core.val64 y = Jvm.FP.Core.roundRatio Jvm.FP.Core.b64 false A B 0) : x = y :=
  Jvm.FP.Core.val64_inj (by rw [hx]; exact Jvm.FP.Core.roundRatio_ne_nan _ _ _ _ _) (hx.trans hy.symm)
theorem own_c0 : own_U Jvm.FP.dconst0 (0 * 2 ^ 1074) := ⟨0, -1074, by decide +kernel, by decide +kernel⟩
theorem own_c1 : own_U Jvm.FP.dconst1 (1 * 2 ^ 1074) := ⟨2 ^ 52, -52, by decide +kernel, by decide +kernel⟩
/-- a rounded quotient of naturals: no NaN, not below 0, at most a number that the exact one doesn't exceed -/
theorem own_qnn {w : UInt64} {A B : Nat} (hw : Jvm.FP.Core.val64 w = Jvm.FP.Core.roundRatio Jvm.FP.Core.b64 false A B 0) : Jvm.Free.Fl.NoNaN64 w := by
  have : Jvm.FP.Core.val64 w ≠ .nan := by rw [hw]; exact Jvm.FP.Core.roundRatio_ne_nan _ _ _ _ _
  exact Jvm.Free.Fl.val64_no.mpr this
theorem own_qge {w z : UInt64} {A B u : Nat} (hw : Jvm.FP.Core.val64 w = Jvm.FP.Core.roundRatio Jvm.FP.Core.b64 false A B 0) (hz : own_U z u) (h0 : u = 0) (o : CmpOp) : ¬ cmpValue (Jvm.FP.dcmp w z) o < 0 := by
  have nw : Jvm.FP.Core.val64 w ≠ .nan := by rw [hw]; exact Jvm.FP.Core.roundRatio_ne_nan _ _ _ _ _
  have zw : 0 ≤ Jvm.FP.Core.zval Jvm.FP.Core.b64 (Jvm.FP.Core.val64 w) := by
    unfold Jvm.FP.Core.zval; rw [hw, Jvm.FP.Core.sgn_roundRatio]; show (0 : Int) ≤ ((_ : Nat) : Int); omega
  rw [show Jvm.FP.dcmp w z = _ from Jvm.FP.Core.dcmp_zval nw (own_Unan hz), own_zv hz, Jvm.FP.Core.compare_ite, h0]
  rw [if_neg (by omega)]
  split <;> (intro q; cases o <;> revert q <;> decide)
theorem own_qle {w z : UInt64} {A B n : Nat} (hw : Jvm.FP.Core.val64 w = Jvm.FP.Core.roundRatio Jvm.FP.Core.b64 false A B 0) (hB : 0 < B) (hz : own_U z (n * 2 ^ 1074)) (h : A ≤ n * B) (o : CmpOp) : ¬ 0 < cmpValue (Jvm.FP.dcmp w z) o := by
  have nw : Jvm.FP.Core.val64 w ≠ .nan := by rw [hw]; exact Jvm.FP.Core.roundRatio_ne_nan _ _ _ _ _
  have zz := own_zv hz
  obtain ⟨c, q, e1, e2⟩ := hz
  have zm : Jvm.FP.Core.zmag Jvm.FP.Core.b64 (Jvm.FP.Core.val64 z) = n * 2 ^ 1074 := by rw [e1]; exact e2
  have le := Jvm.FP.Core.zmag_roundRatio_le Jvm.FP.Core.good_b64 (s := false) (A := A) (B := B) (e := 0) (e0 := Jvm.FP.Core.b64.qmin) (V := Jvm.FP.Core.val64 z) hB (Jvm.FP.Core.val64_fits z) (by rw [e1]; exact Jvm.FP.Core.Datum.noConfusion) (Int.le_refl _) (by rw [own_qmin]; omega) (by
    rw [zm, own_inU, show (Jvm.FP.Core.b64.qmin - Jvm.FP.Core.b64.qmin).toNat = 0 by omega, Nat.pow_zero, Nat.mul_one, show ((0 : Int) + 1074).toNat = 1074 by decide]
    calc A * 2 ^ 1074 ≤ n * B * 2 ^ 1074 := Nat.mul_le_mul_right _ h
      _ = n * 2 ^ 1074 * B := Nat.mul_right_comm _ _ _)
  have zw : Jvm.FP.Core.zval Jvm.FP.Core.b64 (Jvm.FP.Core.val64 w) ≤ (n * 2 ^ 1074 : Nat) := by
    unfold Jvm.FP.Core.zval; rw [hw, Jvm.FP.Core.sgn_roundRatio]; show ((_ : Nat) : Int) ≤ _; rw [← zm]; omega
  rw [show Jvm.FP.dcmp w z = _ from Jvm.FP.Core.dcmp_zval nw (by rw [e1]; exact Jvm.FP.Core.Datum.noConfusion), zz, Jvm.FP.Core.compare_ite]
  clear le zm zz e2
  revert zw
  generalize ((n * 2 ^ 1074 : Nat) : Int) = M
  intro zw
  by_cases h1 : Jvm.FP.Core.zval Jvm.FP.Core.b64 (Jvm.FP.Core.val64 w) < M
  · rw [if_pos h1]; intro q; cases o <;> revert q <;> decide
  · rw [if_neg h1, if_pos (by omega)]; intro q; cases o <;> revert q <;> decide

theorem own_sa {a0 : Array Value} {Z : State} (hw : ∀ d ∈ tables_1, d.before a0 Z = true) : ∀ a ∈ Bundle.stringAtoms, a.before a0 Z = true := fun d hd => by
  simp only [Bundle.stringAtoms, List.mem_cons, List.not_mem_nil, or_false] at hd
  rcases hd with rfl | rfl | rfl | rfl | rfl | rfl | rfl
  · exact (hw _ (List.mem_of_getElem? (i := 22) rfl))
  · exact (hw _ (List.mem_of_getElem? (i := 23) rfl))
  · exact (hw _ (List.mem_of_getElem? (i := 24) rfl))
  · exact (hw _ (List.mem_of_getElem? (i := 25) rfl))
  · exact (hw _ (List.mem_of_getElem? (i := 26) rfl))
  · exact (hw _ (List.mem_of_getElem? (i := 27) rfl))
  · exact (hw _ (List.mem_of_getElem? (i := 28) rfl))
theorem own_statUpS {p : Program} {l : Launch} {e : Env} {R : Room} {s : State} {m : MethodId} {args : Array Value} {below : List Frame} {meth : Method} {c : Code} {T : State} {locs : List Loc} {cells slots : Nat} (X : Stand p l e R s m args below meth c T locs cells slots) (hexec : p.tables.exec = Jvm.exec) {own owner : String} {index : Nat} {x : MethodName}
    (hown : s.vm.findClass own = some m.cls) (hlink : (Cond.methodLink own index x).before args s = true) (hsame : (Cond.sameMethod x.cls owner x.name x.desc).before args s = true)
    (hstat : (Cond.static ⟨owner, x.name, x.desc⟩).before args s = true) (hinit : (Cond.initialized owner).before args s = true)
    {mk : MethodId} {methM : Method} (hnamed : s.methodNamed? ⟨owner, x.name, x.desc⟩ = some mk) (hmethM : s.vm.method? mk = some methM) (hsig : parseMethodDescriptor x.desc = some methM.sig)
    (howner : owner ≠ "java/lang/invoke/MethodHandle" ∧ owner ≠ "java/lang/invoke/VarHandle")
    {W : Nat} {Pre : Pt → Array Value → Prop} {Post : Pt → Array Value → Option Value → Pt → Prop} (hK : BackS l R p e below s args ⟨owner, x.name, x.desc⟩ 3 W Pre Post)
    {g : JFrame} (hg : g.method = m) (hsize : g.locals.size = c.maxLocals) {s₀ : State} (hcome : Steps p.tables e below s₀ (T.setTop g)) {argsL rest : List Value}
    (hlen : ∀ sig, parseMethodDescriptor x.desc = some sig → argsL.length = sig.parameters.length) (hstack : g.stack = argsL.reverse ++ rest) (hW : 2 * g.monitorRoom + (rest.map fun v => v.category).sum ≤ W)
    (hdg : decode c.code g.pc = .ok (.invokestatic index, 3)) (hpre : ∀ vm₁, s.WarmedH vm₁ → Pre ⟨T.setVm vm₁, locs, cells, slots⟩ argsL.toArray) :
    ∃ (v : Option Value) (vm₁ : Vm) (B : Pt), s.WarmedH vm₁ ∧ Stand p l e R (s.setVm B.U.vm) m args below meth c B.U B.locs B.cells B.slots ∧ s.Since B.U.vm B.U.heap.size ∧ T.heap.size ≤ B.U.heap.size ∧ Post ⟨T.setVm vm₁, locs, cells, slots⟩ argsL.toArray v B ∧
      Steps p.tables e below s₀ (B.U.setTop { g with pc := g.pc + 3, stack := v.toList ++ rest }) := by
  have hst : methM.isStatic = true := Cond.static_spec hnamed hmethM hstat
  obtain ⟨kP, hkP, -⟩ := className_of_methodNamed hnamed
  have hin : kP.init = .initialized := Cond.initialized_spec (findClass_of_methodNamed hnamed) hkP hinit
  obtain ⟨vm₁, X₁, go⟩ := X.invokestaticUp hexec hown hlink hsame howner hnamed hmethM hst hkP hin (g := g) hg (argsL := argsL) (rest := rest) (hlen _ hsig) hstack hdg
  have q := hK m meth c ⟨T.setVm vm₁, locs, cells, slots⟩ { g with stack := rest } (.invokestatic index) mk argsL.toArray X₁ hg hsize hdg hW (X₁.named hnamed) (hpre vm₁ X₁.warmed)
  obtain ⟨v, B, X', hS, hgr, hpost, hsteps⟩ := q
  refine ⟨v, vm₁, B, X₁.warmed, X', hS, hgr, hpost, hcome.trans ((go _ fun acts => ?_).trans hsteps)⟩
  rw [doInvoke_state]; exact Steps.refl _
def own_max (x y : Int32) : Int32 := if x < y then y else x
theorem own_nonneg {x : UInt64} {u : Nat} (h : own_U x u) (o : CmpOp) : ¬ cmpValue (FP.dcmp x FP.dconst0) o < 0 := by
  rw [own_cmp h own_c0, Nat.zero_mul, if_neg (Nat.not_lt_zero _)]; split <;> decide
theorem own_ltinf {x : UInt64} {u : Nat} (h : own_U x u) (o : CmpOp) : cmpValue (FP.dcmp x (9218868437227405312 : UInt64)) o < 0 := by
  obtain ⟨c, q, e, -⟩ := h
  rw [dcmp_pinf (Jvm.Free.Fl.fin64_core.mpr ⟨false, c, q, e⟩)]; decide
theorem own_le1 {x : UInt64} {u : Nat} (h : own_U x u) (hu : u ≤ 1 * 2 ^ 1074) (o : CmpOp) : ¬ (0 : Int32) < cmpValue (FP.dcmp x FP.dconst1) o := by
  rw [own_cmp h own_c1]
  split
  · decide
  · rw [if_pos (by omega)]; decide
theorem own_p2 (a b : Nat) (h : b ≤ a) : 2 ^ a = 2 ^ (a - b) * 2 ^ b := by rw [← Nat.pow_add, Nat.sub_add_cancel h]
def own_N (Dl T J : Nat) : Nat := T + Dl * 2 ^ J
def own_A (K Dl T J : Nat) : Nat := (K + 1) * own_N Dl T J
def own_D (K Dl T J : Nat) : Nat := (K * 2 ^ J + T) + Dl * 2 ^ J
theorem own_pJ {J : Nat} (h : J ≤ 15) : 2 ^ J ≤ 32768 := Nat.pow_le_pow_right (n := 2) (by decide) h
theorem own_pS {S : Nat} (h : S ≤ 3) : 2 ^ S ≤ 8 := Nat.pow_le_pow_right (n := 2) (by decide) h
theorem own_b1 {x J : Nat} (hx : x ≤ 1023) (hJ : J ≤ 15) : x * 2 ^ J ≤ 1023 * 32768 := Nat.mul_le_mul hx (own_pJ hJ)
theorem own_b2 {K Dl T J : Nat} (hK : K ≤ 1023) (hD : Dl ≤ 1023) (hT : T ≤ 2147483647) (hJ : J ≤ 15) : own_A K Dl T J ≤ 1024 * 2181005311 := by
  have := own_b1 hD hJ
  exact Nat.mul_le_mul (by omega) (by unfold own_N; omega)
theorem own_lmul {x y : Int64} {a b A B : Nat} (hx : x.toInt = a) (hy : y.toInt = b) (ha : a ≤ A) (hb : b ≤ B) (h : A * B < 9223372036854775808) : (x * y).toInt = (a * b : Nat) := by
  have q := Nat.mul_le_mul ha hb
  have e : x.toInt * y.toInt = ((a * b : Nat) : Int) := by rw [hx, hy, Int.natCast_mul]
  rw [Jvm.FP.Core.int64_mul (by rw [e]; omega) (by rw [e]; omega), e]
theorem own_ladd {x y : Int64} {a b : Nat} (hx : x.toInt = a) (hy : y.toInt = b) (h : a + b < 9223372036854775808) : (x + y).toInt = (a + b : Nat) := by
  rw [Jvm.FP.Core.int64_add (by rw [hx, hy]; omega) (by rw [hx, hy]; omega), hx, hy, Int.natCast_add]
theorem own_lsub {x y : Int64} {a b : Nat} (hx : x.toInt = a) (hy : y.toInt = b) (h : b ≤ a) (h2 : a < 9223372036854775808) : (x - y).toInt = (a - b : Nat) := by
  rw [Jvm.FP.Core.int64_sub (by rw [hx, hy]; omega) (by rw [hx, hy]; omega), hx, hy]; omega
theorem own_p {k d : Int32} {f pw : Int64} {K Dl T J : Nat} (hk : k.toInt = K) (hd : d.toInt = Dl) (hf : f.toInt = T) (hp : pw.toInt = (2 ^ J : Nat)) (hK : K ≤ 1023) (hD : Dl ≤ 1023) (hT : T ≤ 2147483647) (hJ : J ≤ 15) :
    ((k.toInt64 + (1 : Int64)) * (f + (d.toInt64 * pw))).toInt = (own_A K Dl T J : Nat) := by
  have e1 : (k.toInt64 + (1 : Int64)).toInt = (K + 1 : Nat) := own_ladd (b := 1) ((c_i2l k).trans hk) rfl (by omega)
  have e2 := own_lmul (A := 1023) (B := 32768) ((c_i2l d).trans hd) hp hD (own_pJ hJ) (by decide)
  have b := own_b1 hD hJ
  have e3 := own_ladd hf e2 (by omega)
  exact own_lmul (A := 1024) (B := 2181005311) e1 e3 (by omega) (by show T + Dl * 2 ^ J ≤ 2181005311; omega) (by decide)
theorem own_q {k d : Int32} {f pw : Int64} {K Dl T J : Nat} (hk : k.toInt = K) (hd : d.toInt = Dl) (hf : f.toInt = T) (hp : pw.toInt = (2 ^ J : Nat)) (hK : K ≤ 1023) (hD : Dl ≤ 1023) (hT : T ≤ 2147483647) (hJ : J ≤ 15) :
    (((k.toInt64 * pw) + f) + (d.toInt64 * pw)).toInt = (own_D K Dl T J : Nat) := by
  have e1 := own_lmul (A := 1023) (B := 32768) ((c_i2l k).trans hk) hp hK (own_pJ hJ) (by decide)
  have e2 := own_lmul (A := 1023) (B := 32768) ((c_i2l d).trans hd) hp hD (own_pJ hJ) (by decide)
  have b := own_b1 hD hJ
  have b' := own_b1 hK hJ
  exact own_ladd (own_ladd e1 hf (by omega)) e2 (by omega)
theorem own_shJ {x : Int32} {n : Nat} (h : x.toInt = n) (hn : n ≤ 15) : ((1 : Int64) <<< (x &&& 0x3f).toInt64).toInt = (2 ^ n : Nat) := by
  have e : x = Int32.ofNat n := Int32.toInt_inj.mp (by rw [h]; exact (Int32.toInt_ofNat_small (by omega)).symm)
  subst e
  have c : n = 0 ∨ n = 1 ∨ n = 2 ∨ n = 3 ∨ n = 4 ∨ n = 5 ∨ n = 6 ∨ n = 7 ∨ n = 8 ∨ n = 9 ∨ n = 10 ∨ n = 11 ∨ n = 12 ∨ n = 13 ∨ n = 14 ∨ n = 15 := by omega
  rcases c with rfl | rfl | rfl | rfl | rfl | rfl | rfl | rfl | rfl | rfl | rfl | rfl | rfl | rfl | rfl | rfl <;> decide +kernel
theorem own_shI {x : Int32} {n : Nat} (h : x.toInt = n) (hn : n ≤ 3) : ((1 : Int32) <<< (x &&& 31)).toInt = (2 ^ n : Nat) := by
  have e : x = Int32.ofNat n := Int32.toInt_inj.mp (by rw [h]; exact (Int32.toInt_ofNat_small (by omega)).symm)
  subst e
  have c : n = 0 ∨ n = 1 ∨ n = 2 ∨ n = 3 := by omega
  rcases c with rfl | rfl | rfl | rfl <;> decide +kernel
theorem own_lr {pw : Int64} {x : Int32} {J S : Nat} (hp : pw.toInt = (2 ^ J : Nat)) (hx : x.toInt = S) (hJ : J ≤ 15) (hS : S ≤ 3) : ((1 : Int64) + ((pw - (1 : Int64)) * ((1 : Int64) <<< (x &&& 0x3f).toInt64))).toInt = (1 + (2 ^ J - 1) * 2 ^ S : Nat) := by
  have q := own_pJ hJ
  have p := Nat.two_pow_pos J
  have e1 : (pw - (1 : Int64)).toInt = (2 ^ J - 1 : Nat) := own_lsub (b := 1) hp rfl p (by omega)
  have e2 := own_lmul (A := 32768) (B := 8) e1 (own_shJ hx (by omega)) (by omega) (own_pS hS) (by decide)
  have b : (2 ^ J - 1) * 2 ^ S ≤ 32768 * 8 := Nat.mul_le_mul (by omega) (own_pS hS)
  exact own_ladd (a := 1) rfl e2 (by omega)
theorem own_mix {J S : Nat} (hS : 0 < 2 ^ S) : (2 ^ S - 1) + 1 * (1 + (2 ^ J - 1) * 2 ^ S) = 2 ^ J * 2 ^ S := by
  have p := Nat.two_pow_pos J
  rw [Nat.one_mul, Nat.sub_mul, Nat.one_mul]
  have : 2 ^ S ≤ 2 ^ J * 2 ^ S := Nat.le_mul_of_pos_left _ p
  omega
theorem own_l2i (x : Int32) : x.toInt64.toInt32 = x := by simp
theorem own_nat {x : Int32} (h : 0 ≤ x.toInt) : ∃ n : Nat, x.toInt = n := ⟨x.toInt.toNat, by omega⟩
theorem own_d_jdk_29_method_65_code_0 : decode jdk_29_method_65_code 0 = .ok (.iload_n 0, 1) := by decide +kernel
theorem own_d_jdk_29_method_65_code_1 : decode jdk_29_method_65_code 1 = .ok (.iload_n 1, 1) := by decide +kernel
theorem own_d_jdk_29_method_65_code_2 : decode jdk_29_method_65_code 2 = .ok (.if_icmp .lt 7, 3) := by decide +kernel
theorem own_d_jdk_29_method_65_code_9 : decode jdk_29_method_65_code 9 = .ok (.iload_n 1, 1) := by decide +kernel
theorem own_d_jdk_29_method_65_code_10 : decode jdk_29_method_65_code 10 = .ok (.ireturn, 1) := by decide +kernel
theorem own_d_jdk_29_method_65_code_5 : decode jdk_29_method_65_code 5 = .ok (.iload_n 0, 1) := by decide +kernel
theorem own_d_jdk_29_method_65_code_6 : decode jdk_29_method_65_code 6 = .ok (.goto 4, 3) := by decide +kernel
theorem own_ef_max (m : MethodId) (x0 : Int32) (x1 : Int32) : entryFrame m #[(.int x0), (.int x1)] 2 = mkF m 0 #[.val (.int x0), .val (.int x1)] [] := by first | (simp [entryFrame, mkF, argsToLocals, Value.category]; done) | rfl
def own_Q_max (Z : State) (px : Int32) (py : Int32)  (h0 : Heap) (n0 : Nat) (v : Option Value) (h : Heap) (L : List Loc) : Prop := v = some (.int (own_max px py)) ∧ Fr n0 L ∧ h = h0
set_option maxRecDepth 65536 in
set_option maxHeartbeats 40000000 in
theorem own_rm_max (l : Launch) (Z : State) (a0 : Array Value) (hw : ∀ d ∈ tables_1, d.before a0 Z = true) (ws : List Jvm.Cond) (px : Int32) (py : Int32)  (h0 : Heap) (n0 : Nat) (Z0 : n0 ≤ h0.size) :
    MetFree l (⟨"java/lang/Math", "max", "(II)I"⟩ : MethodName) (head1 (Jvm.Cond.code (⟨"java/lang/Math", "max", "(II)I"⟩ : MethodName) jdk_29_method_65_code 2 (some .int) :: ws) ({ frames := 0, cells := 0, slots := 0, locals := 0 } : Room)) (fun a U => a = #[(.int px), (.int py)] ∧ Z.Warmed39 U.vm ∧ U.heap = h0) (fun _ _ _ _ _ => True) (fun _ U o U' => ∃ v L, o = .returned v ∧ own_Q_max Z px py h0 n0 v U'.heap L ∧ FrameEnd U o U' L ({ frames := 0, cells := 0, slots := 0, locals := 0 } : Room).cells ({ frames := 0, cells := 0, slots := 0, locals := 0 } : Room).slots) := by
  refine MetFree.of_bodySF (Jvm.Free.JP.mathPlain rfl (by decide +kernel)) hisR ?_
  intro p e s m args below meth c s₁ Bd hml0 hP hKq_
  obtain ⟨rfl, hZ, hh⟩ := hP
  have hx := Bd.exec
  have hby := Bd.bytes
  have hml : c.maxLocals = 2 := hml0
  have hown : s.vm.findClass "java/lang/Math" = some m.cls := findClass_of_methodNamed Bd.named
  have hnm := (name_of_methodNamed Bd.named Bd.method).1
  have X0 : Stand p l e ({ frames := 0, cells := 0, slots := 0, locals := 0 } : Room) s m #[(.int px), (.int py)] below meth c s₁ [] 0 0 := Stand.of_body Bd
  have e0 : s₁.heap = h0 := by rw [← hh, Bd.state]; rfl
  have N0 := Fr.nil n0
  have pre0 : ∀ t, Steps p.tables e below (s₁.setTop (mkF m 0 #[.val (.int px), .val (.int py)] [])) t → Steps p.tables e below (s₁.setTop (entryFrame m #[(.int px), (.int py)] 2)) t := fun t k => castTop (own_ef_max m px py) k
  refine own_go pre0 ?_
  refine own_abs ?_
  intro Pf hPf
  have k1 : ∀ t, Steps p.tables e below (s₁.setTop (mkF m 2 #[.val (.int px), .val (.int py)] [(.int py), (.int px)])) t → Steps p.tables e below (s₁.setTop (mkF m 0 #[.val (.int px), .val (.int py)] [])) t := fun t k => by
    refine XS.iloadN X0.here hx rfl (hb hby own_d_jdk_29_method_65_code_0) rfl ?_
    show Steps p.tables e below (s₁.setTop (mkF m 1 #[.val (.int px), .val (.int py)] [(.int px)])) _
    refine XS.iloadN X0.here hx rfl (hb hby own_d_jdk_29_method_65_code_1) rfl ?_
    show Steps p.tables e below (s₁.setTop (mkF m 2 #[.val (.int px), .val (.int py)] [(.int py), (.int px)])) _
    exact k
  refine own_go k1 ?_
  clear k1
  by_cases hc2_2 : px < py
  · skip
    have k3 : ∀ t, Steps p.tables e below (s₁.setTop (mkF m 10 #[.val (.int px), .val (.int py)] [(.int py)])) t → Steps p.tables e below (s₁.setTop (mkF m 2 #[.val (.int px), .val (.int py)] [(.int py), (.int px)])) t := fun t k => by
      refine XS.icmpYes X0.here hx rfl (pc0 := 2) (pc' := 9) rfl (hb hby own_d_jdk_29_method_65_code_2) rfl (tlt hc2_2).1 (by decide) (by decide) ?_
      show Steps p.tables e below (s₁.setTop (mkF m 9 #[.val (.int px), .val (.int py)] [])) _
      refine XS.iloadN X0.here hx rfl (hb hby own_d_jdk_29_method_65_code_9) rfl ?_
      show Steps p.tables e below (s₁.setTop (mkF m 10 #[.val (.int px), .val (.int py)] [(.int py)])) _
      exact k
    refine own_go k3 ?_
    clear k3
    obtain ⟨fs, hr, hrun, hended, hW, hsame⟩ := X0.leave (v := some (.int py)) (fun h => by rw [Bd.returns] at h; cases h)
    refine ⟨_, _, retOut X0 hx Bd.returns rfl (Or.inl ⟨rfl, Or.inl rfl, _, rfl⟩) (hb hby own_d_jdk_29_method_65_code_10) hr, hPf _ _ ⟨hrun, hended, _, _, rfl, ?_, ⟨_, rfl⟩, hW, hsame.mono (by decide) (by decide)⟩⟩
    show own_Q_max Z px py h0 n0 _ s₁.heap _
    rw [e0]
    exact ⟨by unfold own_max; rw [if_pos hc2_2], N0, rfl⟩
  · skip
    have k4 : ∀ t, Steps p.tables e below (s₁.setTop (mkF m 10 #[.val (.int px), .val (.int py)] [(.int px)])) t → Steps p.tables e below (s₁.setTop (mkF m 2 #[.val (.int px), .val (.int py)] [(.int py), (.int px)])) t := fun t k => by
      refine XS.icmpNo X0.here hx rfl (hb hby own_d_jdk_29_method_65_code_2) rfl (flt hc2_2).1 ?_
      show Steps p.tables e below (s₁.setTop (mkF m 5 #[.val (.int px), .val (.int py)] [])) _
      refine XS.iloadN X0.here hx rfl (hb hby own_d_jdk_29_method_65_code_5) rfl ?_
      show Steps p.tables e below (s₁.setTop (mkF m 6 #[.val (.int px), .val (.int py)] [(.int px)])) _
      refine XS.goto X0.here hx rfl (pc0 := 6) (pc' := 10) rfl (hb hby own_d_jdk_29_method_65_code_6) (by decide) (by decide) ?_
      show Steps p.tables e below (s₁.setTop (mkF m 10 #[.val (.int px), .val (.int py)] [(.int px)])) _
      exact k
    refine own_go k4 ?_
    clear k4
    obtain ⟨fs, hr, hrun, hended, hW, hsame⟩ := X0.leave (v := some (.int px)) (fun h => by rw [Bd.returns] at h; cases h)
    refine ⟨_, _, retOut X0 hx Bd.returns rfl (Or.inl ⟨rfl, Or.inl rfl, _, rfl⟩) (hb hby own_d_jdk_29_method_65_code_10) hr, hPf _ _ ⟨hrun, hended, _, _, rfl, ?_, ⟨_, rfl⟩, hW, hsame.mono (by decide) (by decide)⟩⟩
    show own_Q_max Z px py h0 n0 _ s₁.heap _
    rw [e0]
    exact ⟨by unfold own_max; rw [if_neg hc2_2], N0, rfl⟩
theorem own_d_prog_64_method_2_code_0 : decode prog_64_method_2_code 0 = .ok (.dload_n 1, 1) := by decide +kernel
theorem own_d_prog_64_method_2_code_1 : decode prog_64_method_2_code 1 = .ok (.dconst 0, 1) := by decide +kernel
theorem own_d_prog_64_method_2_code_2 : decode prog_64_method_2_code 2 = .ok (.dcmp .l, 1) := by decide +kernel
theorem own_d_prog_64_method_2_code_3 : decode prog_64_method_2_code 3 = .ok (.ifCond .lt 11, 3) := by decide +kernel
theorem own_d_prog_64_method_2_code_6 : decode prog_64_method_2_code 6 = .ok (.dload_n 1, 1) := by decide +kernel
theorem own_d_prog_64_method_2_code_7 : decode prog_64_method_2_code 7 = .ok (.ldc2_w 9, 3) := by decide +kernel
theorem own_d_prog_64_method_2_code_10 : decode prog_64_method_2_code 10 = .ok (.dcmp .g, 1) := by decide +kernel
theorem own_d_prog_64_method_2_code_11 : decode prog_64_method_2_code 11 = .ok (.ifCond .lt 18, 3) := by decide +kernel
theorem own_d_prog_64_method_2_code_29 : decode prog_64_method_2_code 29 = .ok (.dload_n 1, 1) := by decide +kernel
theorem own_d_prog_64_method_2_code_30 : decode prog_64_method_2_code 30 = .ok (.dreturn, 1) := by decide +kernel
theorem own_ef_nonneg (m : MethodId) (x0 : Addr) (x1 : UInt64) : entryFrame m #[(.ref x0), (.double x1)] 3 = mkF m 0 #[.val (.ref x0), .val (.double x1), .second] [] := by first | (simp [entryFrame, mkF, argsToLocals, Value.category]; done) | rfl
def own_Q_nonneg (Z : State) (pa : Addr) (dx : UInt64)  (h0 : Heap) (n0 : Nat) (v : Option Value) (h : Heap) (L : List Loc) : Prop := v = some (.double dx) ∧ Fr n0 L ∧ h = h0
theorem own_pn_com_example_likelihood_likelihood_ranking_ParameterRanges : plainName "com/example/likelihood/likelihood/ranking/ParameterRanges" = true := by first | (simp [plainName, overriddenIn]; done) | decide +kernel
set_option maxRecDepth 65536 in
set_option maxHeartbeats 40000000 in
theorem own_rm_nonneg (l : Launch) (Z : State) (a0 : Array Value) (hw : ∀ d ∈ tables_1, d.before a0 Z = true) (ws : List Jvm.Cond) (pa : Addr) (dx : UInt64)  (h0 : Heap) (n0 : Nat) (Z0 : n0 ≤ h0.size) (hd1 : ¬ (cmpValue (FP.dcmp dx FP.dconst0) .l) < (0 : Int32)) (hd2 : (cmpValue (FP.dcmp dx (9218868437227405312 : UInt64)) .g) < (0 : Int32)) :
    MetFree l (⟨"com/example/likelihood/likelihood/ranking/ParameterRanges", "requireNonNegative", "(Ljava/lang/String;D)D"⟩ : MethodName) (head1 (Jvm.Cond.code (⟨"com/example/likelihood/likelihood/ranking/ParameterRanges", "requireNonNegative", "(Ljava/lang/String;D)D"⟩ : MethodName) prog_64_method_2_code 3 (some .double) :: ws) ({ frames := 0, cells := 0, slots := 0, locals := 0 } : Room)) (fun a U => a = #[(.ref pa), (.double dx)] ∧ Z.Warmed39 U.vm ∧ U.heap = h0) (fun _ _ _ _ _ => True) (fun _ U o U' => ∃ v L, o = .returned v ∧ own_Q_nonneg Z pa dx h0 n0 v U'.heap L ∧ FrameEnd U o U' L ({ frames := 0, cells := 0, slots := 0, locals := 0 } : Room).cells ({ frames := 0, cells := 0, slots := 0, locals := 0 } : Room).slots) := by
  refine MetFree.of_bodySF (plainFor_of_name own_pn_com_example_likelihood_likelihood_ranking_ParameterRanges) hisR ?_
  intro p e s m args below meth c s₁ Bd hml0 hP hKq_
  obtain ⟨rfl, hZ, hh⟩ := hP
  have hx := Bd.exec
  have hby := Bd.bytes
  have hml : c.maxLocals = 3 := hml0
  have hown : s.vm.findClass "com/example/likelihood/likelihood/ranking/ParameterRanges" = some m.cls := findClass_of_methodNamed Bd.named
  have hnm := (name_of_methodNamed Bd.named Bd.method).1
  have X0 : Stand p l e ({ frames := 0, cells := 0, slots := 0, locals := 0 } : Room) s m #[(.ref pa), (.double dx)] below meth c s₁ [] 0 0 := Stand.of_body Bd
  have e0 : s₁.heap = h0 := by rw [← hh, Bd.state]; rfl
  have N0 := Fr.nil n0
  have pre0 : ∀ t, Steps p.tables e below (s₁.setTop (mkF m 0 #[.val (.ref pa), .val (.double dx), .second] [])) t → Steps p.tables e below (s₁.setTop (entryFrame m #[(.ref pa), (.double dx)] 3)) t := fun t k => castTop (own_ef_nonneg m pa dx) k
  refine own_go pre0 ?_
  refine own_abs ?_
  intro Pf hPf
  have k1 : ∀ t, Steps p.tables e below (s₁.setTop (mkF m 30 #[.val (.ref pa), .val (.double dx), .second] [(.double dx)])) t → Steps p.tables e below (s₁.setTop (mkF m 0 #[.val (.ref pa), .val (.double dx), .second] [])) t := fun t k => by
    refine XS.dloadN X0.here hx rfl (hb hby own_d_prog_64_method_2_code_0) rfl ?_
    show Steps p.tables e below (s₁.setTop (mkF m 1 #[.val (.ref pa), .val (.double dx), .second] [(.double dx)])) _
    refine XS.dconst0 X0.here hx rfl (hb hby own_d_prog_64_method_2_code_1) rfl ?_
    show Steps p.tables e below (s₁.setTop (mkF m 2 #[.val (.ref pa), .val (.double dx), .second] [(.double FP.dconst0), (.double dx)])) _
    refine XS.dcmpS X0.here hx rfl (hb hby own_d_prog_64_method_2_code_2) rfl rfl ?_
    show Steps p.tables e below (s₁.setTop (mkF m 3 #[.val (.ref pa), .val (.double dx), .second] [(.int (cmpValue (FP.dcmp dx FP.dconst0) .l))])) _
    refine XS.ifNo X0.here hx rfl (hb hby own_d_prog_64_method_2_code_3) rfl ((if0 _ _).trans (flt hd1).1) ?_
    show Steps p.tables e below (s₁.setTop (mkF m 6 #[.val (.ref pa), .val (.double dx), .second] [])) _
    refine XS.dloadN X0.here hx rfl (hb hby own_d_prog_64_method_2_code_6) rfl ?_
    show Steps p.tables e below (s₁.setTop (mkF m 7 #[.val (.ref pa), .val (.double dx), .second] [(.double dx)])) _
    refine X0.ldc2DoubleC hx hown (mvT hZ (hw _ (List.mem_of_getElem? (i := 36) rfl))) (g := (mkF m 7 #[.val (.ref pa), .val (.double dx), .second] [(.double dx)])) rfl (hb hby own_d_prog_64_method_2_code_7) _ ?_
    show Steps p.tables e below (s₁.setTop (mkF m 10 #[.val (.ref pa), .val (.double dx), .second] [(.double (9218868437227405312 : UInt64)), (.double dx)])) _
    refine XS.dcmpS X0.here hx rfl (hb hby own_d_prog_64_method_2_code_10) rfl rfl ?_
    show Steps p.tables e below (s₁.setTop (mkF m 11 #[.val (.ref pa), .val (.double dx), .second] [(.int (cmpValue (FP.dcmp dx (9218868437227405312 : UInt64)) .g))])) _
    refine XS.ifYes X0.here hx rfl (pc0 := 11) (pc' := 29) rfl (hb hby own_d_prog_64_method_2_code_11) rfl ((if0 _ _).trans (tlt hd2).1) (by decide) (by decide) ?_
    show Steps p.tables e below (s₁.setTop (mkF m 29 #[.val (.ref pa), .val (.double dx), .second] [])) _
    refine XS.dloadN X0.here hx rfl (hb hby own_d_prog_64_method_2_code_29) rfl ?_
    show Steps p.tables e below (s₁.setTop (mkF m 30 #[.val (.ref pa), .val (.double dx), .second] [(.double dx)])) _
    exact k
  refine own_go k1 ?_
  clear k1
  obtain ⟨fs, hr, hrun, hended, hW, hsame⟩ := X0.leave (v := some (.double dx)) (fun h => by rw [Bd.returns] at h; cases h)
  refine ⟨_, _, retOut X0 hx Bd.returns rfl (Or.inr (Or.inr (Or.inl ⟨rfl, rfl, _, rfl⟩))) (hb hby own_d_prog_64_method_2_code_30) hr, hPf _ _ ⟨hrun, hended, _, _, rfl, ?_, ⟨_, rfl⟩, hW, hsame.mono (by decide) (by decide)⟩⟩
  show own_Q_nonneg Z pa dx h0 n0 _ s₁.heap _
  rw [e0]
  exact ⟨rfl, N0, rfl⟩
theorem own_d_prog_64_method_3_code_0 : decode prog_64_method_3_code 0 = .ok (.dload_n 1, 1) := by decide +kernel
theorem own_d_prog_64_method_3_code_1 : decode prog_64_method_3_code 1 = .ok (.dconst 0, 1) := by decide +kernel
theorem own_d_prog_64_method_3_code_2 : decode prog_64_method_3_code 2 = .ok (.dcmp .l, 1) := by decide +kernel
theorem own_d_prog_64_method_3_code_3 : decode prog_64_method_3_code 3 = .ok (.ifCond .lt 9, 3) := by decide +kernel
theorem own_d_prog_64_method_3_code_6 : decode prog_64_method_3_code 6 = .ok (.dload_n 1, 1) := by decide +kernel
theorem own_d_prog_64_method_3_code_7 : decode prog_64_method_3_code 7 = .ok (.dconst 1, 1) := by decide +kernel
theorem own_d_prog_64_method_3_code_8 : decode prog_64_method_3_code 8 = .ok (.dcmp .g, 1) := by decide +kernel
theorem own_d_prog_64_method_3_code_9 : decode prog_64_method_3_code 9 = .ok (.ifCond .le 18, 3) := by decide +kernel
theorem own_d_prog_64_method_3_code_27 : decode prog_64_method_3_code 27 = .ok (.dload_n 1, 1) := by decide +kernel
theorem own_d_prog_64_method_3_code_28 : decode prog_64_method_3_code 28 = .ok (.dreturn, 1) := by decide +kernel
theorem own_ef_unit (m : MethodId) (x0 : Addr) (x1 : UInt64) : entryFrame m #[(.ref x0), (.double x1)] 3 = mkF m 0 #[.val (.ref x0), .val (.double x1), .second] [] := by first | (simp [entryFrame, mkF, argsToLocals, Value.category]; done) | rfl
def own_Q_unit (Z : State) (pa : Addr) (dx : UInt64)  (h0 : Heap) (n0 : Nat) (v : Option Value) (h : Heap) (L : List Loc) : Prop := v = some (.double dx) ∧ Fr n0 L ∧ h = h0
set_option maxRecDepth 65536 in
set_option maxHeartbeats 40000000 in
theorem own_rm_unit (l : Launch) (Z : State) (a0 : Array Value) (hw : ∀ d ∈ tables_1, d.before a0 Z = true) (ws : List Jvm.Cond) (pa : Addr) (dx : UInt64)  (h0 : Heap) (n0 : Nat) (Z0 : n0 ≤ h0.size) (hd1 : ¬ (cmpValue (FP.dcmp dx FP.dconst0) .l) < (0 : Int32)) (hd2 : ¬ (0 : Int32) < (cmpValue (FP.dcmp dx FP.dconst1) .g)) :
    MetFree l (⟨"com/example/likelihood/likelihood/ranking/ParameterRanges", "requireUnitInterval", "(Ljava/lang/String;D)D"⟩ : MethodName) (head1 (Jvm.Cond.code (⟨"com/example/likelihood/likelihood/ranking/ParameterRanges", "requireUnitInterval", "(Ljava/lang/String;D)D"⟩ : MethodName) prog_64_method_3_code 3 (some .double) :: ws) ({ frames := 0, cells := 0, slots := 0, locals := 0 } : Room)) (fun a U => a = #[(.ref pa), (.double dx)] ∧ Z.Warmed39 U.vm ∧ U.heap = h0) (fun _ _ _ _ _ => True) (fun _ U o U' => ∃ v L, o = .returned v ∧ own_Q_unit Z pa dx h0 n0 v U'.heap L ∧ FrameEnd U o U' L ({ frames := 0, cells := 0, slots := 0, locals := 0 } : Room).cells ({ frames := 0, cells := 0, slots := 0, locals := 0 } : Room).slots) := by
  refine MetFree.of_bodySF (plainFor_of_name own_pn_com_example_likelihood_likelihood_ranking_ParameterRanges) hisR ?_
  intro p e s m args below meth c s₁ Bd hml0 hP hKq_
  obtain ⟨rfl, hZ, hh⟩ := hP
  have hx := Bd.exec
  have hby := Bd.bytes
  have hml : c.maxLocals = 3 := hml0
  have hown : s.vm.findClass "com/example/likelihood/likelihood/ranking/ParameterRanges" = some m.cls := findClass_of_methodNamed Bd.named
  have hnm := (name_of_methodNamed Bd.named Bd.method).1
  have X0 : Stand p l e ({ frames := 0, cells := 0, slots := 0, locals := 0 } : Room) s m #[(.ref pa), (.double dx)] below meth c s₁ [] 0 0 := Stand.of_body Bd
  have e0 : s₁.heap = h0 := by rw [← hh, Bd.state]; rfl
  have N0 := Fr.nil n0
  have pre0 : ∀ t, Steps p.tables e below (s₁.setTop (mkF m 0 #[.val (.ref pa), .val (.double dx), .second] [])) t → Steps p.tables e below (s₁.setTop (entryFrame m #[(.ref pa), (.double dx)] 3)) t := fun t k => castTop (own_ef_unit m pa dx) k
  refine own_go pre0 ?_
  refine own_abs ?_
  intro Pf hPf
  have k1 : ∀ t, Steps p.tables e below (s₁.setTop (mkF m 28 #[.val (.ref pa), .val (.double dx), .second] [(.double dx)])) t → Steps p.tables e below (s₁.setTop (mkF m 0 #[.val (.ref pa), .val (.double dx), .second] [])) t := fun t k => by
    refine XS.dloadN X0.here hx rfl (hb hby own_d_prog_64_method_3_code_0) rfl ?_
    show Steps p.tables e below (s₁.setTop (mkF m 1 #[.val (.ref pa), .val (.double dx), .second] [(.double dx)])) _
    refine XS.dconst0 X0.here hx rfl (hb hby own_d_prog_64_method_3_code_1) rfl ?_
    show Steps p.tables e below (s₁.setTop (mkF m 2 #[.val (.ref pa), .val (.double dx), .second] [(.double FP.dconst0), (.double dx)])) _
    refine XS.dcmpS X0.here hx rfl (hb hby own_d_prog_64_method_3_code_2) rfl rfl ?_
    show Steps p.tables e below (s₁.setTop (mkF m 3 #[.val (.ref pa), .val (.double dx), .second] [(.int (cmpValue (FP.dcmp dx FP.dconst0) .l))])) _
    refine XS.ifNo X0.here hx rfl (hb hby own_d_prog_64_method_3_code_3) rfl ((if0 _ _).trans (flt hd1).1) ?_
    show Steps p.tables e below (s₁.setTop (mkF m 6 #[.val (.ref pa), .val (.double dx), .second] [])) _
    refine XS.dloadN X0.here hx rfl (hb hby own_d_prog_64_method_3_code_6) rfl ?_
    show Steps p.tables e below (s₁.setTop (mkF m 7 #[.val (.ref pa), .val (.double dx), .second] [(.double dx)])) _
    refine XS.dconst1 X0.here hx rfl (hb hby own_d_prog_64_method_3_code_7) rfl ?_
    show Steps p.tables e below (s₁.setTop (mkF m 8 #[.val (.ref pa), .val (.double dx), .second] [(.double FP.dconst1), (.double dx)])) _
    refine XS.dcmpS X0.here hx rfl (hb hby own_d_prog_64_method_3_code_8) rfl rfl ?_
    show Steps p.tables e below (s₁.setTop (mkF m 9 #[.val (.ref pa), .val (.double dx), .second] [(.int (cmpValue (FP.dcmp dx FP.dconst1) .g))])) _
    refine XS.ifYes X0.here hx rfl (pc0 := 9) (pc' := 27) rfl (hb hby own_d_prog_64_method_3_code_9) rfl ((if0 _ _).trans (flt hd2).2.2.2) (by decide) (by decide) ?_
    show Steps p.tables e below (s₁.setTop (mkF m 27 #[.val (.ref pa), .val (.double dx), .second] [])) _
    refine XS.dloadN X0.here hx rfl (hb hby own_d_prog_64_method_3_code_27) rfl ?_
    show Steps p.tables e below (s₁.setTop (mkF m 28 #[.val (.ref pa), .val (.double dx), .second] [(.double dx)])) _
    exact k
  refine own_go k1 ?_
  clear k1
  obtain ⟨fs, hr, hrun, hended, hW, hsame⟩ := X0.leave (v := some (.double dx)) (fun h => by rw [Bd.returns] at h; cases h)
  refine ⟨_, _, retOut X0 hx Bd.returns rfl (Or.inr (Or.inr (Or.inl ⟨rfl, rfl, _, rfl⟩))) (hb hby own_d_prog_64_method_3_code_28) hr, hPf _ _ ⟨hrun, hended, _, _, rfl, ?_, ⟨_, rfl⟩, hW, hsame.mono (by decide) (by decide)⟩⟩
  show own_Q_unit Z pa dx h0 n0 _ s₁.heap _
  rw [e0]
  exact ⟨rfl, N0, rfl⟩
theorem own_d_prog_50_method_5_code_0 : decode prog_50_method_5_code 0 = .ok (.aload_n 0, 1) := by decide +kernel
theorem own_d_prog_50_method_5_code_1 : decode prog_50_method_5_code 1 = .ok (.dload_n 1, 1) := by decide +kernel
theorem own_d_prog_50_method_5_code_2 : decode prog_50_method_5_code 2 = .ok (.invokestatic 92, 3) := by decide +kernel
theorem own_pd_28Ljava2flang2fString3bD29D : parseMethodDescriptor "(Ljava/lang/String;D)D" = some ⟨[(.object "java/lang/String"), .double], some .double⟩ := by decide +kernel
theorem own_d_prog_50_method_5_code_5 : decode prog_50_method_5_code 5 = .ok (.dreturn, 1) := by decide +kernel
theorem own_ef_reqP (m : MethodId) (x0 : Addr) (x1 : UInt64) : entryFrame m #[(.ref x0), (.double x1)] 3 = mkF m 0 #[.val (.ref x0), .val (.double x1), .second] [] := by first | (simp [entryFrame, mkF, argsToLocals, Value.category]; done) | rfl
def own_Q_reqP (Z : State) (pa : Addr) (dx : UInt64)  (h0 : Heap) (n0 : Nat) (v : Option Value) (h : Heap) (L : List Loc) : Prop := v = some (.double dx) ∧ Fr n0 L ∧ h = h0
theorem own_pn_com_example_likelihood_likelihood_ranking_BestMatch : plainName "com/example/likelihood/likelihood/ranking/BestMatch" = true := by first | (simp [plainName, overriddenIn]; done) | decide +kernel
set_option maxRecDepth 65536 in
set_option maxHeartbeats 40000000 in
theorem own_rm_reqP (l : Launch) (Z : State) (a0 : Array Value) (hw : ∀ d ∈ tables_1, d.before a0 Z = true) (ws : List Jvm.Cond) (pa : Addr) (dx : UInt64)  (h0 : Heap) (n0 : Nat) (Z0 : n0 ≤ h0.size) (hd1 : ¬ (cmpValue (FP.dcmp dx FP.dconst0) .l) < (0 : Int32)) (hd2 : (cmpValue (FP.dcmp dx (9218868437227405312 : UInt64)) .g) < (0 : Int32)) :
    MetFree l (⟨"com/example/likelihood/likelihood/ranking/BestMatch", "requireParameter", "(Ljava/lang/String;D)D"⟩ : MethodName) (head1 (Jvm.Cond.code (⟨"com/example/likelihood/likelihood/ranking/BestMatch", "requireParameter", "(Ljava/lang/String;D)D"⟩ : MethodName) prog_50_method_5_code 3 (some .double) :: ws) ({ frames := 1, cells := 0, slots := 0, locals := 14 } : Room)) (fun a U => a = #[(.ref pa), (.double dx)] ∧ Z.Warmed39 U.vm ∧ U.heap = h0) (fun _ _ _ _ _ => True) (fun _ U o U' => ∃ v L, o = .returned v ∧ own_Q_reqP Z pa dx h0 n0 v U'.heap L ∧ FrameEnd U o U' L ({ frames := 1, cells := 0, slots := 0, locals := 14 } : Room).cells ({ frames := 1, cells := 0, slots := 0, locals := 14 } : Room).slots) := by
  refine MetFree.of_bodySF (plainFor_of_name own_pn_com_example_likelihood_likelihood_ranking_BestMatch) hisR ?_
  intro p e s m args below meth c s₁ Bd hml0 hP hKq_
  obtain ⟨rfl, hZ, hh⟩ := hP
  have hx := Bd.exec
  have hby := Bd.bytes
  have hml : c.maxLocals = 3 := hml0
  have hown : s.vm.findClass "com/example/likelihood/likelihood/ranking/BestMatch" = some m.cls := findClass_of_methodNamed Bd.named
  have hnm := (name_of_methodNamed Bd.named Bd.method).1
  have X0 : Stand p l e ({ frames := 1, cells := 0, slots := 0, locals := 14 } : Room) s m #[(.ref pa), (.double dx)] below meth c s₁ [] 0 0 := Stand.of_body Bd
  have e0 : s₁.heap = h0 := by rw [← hh, Bd.state]; rfl
  have N0 := Fr.nil n0
  have pre0 : ∀ t, Steps p.tables e below (s₁.setTop (mkF m 0 #[.val (.ref pa), .val (.double dx), .second] [])) t → Steps p.tables e below (s₁.setTop (entryFrame m #[(.ref pa), (.double dx)] 3)) t := fun t k => castTop (own_ef_reqP m pa dx) k
  refine own_go pre0 ?_
  refine own_abs ?_
  intro Pf hPf
  have k2 : ∀ t, Steps p.tables e below (s₁.setTop (mkF m 2 #[.val (.ref pa), .val (.double dx), .second] [(.double dx), (.ref pa)])) t → Steps p.tables e below (s₁.setTop (mkF m 0 #[.val (.ref pa), .val (.double dx), .second] [])) t := fun t k => by
    refine XS.aloadN X0.here hx rfl (hb hby own_d_prog_50_method_5_code_0) rfl rfl ?_
    show Steps p.tables e below (s₁.setTop (mkF m 1 #[.val (.ref pa), .val (.double dx), .second] [(.ref pa)])) _
    refine XS.dloadN X0.here hx rfl (hb hby own_d_prog_50_method_5_code_1) rfl ?_
    show Steps p.tables e below (s₁.setTop (mkF m 2 #[.val (.ref pa), .val (.double dx), .second] [(.double dx), (.ref pa)])) _
    exact k
  refine own_go k2 ?_
  clear k2
  obtain ⟨_, _, ⟨T1, L1, k1, n1⟩, -, X1, ⟨Lc1, hQ1, l1, y1, z1⟩, st1⟩ := Jvm.LawKit.callS X0 hx (y := (⟨"com/example/likelihood/likelihood/ranking/ParameterRanges", "requireNonNegative", "(Ljava/lang/String;D)D"⟩ : MethodName)) hown (mvT hZ (hw _ (List.mem_of_getElem? (i := 32) rfl))) (mvT hZ (hw _ (List.mem_of_getElem? (i := 33) rfl))) (mvT hZ (hw _ (List.mem_of_getElem? (i := 34) rfl))) (mvT hZ (hw _ (List.mem_of_getElem? (i := 35) rfl))) (by decide) (backOf (W := 0) (own_rm_nonneg l Z a0 hw [] pa dx h0 n0 Z0 hd1 hd2) hZ (hw _ (List.mem_of_getElem? (i := 35) rfl)) (hw _ (List.mem_of_getElem? (i := 34) rfl)) (by decide) (by decide)) (g := (mkF m 2 #[.val (.ref pa), .val (.double dx), .second] [(.double dx), (.ref pa)])) rfl (by rw [hml]; rfl) (argsL := [(.ref pa), (.double dx)]) (rest := []) (lenOf own_pd_28Ljava2flang2fString3bD29D rfl) rfl (by show 2 * 0 + _ ≤ _; exact Nat.le_of_eq rfl) (hb hby own_d_prog_50_method_5_code_2) (fun _ _ => ⟨rfl, e0, (by decide : 0 + 0 ≤ _), (by decide : 0 + 0 ≤ _)⟩)
  dsimp only [Pt.U, Pt.locs, Pt.cells, Pt.slots] at X1 l1 y1 z1 st1 hQ1
  subst l1 y1 z1
  obtain ⟨rfl, N1q, eh1⟩ := hQ1
  have N1 := Fr.app N0 N1q
  refine own_go st1 ?_
  obtain ⟨fs, hr, hrun, hended, hW, hsame⟩ := X1.leave (v := some (.double dx)) (fun h => by rw [Bd.returns] at h; cases h)
  refine ⟨_, _, retOut X1 hx Bd.returns rfl (Or.inr (Or.inr (Or.inl ⟨rfl, rfl, _, rfl⟩))) (hb hby own_d_prog_50_method_5_code_5) hr, hPf _ _ ⟨hrun, hended, _, _, rfl, ?_, ⟨_, rfl⟩, hW, hsame.mono (by decide) (by decide)⟩⟩
  show own_Q_reqP Z pa dx h0 n0 _ T1.heap _
  rw [eh1]
  exact ⟨rfl, N1, rfl⟩
theorem own_d_prog_50_method_6_code_0 : decode prog_50_method_6_code 0 = .ok (.ldc 97, 2) := by decide +kernel
theorem own_d_prog_50_method_6_code_2 : decode prog_50_method_6_code 2 = .ok (.dload_n 0, 1) := by decide +kernel
theorem own_d_prog_50_method_6_code_3 : decode prog_50_method_6_code 3 = .ok (.invokestatic 99, 3) := by decide +kernel
theorem own_d_prog_50_method_6_code_6 : decode prog_50_method_6_code 6 = .ok (.dreturn, 1) := by decide +kernel
theorem own_ef_reqL (m : MethodId) (x0 : UInt64) : entryFrame m #[(.double x0)] 2 = mkF m 0 #[.val (.double x0), .second] [] := by first | (simp [entryFrame, mkF, argsToLocals, Value.category]; done) | rfl
def own_Q_reqL (Z : State) (dx : UInt64)  (h0 : Heap) (n0 : Nat) (v : Option Value) (h : Heap) (L : List Loc) : Prop := v = some (.double dx) ∧ Fr n0 L ∧ Keep h0 h []
set_option maxRecDepth 65536 in
set_option maxHeartbeats 40000000 in
theorem own_rm_reqL (l : Launch) (Z : State) (a0 : Array Value) (hw : ∀ d ∈ tables_1, d.before a0 Z = true) (ws : List Jvm.Cond) (dx : UInt64)  (h0 : Heap) (n0 : Nat) (Z0 : n0 ≤ h0.size) (hd1 : ¬ (cmpValue (FP.dcmp dx FP.dconst0) .l) < (0 : Int32)) (hd2 : ¬ (0 : Int32) < (cmpValue (FP.dcmp dx FP.dconst1) .g)) :
    MetFree l (⟨"com/example/likelihood/likelihood/ranking/BestMatch", "requireLengthWeight", "(D)D"⟩ : MethodName) (head1 (Jvm.Cond.code (⟨"com/example/likelihood/likelihood/ranking/BestMatch", "requireLengthWeight", "(D)D"⟩ : MethodName) prog_50_method_6_code 2 (some .double) :: ws) ({ frames := 1, cells := 2, slots := 8, locals := 14 } : Room)) (fun a U => a = #[(.double dx)] ∧ Z.Warmed39 U.vm ∧ U.heap = h0) (fun _ _ _ _ _ => True) (fun _ U o U' => ∃ v L, o = .returned v ∧ own_Q_reqL Z dx h0 n0 v U'.heap L ∧ ReturnedEndW U o U' L ({ frames := 1, cells := 2, slots := 8, locals := 14 } : Room).cells ({ frames := 1, cells := 2, slots := 8, locals := 14 } : Room).slots) := by
  refine MetFree.of_bodySF (plainFor_of_name own_pn_com_example_likelihood_likelihood_ranking_BestMatch) hisR ?_
  intro p e s m args below meth c s₁ Bd hml0 hP hKq_
  obtain ⟨rfl, hZ, hh⟩ := hP
  have hx := Bd.exec
  have hby := Bd.bytes
  have hml : c.maxLocals = 2 := hml0
  have hown : s.vm.findClass "com/example/likelihood/likelihood/ranking/BestMatch" = some m.cls := findClass_of_methodNamed Bd.named
  have hnm := (name_of_methodNamed Bd.named Bd.method).1
  have X0 : Stand p l e ({ frames := 1, cells := 2, slots := 8, locals := 14 } : Room) (s.setVm s.vm) m #[(.double dx)] below meth c s₁ [] 0 0 := Stand.of_body Bd
  have e0 : s₁.heap = h0 := by rw [← hh, Bd.state]; rfl
  have N0 := Fr.nil n0
  have pre0 : ∀ t, Steps p.tables e below (s₁.setTop (mkF m 0 #[.val (.double dx), .second] [])) t → Steps p.tables e below (s₁.setTop (entryFrame m #[(.double dx)] 2)) t := fun t k => castTop (own_ef_reqL m dx) k
  refine own_go pre0 ?_
  refine own_abs ?_
  intro Pf hPf
  have hZ : Z.Warmed39 (s.setVm s.vm).vm := hZ
  have hown : (s.setVm s.vm).vm.findClass "com/example/likelihood/likelihood/ranking/BestMatch" = some m.cls := hown
  have Sn0 : s.Since s.vm 0 := (State.WarmedH.refl s).since 0
  have hk0 : 0 ≤ h0.size := Nat.zero_le _
  obtain ⟨a1, T1, h1, k1, X1, e1, E1, Sn1, hk1, hZ1, hown1, st1⟩ := ldcS X0 hx hZ hown (hw _ (List.mem_of_getElem? (i := 48) rfl)) (own_sa hw) e0 Sn0 hk0 (g := (mkF m 0 #[.val (.double dx), .second] [])) rfl (hb hby own_d_prog_50_method_6_code_0) (n := 4) (by decide) (by decide) (by decide) (by decide)
  refine own_go st1 ?_
  have Z1 : n0 ≤ h1.size := Nat.le_trans Z0 E1.1
  have K1 : Keep h0 h1 [] := (Keep.refl h0 []).ext E1
  have k3 : ∀ t, Steps p.tables e below (T1.setTop (mkF m 3 #[.val (.double dx), .second] [(.double dx), (.ref a1)])) t → Steps p.tables e below (T1.setTop (mkF m 2 #[.val (.double dx), .second] [(.ref a1)])) t := fun t k => by
    refine XS.dloadN X1.here hx rfl (hb hby own_d_prog_50_method_6_code_2) rfl ?_
    show Steps p.tables e below (T1.setTop (mkF m 3 #[.val (.double dx), .second] [(.double dx), (.ref a1)])) _
    exact k
  refine own_go k3 ?_
  clear k3
  obtain ⟨_, _, ⟨T2, L2, k2, n2⟩, -, X2, ⟨Lc2, hQ2, l2, y2, z2⟩, st2⟩ := Jvm.LawKit.callS X1 hx (y := (⟨"com/example/likelihood/likelihood/ranking/ParameterRanges", "requireUnitInterval", "(Ljava/lang/String;D)D"⟩ : MethodName)) hown1 (mvT hZ1 (hw _ (List.mem_of_getElem? (i := 49) rfl))) (mvT hZ1 (hw _ (List.mem_of_getElem? (i := 50) rfl))) (mvT hZ1 (hw _ (List.mem_of_getElem? (i := 34) rfl))) (mvT hZ1 (hw _ (List.mem_of_getElem? (i := 51) rfl))) (by decide) (backOf (W := 0) (own_rm_unit l Z a0 hw [] a1 dx h1 n0 Z1 hd1 hd2) hZ1 (hw _ (List.mem_of_getElem? (i := 51) rfl)) (hw _ (List.mem_of_getElem? (i := 34) rfl)) (by decide) (by decide)) (g := (mkF m 3 #[.val (.double dx), .second] [(.double dx), (.ref a1)])) rfl (by rw [hml]; rfl) (argsL := [(.ref a1), (.double dx)]) (rest := []) (lenOf own_pd_28Ljava2flang2fString3bD29D rfl) rfl (by show 2 * 0 + _ ≤ _; exact Nat.le_of_eq rfl) (hb hby own_d_prog_50_method_6_code_3) (fun _ _ => ⟨rfl, e1, (by decide : 2 + 0 ≤ _), (by decide : 8 + 0 ≤ _)⟩)
  dsimp only [Pt.U, Pt.locs, Pt.cells, Pt.slots] at X2 l2 y2 z2 st2 hQ2
  subst l2 y2 z2
  obtain ⟨rfl, N2q, eh2⟩ := hQ2
  have N2 := Fr.app N0 N2q
  refine own_go st2 ?_
  obtain ⟨fs, hr, hrun, hended, hRW⟩ := X2.leaveW Sn1 (by rw [eh2]; exact hk1) (v := some (.double dx)) (fun h => by rw [Bd.returns] at h; cases h)
  refine ⟨_, _, retOut X2 hx Bd.returns rfl (Or.inr (Or.inr (Or.inl ⟨rfl, rfl, _, rfl⟩))) (hb hby own_d_prog_50_method_6_code_6) hr, hPf _ _ ⟨hrun, hended, _, _, rfl, ?_, hRW.1, hRW.2.1, hRW.2.2.1, hRW.2.2.2.mono (by decide) (by decide)⟩⟩
  show own_Q_reqL Z dx h0 n0 _ T2.heap _
  rw [eh2]
  exact ⟨rfl, N2, K1⟩
theorem own_d_prog_50_method_1_code_0 : decode prog_50_method_1_code 0 = .ok (.aload_n 0, 1) := by decide +kernel
theorem own_d_prog_50_method_1_code_1 : decode prog_50_method_1_code 1 = .ok (.invokespecial 1, 3) := by decide +kernel
theorem own_d_prog_50_method_1_code_4 : decode prog_50_method_1_code 4 = .ok (.dload_n 1, 1) := by decide +kernel
theorem own_d_prog_50_method_1_code_5 : decode prog_50_method_1_code 5 = .ok (.dconst 0, 1) := by decide +kernel
theorem own_d_prog_50_method_1_code_6 : decode prog_50_method_1_code 6 = .ok (.dcmp .l, 1) := by decide +kernel
theorem own_d_prog_50_method_1_code_7 : decode prog_50_method_1_code 7 = .ok (.ifCond .ge 17, 3) := by decide +kernel
theorem own_d_prog_50_method_1_code_24 : decode prog_50_method_1_code 24 = .ok (.aload_n 0, 1) := by decide +kernel
theorem own_d_prog_50_method_1_code_25 : decode prog_50_method_1_code 25 = .ok (.dload_n 1, 1) := by decide +kernel
theorem own_d_prog_50_method_1_code_26 : decode prog_50_method_1_code 26 = .ok (.putfield 16, 3) := by decide +kernel
theorem own_d_prog_50_method_1_code_29 : decode prog_50_method_1_code 29 = .ok (.aload_n 0, 1) := by decide +kernel
theorem own_d_prog_50_method_1_code_30 : decode prog_50_method_1_code 30 = .ok (.ldc 22, 2) := by decide +kernel
theorem own_d_prog_50_method_1_code_32 : decode prog_50_method_1_code 32 = .ok (.dload_n 3, 1) := by decide +kernel
theorem own_d_prog_50_method_1_code_33 : decode prog_50_method_1_code 33 = .ok (.invokestatic 24, 3) := by decide +kernel
theorem own_d_prog_50_method_1_code_36 : decode prog_50_method_1_code 36 = .ok (.putfield 28, 3) := by decide +kernel
theorem own_d_prog_50_method_1_code_39 : decode prog_50_method_1_code 39 = .ok (.return_, 1) := by decide +kernel
theorem own_ef_bmInit (m : MethodId) (x0 : Addr) (x1 : UInt64) (x2 : UInt64) : entryFrame m #[(.ref x0), (.double x1), (.double x2)] 5 = mkF m 0 #[.val (.ref x0), .val (.double x1), .second, .val (.double x2), .second] [] := by first | (simp [entryFrame, mkF, argsToLocals, Value.category]; done) | rfl
def own_Q_bmInit (Z : State) (pa : Addr) (d3 : UInt64) (d2 : UInt64) (u3 u2 u1 u0 u4 : UInt64) (h0 : Heap) (n0 : Nat) (v : Option Value) (h : Heap) (L : List Loc) : Prop := v = none ∧ Fr n0 L ∧ Keep h0 h [pa] ∧ Exa Z h pa "com/example/likelihood/likelihood/ranking/Bm25L" ∧ Fld Z h pa "com/example/likelihood/likelihood/ranking/BestMatch" "k3" "D" (.double d3) ∧ Fld Z h pa "com/example/likelihood/likelihood/ranking/BestMatch" "k2" "D" (.double d2) ∧ Fld Z h pa "com/example/likelihood/likelihood/ranking/Bm25L" "k1" "D" (.double u1) ∧ Fld Z h pa "com/example/likelihood/likelihood/ranking/Bm25L" "b" "D" (.double u0) ∧ Fld Z h pa "com/example/likelihood/likelihood/ranking/Bm25L" "delta" "D" (.double u4)
set_option maxRecDepth 65536 in
set_option maxHeartbeats 40000000 in
theorem own_rm_bmInit (l : Launch) (Z : State) (a0 : Array Value) (hw : ∀ d ∈ tables_1, d.before a0 Z = true) (ws : List Jvm.Cond) (pa : Addr) (d3 : UInt64) (d2 : UInt64) (u3 u2 u1 u0 u4 : UInt64) (h0 : Heap) (n0 : Nat) (Z0 : n0 ≤ h0.size) (F0 : Fld Z h0 pa "com/example/likelihood/likelihood/ranking/BestMatch" "k3" "D" (.double u3)) (F1 : Fld Z h0 pa "com/example/likelihood/likelihood/ranking/BestMatch" "k2" "D" (.double u2)) (F2 : Fld Z h0 pa "com/example/likelihood/likelihood/ranking/Bm25L" "k1" "D" (.double u1)) (F3 : Fld Z h0 pa "com/example/likelihood/likelihood/ranking/Bm25L" "b" "D" (.double u0)) (F4 : Fld Z h0 pa "com/example/likelihood/likelihood/ranking/Bm25L" "delta" "D" (.double u4)) (E0 : Exa Z h0 pa "com/example/likelihood/likelihood/ranking/Bm25L") (g_pa : n0 ≤ pa) (hd3 : ¬ (cmpValue (FP.dcmp d3 FP.dconst0) .l) < (0 : Int32)) (hd2a : ¬ (cmpValue (FP.dcmp d2 FP.dconst0) .l) < (0 : Int32)) (hd2b : (cmpValue (FP.dcmp d2 (9218868437227405312 : UInt64)) .g) < (0 : Int32)) :
    MetFree l (⟨"com/example/likelihood/likelihood/ranking/BestMatch", "<init>", "(DD)V"⟩ : MethodName) (head1 (Jvm.Cond.code (⟨"com/example/likelihood/likelihood/ranking/BestMatch", "<init>", "(DD)V"⟩ : MethodName) prog_50_method_1_code 5 none :: ws) ({ frames := 2, cells := 2, slots := 12, locals := 29 } : Room)) (fun a U => a = #[(.ref pa), (.double d3), (.double d2)] ∧ Z.Warmed39 U.vm ∧ U.heap = h0) (fun _ _ _ _ _ => True) (fun _ U o U' => ∃ v L, o = .returned v ∧ own_Q_bmInit Z pa d3 d2 u3 u2 u1 u0 u4 h0 n0 v U'.heap L ∧ ReturnedEndW U o U' L ({ frames := 2, cells := 2, slots := 12, locals := 29 } : Room).cells ({ frames := 2, cells := 2, slots := 12, locals := 29 } : Room).slots) := by
  refine MetFree.of_bodySF (plainFor_of_name own_pn_com_example_likelihood_likelihood_ranking_BestMatch) hisR ?_
  intro p e s m args below meth c s₁ Bd hml0 hP hKq_
  obtain ⟨rfl, hZ, hh⟩ := hP
  have hx := Bd.exec
  have hby := Bd.bytes
  have hml : c.maxLocals = 5 := hml0
  have hown : s.vm.findClass "com/example/likelihood/likelihood/ranking/BestMatch" = some m.cls := findClass_of_methodNamed Bd.named
  have hnm := (name_of_methodNamed Bd.named Bd.method).1
  have X0 : Stand p l e ({ frames := 2, cells := 2, slots := 12, locals := 29 } : Room) (s.setVm s.vm) m #[(.ref pa), (.double d3), (.double d2)] below meth c s₁ [] 0 0 := Stand.of_body Bd
  have e0 : s₁.heap = h0 := by rw [← hh, Bd.state]; rfl
  have N0 := Fr.nil n0
  have pre0 : ∀ t, Steps p.tables e below (s₁.setTop (mkF m 0 #[.val (.ref pa), .val (.double d3), .second, .val (.double d2), .second] [])) t → Steps p.tables e below (s₁.setTop (entryFrame m #[(.ref pa), (.double d3), (.double d2)] 5)) t := fun t k => castTop (own_ef_bmInit m pa d3 d2) k
  refine own_go pre0 ?_
  refine own_abs ?_
  intro Pf hPf
  have hZ : Z.Warmed39 (s.setVm s.vm).vm := hZ
  have hown : (s.setVm s.vm).vm.findClass "com/example/likelihood/likelihood/ranking/BestMatch" = some m.cls := hown
  have Sn0 : s.Since s.vm 0 := (State.WarmedH.refl s).since 0
  have hk0 : 0 ≤ h0.size := Nat.zero_le _
  have k1 : ∀ t, Steps p.tables e below (s₁.setTop (mkF m 1 #[.val (.ref pa), .val (.double d3), .second, .val (.double d2), .second] [(.ref pa)])) t → Steps p.tables e below (s₁.setTop (mkF m 0 #[.val (.ref pa), .val (.double d3), .second, .val (.double d2), .second] [])) t := fun t k => by
    refine XS.aloadN X0.here hx rfl (hb hby own_d_prog_50_method_1_code_0) rfl rfl ?_
    show Steps p.tables e below (s₁.setTop (mkF m 1 #[.val (.ref pa), .val (.double d3), .second, .val (.double d2), .second] [(.ref pa)])) _
    exact k
  refine own_go k1 ?_
  clear k1
  obtain ⟨T2, X2, e2, st2⟩ := initO X0 hx hZ hown (hw _ (List.mem_of_getElem? (i := 16) rfl)) (hw _ (List.mem_of_getElem? (i := 17) rfl)) (hw _ (List.mem_of_getElem? (i := 18) rfl)) e0 (g := (mkF m 1 #[.val (.ref pa), .val (.double d3), .second, .val (.double d2), .second] [(.ref pa)])) rfl (by rw [hml]; rfl) rfl (hb hby own_d_prog_50_method_1_code_1) (by decide) (W := 0) (by show 2 * 0 + _ ≤ _; exact Nat.le_of_eq rfl) (by decide)
  refine own_go st2 ?_
  have k3 : ∀ t, Steps p.tables e below (T2.setTop (mkF m 26 #[.val (.ref pa), .val (.double d3), .second, .val (.double d2), .second] [(.double d3), (.ref pa)])) t → Steps p.tables e below (T2.setTop (mkF m 4 #[.val (.ref pa), .val (.double d3), .second, .val (.double d2), .second] [])) t := fun t k => by
    refine XS.dloadN X2.here hx rfl (hb hby own_d_prog_50_method_1_code_4) rfl ?_
    show Steps p.tables e below (T2.setTop (mkF m 5 #[.val (.ref pa), .val (.double d3), .second, .val (.double d2), .second] [(.double d3)])) _
    refine XS.dconst0 X2.here hx rfl (hb hby own_d_prog_50_method_1_code_5) rfl ?_
    show Steps p.tables e below (T2.setTop (mkF m 6 #[.val (.ref pa), .val (.double d3), .second, .val (.double d2), .second] [(.double FP.dconst0), (.double d3)])) _
    refine XS.dcmpS X2.here hx rfl (hb hby own_d_prog_50_method_1_code_6) rfl rfl ?_
    show Steps p.tables e below (T2.setTop (mkF m 7 #[.val (.ref pa), .val (.double d3), .second, .val (.double d2), .second] [(.int (cmpValue (FP.dcmp d3 FP.dconst0) .l))])) _
    refine XS.ifYes X2.here hx rfl (pc0 := 7) (pc' := 24) rfl (hb hby own_d_prog_50_method_1_code_7) rfl ((if0 _ _).trans (flt hd3).2.1) (by decide) (by decide) ?_
    show Steps p.tables e below (T2.setTop (mkF m 24 #[.val (.ref pa), .val (.double d3), .second, .val (.double d2), .second] [])) _
    refine XS.aloadN X2.here hx rfl (hb hby own_d_prog_50_method_1_code_24) rfl rfl ?_
    show Steps p.tables e below (T2.setTop (mkF m 25 #[.val (.ref pa), .val (.double d3), .second, .val (.double d2), .second] [(.ref pa)])) _
    refine XS.dloadN X2.here hx rfl (hb hby own_d_prog_50_method_1_code_25) rfl ?_
    show Steps p.tables e below (T2.setTop (mkF m 26 #[.val (.ref pa), .val (.double d3), .second, .val (.double d2), .second] [(.double d3), (.ref pa)])) _
    exact k
  refine own_go k3 ?_
  clear k3
  obtain ⟨T4, h4, X4, e4, W4, st4⟩ := putF X2 hx hZ hown (host := "") (Or.inl (hw _ (List.mem_of_getElem? (i := 19) rfl))) Via.refl e2 F0 E0 (Or.inr ⟨(hw _ (List.mem_of_getElem? (i := 20) rfl)), rfl, hnm⟩) (hw _ (List.mem_of_getElem? (i := 6) rfl)) (ty := .double) (by decide) rfl rfl (g := (mkF m 26 #[.val (.ref pa), .val (.double d3), .second, .val (.double d2), .second] [(.double d3), (.ref pa)])) rfl rfl (hb hby own_d_prog_50_method_1_code_26)
  refine own_go st4 ?_
  have f4_0 : Fld Z h4 pa "com/example/likelihood/likelihood/ranking/BestMatch" "k3" "D" (.double d3) := F0.same W4
  have f4_1 : Fld Z h4 pa "com/example/likelihood/likelihood/ranking/BestMatch" "k2" "D" (.double u2) := F1.other W4 (Or.inr (slot_ne (Or.inr (hw _ (List.mem_of_getElem? (i := 38) rfl))) (Or.inr (hw _ (List.mem_of_getElem? (i := 20) rfl))) (by decide) (t := .double) (t' := .double) (by decide) (by decide)))
  have f4_2 : Fld Z h4 pa "com/example/likelihood/likelihood/ranking/Bm25L" "k1" "D" (.double u1) := F2.other W4 (Or.inr (slot_ne (Or.inr (hw _ (List.mem_of_getElem? (i := 43) rfl))) (Or.inr (hw _ (List.mem_of_getElem? (i := 20) rfl))) (by decide) (t := .double) (t' := .double) (by decide) (by decide)))
  have f4_3 : Fld Z h4 pa "com/example/likelihood/likelihood/ranking/Bm25L" "b" "D" (.double u0) := F3.other W4 (Or.inr (slot_ne (Or.inr (hw _ (List.mem_of_getElem? (i := 53) rfl))) (Or.inr (hw _ (List.mem_of_getElem? (i := 20) rfl))) (by decide) (t := .double) (t' := .double) (by decide) (by decide)))
  have f4_4 : Fld Z h4 pa "com/example/likelihood/likelihood/ranking/Bm25L" "delta" "D" (.double u4) := F4.other W4 (Or.inr (slot_ne (Or.inr (hw _ (List.mem_of_getElem? (i := 56) rfl))) (Or.inr (hw _ (List.mem_of_getElem? (i := 20) rfl))) (by decide) (t := .double) (t' := .double) (by decide) (by decide)))
  have f4_5 : Exa Z h4 pa "com/example/likelihood/likelihood/ranking/Bm25L" := E0.wr W4
  have N4 := Fr.snoc X4 N0 g_pa
  have hk4 : 0 ≤ h4.size := Nat.le_trans hk0 (Keep.of_wr W4).1
  have Z4 : n0 ≤ h4.size := Nat.le_trans Z0 (Keep.of_wr W4).1
  have K4 : Keep h0 h4 [pa] := (Keep.refl h0 [pa]).wr W4 (Or.inl (List.mem_of_getElem? (i := 0) rfl))
  have k5 : ∀ t, Steps p.tables e below (T4.setTop (mkF m 30 #[.val (.ref pa), .val (.double d3), .second, .val (.double d2), .second] [(.ref pa)])) t → Steps p.tables e below (T4.setTop (mkF m 29 #[.val (.ref pa), .val (.double d3), .second, .val (.double d2), .second] [])) t := fun t k => by
    refine XS.aloadN X4.here hx rfl (hb hby own_d_prog_50_method_1_code_29) rfl rfl ?_
    show Steps p.tables e below (T4.setTop (mkF m 30 #[.val (.ref pa), .val (.double d3), .second, .val (.double d2), .second] [(.ref pa)])) _
    exact k
  refine own_go k5 ?_
  clear k5
  obtain ⟨a6, T6, h6, k6, X6, e6, E6, Sn6, hk6, hZ6, hown6, st6⟩ := ldcS X4 hx hZ hown (hw _ (List.mem_of_getElem? (i := 21) rfl)) (own_sa hw) e4 Sn0 hk4 (g := (mkF m 30 #[.val (.ref pa), .val (.double d3), .second, .val (.double d2), .second] [(.ref pa)])) rfl (hb hby own_d_prog_50_method_1_code_30) (n := 8) (by decide) (by decide) (by decide) (by decide)
  refine own_go st6 ?_
  have f6_0 : Fld Z h6 pa "com/example/likelihood/likelihood/ranking/BestMatch" "k3" "D" (.double d3) := f4_0.ext E6
  have f6_1 : Fld Z h6 pa "com/example/likelihood/likelihood/ranking/BestMatch" "k2" "D" (.double u2) := f4_1.ext E6
  have f6_2 : Fld Z h6 pa "com/example/likelihood/likelihood/ranking/Bm25L" "k1" "D" (.double u1) := f4_2.ext E6
  have f6_3 : Fld Z h6 pa "com/example/likelihood/likelihood/ranking/Bm25L" "b" "D" (.double u0) := f4_3.ext E6
  have f6_4 : Fld Z h6 pa "com/example/likelihood/likelihood/ranking/Bm25L" "delta" "D" (.double u4) := f4_4.ext E6
  have f6_5 : Exa Z h6 pa "com/example/likelihood/likelihood/ranking/Bm25L" := f4_5.ext E6
  have Z6 : n0 ≤ h6.size := Nat.le_trans Z4 E6.1
  have K6 : Keep h0 h6 [pa] := K4.ext E6
  have k8 : ∀ t, Steps p.tables e below (T6.setTop (mkF m 33 #[.val (.ref pa), .val (.double d3), .second, .val (.double d2), .second] [(.double d2), (.ref a6), (.ref pa)])) t → Steps p.tables e below (T6.setTop (mkF m 32 #[.val (.ref pa), .val (.double d3), .second, .val (.double d2), .second] [(.ref a6), (.ref pa)])) t := fun t k => by
    refine XS.dloadN X6.here hx rfl (hb hby own_d_prog_50_method_1_code_32) rfl ?_
    show Steps p.tables e below (T6.setTop (mkF m 33 #[.val (.ref pa), .val (.double d3), .second, .val (.double d2), .second] [(.double d2), (.ref a6), (.ref pa)])) _
    exact k
  refine own_go k8 ?_
  clear k8
  obtain ⟨_, _, ⟨T7, L7, k7, n7⟩, -, X7, ⟨Lc7, hQ7, l7, y7, z7⟩, st7⟩ := Jvm.LawKit.callS X6 hx (y := (⟨"com/example/likelihood/likelihood/ranking/BestMatch", "requireParameter", "(Ljava/lang/String;D)D"⟩ : MethodName)) hown6 (mvT hZ6 (hw _ (List.mem_of_getElem? (i := 29) rfl))) (mvT hZ6 (hw _ (List.mem_of_getElem? (i := 30) rfl))) (mvT hZ6 (hw _ (List.mem_of_getElem? (i := 14) rfl))) (mvT hZ6 (hw _ (List.mem_of_getElem? (i := 31) rfl))) (by decide) (backOf (W := 1) (own_rm_reqP l Z a0 hw [] a6 d2 h6 n0 Z6 hd2a hd2b) hZ6 (hw _ (List.mem_of_getElem? (i := 31) rfl)) (hw _ (List.mem_of_getElem? (i := 14) rfl)) (by decide) (by decide)) (g := (mkF m 33 #[.val (.ref pa), .val (.double d3), .second, .val (.double d2), .second] [(.double d2), (.ref a6), (.ref pa)])) rfl (by rw [hml]; rfl) (argsL := [(.ref a6), (.double d2)]) (rest := [(.ref pa)]) (lenOf own_pd_28Ljava2flang2fString3bD29D rfl) rfl (by show 2 * 0 + _ ≤ _; exact Nat.le_of_eq rfl) (hb hby own_d_prog_50_method_1_code_33) (fun _ _ => ⟨rfl, e6, (by decide : 2 + 0 ≤ _), (by decide : 12 + 0 ≤ _)⟩)
  dsimp only [Pt.U, Pt.locs, Pt.cells, Pt.slots] at X7 l7 y7 z7 st7 hQ7
  subst l7 y7 z7
  obtain ⟨rfl, N7q, eh7⟩ := hQ7
  have N7 := Fr.app N4 N7q
  refine own_go st7 ?_
  obtain ⟨T9, h9, X9, e9, W9, st9⟩ := putF X7 hx hZ6 hown6 (host := "") (Or.inl (hw _ (List.mem_of_getElem? (i := 37) rfl))) Via.refl eh7 f6_1 f6_5 (Or.inr ⟨(hw _ (List.mem_of_getElem? (i := 38) rfl)), rfl, hnm⟩) (hw _ (List.mem_of_getElem? (i := 6) rfl)) (ty := .double) (by decide) rfl rfl (g := (mkF m 36 #[.val (.ref pa), .val (.double d3), .second, .val (.double d2), .second] [(.double d2), (.ref pa)])) rfl rfl (hb hby own_d_prog_50_method_1_code_36)
  refine own_go st9 ?_
  have f9_0 : Fld Z h9 pa "com/example/likelihood/likelihood/ranking/BestMatch" "k3" "D" (.double d3) := f6_0.other W9 (Or.inr (slot_ne (Or.inr (hw _ (List.mem_of_getElem? (i := 20) rfl))) (Or.inr (hw _ (List.mem_of_getElem? (i := 38) rfl))) (by decide) (t := .double) (t' := .double) (by decide) (by decide)))
  have f9_1 : Fld Z h9 pa "com/example/likelihood/likelihood/ranking/BestMatch" "k2" "D" (.double d2) := f6_1.same W9
  have f9_2 : Fld Z h9 pa "com/example/likelihood/likelihood/ranking/Bm25L" "k1" "D" (.double u1) := f6_2.other W9 (Or.inr (slot_ne (Or.inr (hw _ (List.mem_of_getElem? (i := 43) rfl))) (Or.inr (hw _ (List.mem_of_getElem? (i := 38) rfl))) (by decide) (t := .double) (t' := .double) (by decide) (by decide)))
  have f9_3 : Fld Z h9 pa "com/example/likelihood/likelihood/ranking/Bm25L" "b" "D" (.double u0) := f6_3.other W9 (Or.inr (slot_ne (Or.inr (hw _ (List.mem_of_getElem? (i := 53) rfl))) (Or.inr (hw _ (List.mem_of_getElem? (i := 38) rfl))) (by decide) (t := .double) (t' := .double) (by decide) (by decide)))
  have f9_4 : Fld Z h9 pa "com/example/likelihood/likelihood/ranking/Bm25L" "delta" "D" (.double u4) := f6_4.other W9 (Or.inr (slot_ne (Or.inr (hw _ (List.mem_of_getElem? (i := 56) rfl))) (Or.inr (hw _ (List.mem_of_getElem? (i := 38) rfl))) (by decide) (t := .double) (t' := .double) (by decide) (by decide)))
  have f9_5 : Exa Z h9 pa "com/example/likelihood/likelihood/ranking/Bm25L" := f6_5.wr W9
  have N9 := Fr.snoc X9 N7 g_pa
  have hk9 : k6 ≤ h9.size := Nat.le_trans hk6 (Keep.of_wr W9).1
  have Z9 : n0 ≤ h9.size := Nat.le_trans Z6 (Keep.of_wr W9).1
  have K9 : Keep h0 h9 [pa] := K6.wr W9 (Or.inl (List.mem_of_getElem? (i := 0) rfl))
  obtain ⟨fs, hr, hrun, hended, hRW⟩ := X9.leaveW Sn6 (by rw [e9]; exact hk9) (v := none) (fun _ => rfl)
  refine ⟨_, _, X9.returnOut hx Bd.returns (hb hby own_d_prog_50_method_1_code_39) hr, hPf _ _ ⟨hrun, hended, _, _, rfl, ?_, hRW.1, hRW.2.1, hRW.2.2.1, hRW.2.2.2.mono (by decide) (by decide)⟩⟩
  show own_Q_bmInit Z pa d3 d2 u3 u2 u1 u0 u4 h0 n0 _ T9.heap _
  rw [e9]
  exact ⟨rfl, N9, K9, f9_5, f9_0, f9_1, f9_2, f9_3, f9_4⟩
theorem own_d_prog_56_method_1_code_0 : decode prog_56_method_1_code 0 = .ok (.aload_n 0, 1) := by decide +kernel
theorem own_d_prog_56_method_1_code_1 : decode prog_56_method_1_code 1 = .ok (.dload 5, 2) := by decide +kernel
theorem own_d_prog_56_method_1_code_3 : decode prog_56_method_1_code 3 = .ok (.dconst 0, 1) := by decide +kernel
theorem own_d_prog_56_method_1_code_4 : decode prog_56_method_1_code 4 = .ok (.invokespecial 1, 3) := by decide +kernel
theorem own_pd_28DD29V : parseMethodDescriptor "(DD)V" = some ⟨[.double, .double], none⟩ := by decide +kernel
theorem own_d_prog_56_method_1_code_7 : decode prog_56_method_1_code 7 = .ok (.aload_n 0, 1) := by decide +kernel
theorem own_d_prog_56_method_1_code_8 : decode prog_56_method_1_code 8 = .ok (.ldc 7, 2) := by decide +kernel
theorem own_d_prog_56_method_1_code_10 : decode prog_56_method_1_code 10 = .ok (.dload_n 1, 1) := by decide +kernel
theorem own_d_prog_56_method_1_code_11 : decode prog_56_method_1_code 11 = .ok (.invokestatic 9, 3) := by decide +kernel
theorem own_d_prog_56_method_1_code_14 : decode prog_56_method_1_code 14 = .ok (.putfield 15, 3) := by decide +kernel
theorem own_d_prog_56_method_1_code_17 : decode prog_56_method_1_code 17 = .ok (.aload_n 0, 1) := by decide +kernel
theorem own_d_prog_56_method_1_code_18 : decode prog_56_method_1_code 18 = .ok (.dload_n 3, 1) := by decide +kernel
theorem own_d_prog_56_method_1_code_19 : decode prog_56_method_1_code 19 = .ok (.invokestatic 18, 3) := by decide +kernel
theorem own_pd_28D29D : parseMethodDescriptor "(D)D" = some ⟨[.double], some .double⟩ := by decide +kernel
theorem own_d_prog_56_method_1_code_22 : decode prog_56_method_1_code 22 = .ok (.putfield 22, 3) := by decide +kernel
theorem own_d_prog_56_method_1_code_25 : decode prog_56_method_1_code 25 = .ok (.aload_n 0, 1) := by decide +kernel
theorem own_d_prog_56_method_1_code_26 : decode prog_56_method_1_code 26 = .ok (.ldc 25, 2) := by decide +kernel
theorem own_d_prog_56_method_1_code_28 : decode prog_56_method_1_code 28 = .ok (.dload 7, 2) := by decide +kernel
theorem own_d_prog_56_method_1_code_30 : decode prog_56_method_1_code 30 = .ok (.invokestatic 9, 3) := by decide +kernel
theorem own_d_prog_56_method_1_code_33 : decode prog_56_method_1_code 33 = .ok (.putfield 27, 3) := by decide +kernel
theorem own_d_prog_56_method_1_code_36 : decode prog_56_method_1_code 36 = .ok (.return_, 1) := by decide +kernel
theorem own_ef_b25Init (m : MethodId) (x0 : Addr) (x1 : UInt64) (x2 : UInt64) (x3 : UInt64) (x4 : UInt64) : entryFrame m #[(.ref x0), (.double x1), (.double x2), (.double x3), (.double x4)] 9 = mkF m 0 #[.val (.ref x0), .val (.double x1), .second, .val (.double x2), .second, .val (.double x3), .second, .val (.double x4), .second] [] := by first | (simp [entryFrame, mkF, argsToLocals, Value.category]; done) | rfl
def own_Q_b25Init (Z : State) (pa : Addr) (dk : UInt64) (db : UInt64) (dz : UInt64) (dd : UInt64) (u3 u2 u1 u0 u4 : UInt64) (h0 : Heap) (n0 : Nat) (v : Option Value) (h : Heap) (L : List Loc) : Prop := v = none ∧ Fr n0 L ∧ Keep h0 h [pa] ∧ Exa Z h pa "com/example/likelihood/likelihood/ranking/Bm25L" ∧ Fld Z h pa "com/example/likelihood/likelihood/ranking/BestMatch" "k3" "D" (.double dz) ∧ Fld Z h pa "com/example/likelihood/likelihood/ranking/BestMatch" "k2" "D" (.double FP.dconst0) ∧ Fld Z h pa "com/example/likelihood/likelihood/ranking/Bm25L" "k1" "D" (.double dk) ∧ Fld Z h pa "com/example/likelihood/likelihood/ranking/Bm25L" "b" "D" (.double db) ∧ Fld Z h pa "com/example/likelihood/likelihood/ranking/Bm25L" "delta" "D" (.double dd)
theorem own_pn_com_example_likelihood_likelihood_ranking_Bm25L : plainName "com/example/likelihood/likelihood/ranking/Bm25L" = true := by first | (simp [plainName, overriddenIn]; done) | decide +kernel
set_option maxRecDepth 65536 in
set_option maxHeartbeats 40000000 in
theorem own_rm_b25Init (l : Launch) (Z : State) (a0 : Array Value) (hw : ∀ d ∈ tables_1, d.before a0 Z = true) (ws : List Jvm.Cond) (pa : Addr) (dk : UInt64) (db : UInt64) (dz : UInt64) (dd : UInt64) (u3 u2 u1 u0 u4 : UInt64) (h0 : Heap) (n0 : Nat) (Z0 : n0 ≤ h0.size) (F0 : Fld Z h0 pa "com/example/likelihood/likelihood/ranking/BestMatch" "k3" "D" (.double u3)) (F1 : Fld Z h0 pa "com/example/likelihood/likelihood/ranking/BestMatch" "k2" "D" (.double u2)) (F2 : Fld Z h0 pa "com/example/likelihood/likelihood/ranking/Bm25L" "k1" "D" (.double u1)) (F3 : Fld Z h0 pa "com/example/likelihood/likelihood/ranking/Bm25L" "b" "D" (.double u0)) (F4 : Fld Z h0 pa "com/example/likelihood/likelihood/ranking/Bm25L" "delta" "D" (.double u4)) (E0 : Exa Z h0 pa "com/example/likelihood/likelihood/ranking/Bm25L") (g_pa : n0 ≤ pa) (hk3 : ¬ (cmpValue (FP.dcmp dz FP.dconst0) .l) < (0 : Int32)) (hka : ¬ (cmpValue (FP.dcmp dk FP.dconst0) .l) < (0 : Int32)) (hkb : (cmpValue (FP.dcmp dk (9218868437227405312 : UInt64)) .g) < (0 : Int32)) (hba : ¬ (cmpValue (FP.dcmp db FP.dconst0) .l) < (0 : Int32)) (hbb : ¬ (0 : Int32) < (cmpValue (FP.dcmp db FP.dconst1) .g)) (hda : ¬ (cmpValue (FP.dcmp dd FP.dconst0) .l) < (0 : Int32)) (hdb : (cmpValue (FP.dcmp dd (9218868437227405312 : UInt64)) .g) < (0 : Int32)) :
    MetFree l (⟨"com/example/likelihood/likelihood/ranking/Bm25L", "<init>", "(DDDD)V"⟩ : MethodName) (head1 (Jvm.Cond.code (⟨"com/example/likelihood/likelihood/ranking/Bm25L", "<init>", "(DDDD)V"⟩ : MethodName) prog_56_method_1_code 9 none :: ws) ({ frames := 3, cells := 8, slots := 56, locals := 45 } : Room)) (fun a U => a = #[(.ref pa), (.double dk), (.double db), (.double dz), (.double dd)] ∧ Z.Warmed39 U.vm ∧ U.heap = h0) (fun _ _ _ _ _ => True) (fun _ U o U' => ∃ v L, o = .returned v ∧ own_Q_b25Init Z pa dk db dz dd u3 u2 u1 u0 u4 h0 n0 v U'.heap L ∧ ReturnedEndW U o U' L ({ frames := 3, cells := 8, slots := 56, locals := 45 } : Room).cells ({ frames := 3, cells := 8, slots := 56, locals := 45 } : Room).slots) := by
  refine MetFree.of_bodySF (plainFor_of_name own_pn_com_example_likelihood_likelihood_ranking_Bm25L) hisR ?_
  intro p e s m args below meth c s₁ Bd hml0 hP hKq_
  obtain ⟨rfl, hZ, hh⟩ := hP
  have hx := Bd.exec
  have hby := Bd.bytes
  have hml : c.maxLocals = 9 := hml0
  have hown : s.vm.findClass "com/example/likelihood/likelihood/ranking/Bm25L" = some m.cls := findClass_of_methodNamed Bd.named
  have hnm := (name_of_methodNamed Bd.named Bd.method).1
  have X0 : Stand p l e ({ frames := 3, cells := 8, slots := 56, locals := 45 } : Room) (s.setVm s.vm) m #[(.ref pa), (.double dk), (.double db), (.double dz), (.double dd)] below meth c s₁ [] 0 0 := Stand.of_body Bd
  have e0 : s₁.heap = h0 := by rw [← hh, Bd.state]; rfl
  have N0 := Fr.nil n0
  have pre0 : ∀ t, Steps p.tables e below (s₁.setTop (mkF m 0 #[.val (.ref pa), .val (.double dk), .second, .val (.double db), .second, .val (.double dz), .second, .val (.double dd), .second] [])) t → Steps p.tables e below (s₁.setTop (entryFrame m #[(.ref pa), (.double dk), (.double db), (.double dz), (.double dd)] 9)) t := fun t k => castTop (own_ef_b25Init m pa dk db dz dd) k
  refine own_go pre0 ?_
  refine own_abs ?_
  intro Pf hPf
  have hZ : Z.Warmed39 (s.setVm s.vm).vm := hZ
  have hown : (s.setVm s.vm).vm.findClass "com/example/likelihood/likelihood/ranking/Bm25L" = some m.cls := hown
  have Sn0 : s.Since s.vm 0 := (State.WarmedH.refl s).since 0
  have hk0 : 0 ≤ h0.size := Nat.zero_le _
  have k2 : ∀ t, Steps p.tables e below (s₁.setTop (mkF m 4 #[.val (.ref pa), .val (.double dk), .second, .val (.double db), .second, .val (.double dz), .second, .val (.double dd), .second] [(.double FP.dconst0), (.double dz), (.ref pa)])) t → Steps p.tables e below (s₁.setTop (mkF m 0 #[.val (.ref pa), .val (.double dk), .second, .val (.double db), .second, .val (.double dz), .second, .val (.double dd), .second] [])) t := fun t k => by
    refine XS.aloadN X0.here hx rfl (hb hby own_d_prog_56_method_1_code_0) rfl rfl ?_
    show Steps p.tables e below (s₁.setTop (mkF m 1 #[.val (.ref pa), .val (.double dk), .second, .val (.double db), .second, .val (.double dz), .second, .val (.double dd), .second] [(.ref pa)])) _
    refine XS.dload X0.here hx rfl (hb hby own_d_prog_56_method_1_code_1) rfl ?_
    show Steps p.tables e below (s₁.setTop (mkF m 3 #[.val (.ref pa), .val (.double dk), .second, .val (.double db), .second, .val (.double dz), .second, .val (.double dd), .second] [(.double dz), (.ref pa)])) _
    refine XS.dconst0 X0.here hx rfl (hb hby own_d_prog_56_method_1_code_3) rfl ?_
    show Steps p.tables e below (s₁.setTop (mkF m 4 #[.val (.ref pa), .val (.double dk), .second, .val (.double db), .second, .val (.double dz), .second, .val (.double dd), .second] [(.double FP.dconst0), (.double dz), (.ref pa)])) _
    exact k
  refine own_go k2 ?_
  clear k2
  obtain ⟨_, _, ⟨T1, L1, k1, n1⟩, -, X1q, Sn1q, gr1, ⟨Lc1, hQ1, l1, y1, z1⟩, st1⟩ := X0.specialBackS hx (y := (⟨"com/example/likelihood/likelihood/ranking/BestMatch", "<init>", "(DD)V"⟩ : MethodName)) rfl hown (mvT hZ (hw _ (List.mem_of_getElem? (i := 11) rfl))) (mvT hZ (hw _ (List.mem_of_getElem? (i := 12) rfl))) (mvT hZ (hw _ (List.mem_of_getElem? (i := 15) rfl))) (by decide) (backOfS (W := 0) (own_rm_bmInit l Z a0 hw [] pa dz FP.dconst0 u3 u2 u1 u0 u4 h0 n0 Z0 F0 F1 F2 F3 F4 E0 g_pa hk3 (by decide +kernel) (by decide +kernel)) hZ (hw _ (List.mem_of_getElem? (i := 15) rfl)) (hw _ (List.mem_of_getElem? (i := 14) rfl)) (by decide) (by decide)) (g := (mkF m 4 #[.val (.ref pa), .val (.double dk), .second, .val (.double db), .second, .val (.double dz), .second, .val (.double dd), .second] [(.double FP.dconst0), (.double dz), (.ref pa)])) rfl (by rw [hml]; rfl) (Steps.refl _) (a := pa) (argsL := [(.double dz), (.double FP.dconst0)]) (rest := []) (lenOf own_pd_28DD29V rfl) rfl (by show 2 * 0 + _ ≤ _; exact Nat.le_of_eq rfl) (hb hby own_d_prog_56_method_1_code_4) (fun _ _ => ⟨rfl, e0, (by decide : 0 + 2 ≤ _), (by decide : 0 + 12 ≤ _)⟩)
  dsimp only [Pt.U, Pt.locs, Pt.cells, Pt.slots] at X1q l1 y1 z1 st1 hQ1
  subst l1 y1 z1
  dsimp only [Pt.U] at Sn1q gr1
  obtain ⟨X1, Sn1, hZ1, hown1⟩ := rebS Sn0 (by rw [e0]; exact hk0) X1q Sn1q gr1 hZ hown
  obtain ⟨rfl, N1q, K1q, p1_0, p1_1, p1_2, p1_3, p1_4, p1_5⟩ := hQ1
  have N1 := Fr.app N0 N1q
  have Z1 : n0 ≤ T1.heap.size := Nat.le_trans Z0 K1q.1
  have K1 : Keep h0 T1.heap [pa] := (Keep.refl h0 [pa]).trans K1q (allS (Or.inl (List.mem_of_getElem? (i := 0) rfl)) all0)
  refine own_go (fun _ k => st1.trans k) ?_
  have hk1c : T1.heap.size ≤ T1.heap.size := Nat.le_refl _
  have k3 : ∀ t, Steps p.tables e below (T1.setTop (mkF m 8 #[.val (.ref pa), .val (.double dk), .second, .val (.double db), .second, .val (.double dz), .second, .val (.double dd), .second] [(.ref pa)])) t → Steps p.tables e below (T1.setTop (mkF m 7 #[.val (.ref pa), .val (.double dk), .second, .val (.double db), .second, .val (.double dz), .second, .val (.double dd), .second] [])) t := fun t k => by
    refine XS.aloadN X1.here hx rfl (hb hby own_d_prog_56_method_1_code_7) rfl rfl ?_
    show Steps p.tables e below (T1.setTop (mkF m 8 #[.val (.ref pa), .val (.double dk), .second, .val (.double db), .second, .val (.double dz), .second, .val (.double dd), .second] [(.ref pa)])) _
    exact k
  refine own_go k3 ?_
  clear k3
  obtain ⟨a4, T4, h4, k4, X4, e4, E4, Sn4, hk4, hZ4, hown4, st4⟩ := ldcS X1 hx hZ1 hown1 (hw _ (List.mem_of_getElem? (i := 39) rfl)) (own_sa hw) rfl Sn1 hk1c (g := (mkF m 8 #[.val (.ref pa), .val (.double dk), .second, .val (.double db), .second, .val (.double dz), .second, .val (.double dd), .second] [(.ref pa)])) rfl (hb hby own_d_prog_56_method_1_code_8) (n := 8) (by decide) (by decide) (by decide) (by decide)
  refine own_go st4 ?_
  have f4_0 : Exa Z h4 pa "com/example/likelihood/likelihood/ranking/Bm25L" := p1_0.ext E4
  have f4_1 : Fld Z h4 pa "com/example/likelihood/likelihood/ranking/BestMatch" "k3" "D" (.double dz) := p1_1.ext E4
  have f4_2 : Fld Z h4 pa "com/example/likelihood/likelihood/ranking/BestMatch" "k2" "D" (.double FP.dconst0) := p1_2.ext E4
  have f4_3 : Fld Z h4 pa "com/example/likelihood/likelihood/ranking/Bm25L" "k1" "D" (.double u1) := p1_3.ext E4
  have f4_4 : Fld Z h4 pa "com/example/likelihood/likelihood/ranking/Bm25L" "b" "D" (.double u0) := p1_4.ext E4
  have f4_5 : Fld Z h4 pa "com/example/likelihood/likelihood/ranking/Bm25L" "delta" "D" (.double u4) := p1_5.ext E4
  have Z4 : n0 ≤ h4.size := Nat.le_trans Z1 E4.1
  have K4 : Keep h0 h4 [pa] := K1.ext E4
  have k6 : ∀ t, Steps p.tables e below (T4.setTop (mkF m 11 #[.val (.ref pa), .val (.double dk), .second, .val (.double db), .second, .val (.double dz), .second, .val (.double dd), .second] [(.double dk), (.ref a4), (.ref pa)])) t → Steps p.tables e below (T4.setTop (mkF m 10 #[.val (.ref pa), .val (.double dk), .second, .val (.double db), .second, .val (.double dz), .second, .val (.double dd), .second] [(.ref a4), (.ref pa)])) t := fun t k => by
    refine XS.dloadN X4.here hx rfl (hb hby own_d_prog_56_method_1_code_10) rfl ?_
    show Steps p.tables e below (T4.setTop (mkF m 11 #[.val (.ref pa), .val (.double dk), .second, .val (.double db), .second, .val (.double dz), .second, .val (.double dd), .second] [(.double dk), (.ref a4), (.ref pa)])) _
    exact k
  refine own_go k6 ?_
  clear k6
  obtain ⟨mk5, nmd5⟩ := Cond.code_named (mvT hZ4 (hw _ (List.mem_of_getElem? (i := 31) rfl)) : (Jvm.Cond.code (⟨"com/example/likelihood/likelihood/ranking/BestMatch", "requireParameter", "(Ljava/lang/String;D)D"⟩ : MethodName) _ _ _).before #[(.ref pa), (.double dk), (.double db), (.double dz), (.double dd)] (s.setVm _) = true)
  obtain ⟨mt5, cm5, hmt5, -, -, -, -, -, -, sg5⟩ := Cond.code_spec (args := #[(.ref pa), (.double dk), (.double db), (.double dz), (.double dd)]) nmd5 (mvT hZ4 (hw _ (List.mem_of_getElem? (i := 31) rfl)))
  obtain ⟨_, _, ⟨T5, L5, k5, n5⟩, -, X5, ⟨Lc5, hQ5, l5, y5, z5⟩, st5⟩ := Jvm.Stand.staticBackUp X4 hx (owner := "com/example/likelihood/likelihood/ranking/BestMatch") (x := (⟨"com/example/likelihood/likelihood/ranking/Bm25L", "requireParameter", "(Ljava/lang/String;D)D"⟩ : MethodName)) hown4 (mvT hZ4 (hw _ (List.mem_of_getElem? (i := 40) rfl))) (mvT hZ4 (hw _ (List.mem_of_getElem? (i := 41) rfl))) (mvT hZ4 (hw _ (List.mem_of_getElem? (i := 30) rfl))) (mvT hZ4 (hw _ (List.mem_of_getElem? (i := 14) rfl))) nmd5 hmt5 sg5 (by decide) (backOf (W := 1) (own_rm_reqP l Z a0 hw [] a4 dk h4 n0 Z4 hka hkb) hZ4 (hw _ (List.mem_of_getElem? (i := 31) rfl)) (hw _ (List.mem_of_getElem? (i := 14) rfl)) (by decide) (by decide)) (g := (mkF m 11 #[.val (.ref pa), .val (.double dk), .second, .val (.double db), .second, .val (.double dz), .second, .val (.double dd), .second] [(.double dk), (.ref a4), (.ref pa)])) rfl (by rw [hml]; rfl) (Steps.refl _) (argsL := [(.ref a4), (.double dk)]) (rest := [(.ref pa)]) (lenOf own_pd_28Ljava2flang2fString3bD29D rfl) rfl (by show 2 * 0 + _ ≤ _; exact Nat.le_of_eq rfl) (hb hby own_d_prog_56_method_1_code_11) (fun _ _ => ⟨rfl, e4, (by decide : 4 + 0 ≤ _), (by decide : 24 + 0 ≤ _)⟩)
  dsimp only [Pt.U, Pt.locs, Pt.cells, Pt.slots] at X5 l5 y5 z5 st5 hQ5
  subst l5 y5 z5
  obtain ⟨rfl, N5q, eh5⟩ := hQ5
  have N5 := Fr.app N1 N5q
  refine own_go (fun _ k => st5.trans k) ?_
  obtain ⟨T7, h7, X7, e7, W7, st7⟩ := putF X5 hx hZ4 hown4 (host := "") (Or.inl (hw _ (List.mem_of_getElem? (i := 42) rfl))) Via.refl eh5 f4_3 f4_0 (Or.inr ⟨(hw _ (List.mem_of_getElem? (i := 43) rfl)), rfl, hnm⟩) (hw _ (List.mem_of_getElem? (i := 6) rfl)) (ty := .double) (by decide) rfl rfl (g := (mkF m 14 #[.val (.ref pa), .val (.double dk), .second, .val (.double db), .second, .val (.double dz), .second, .val (.double dd), .second] [(.double dk), (.ref pa)])) rfl rfl (hb hby own_d_prog_56_method_1_code_14)
  refine own_go st7 ?_
  have f7_0 : Exa Z h7 pa "com/example/likelihood/likelihood/ranking/Bm25L" := f4_0.wr W7
  have f7_1 : Fld Z h7 pa "com/example/likelihood/likelihood/ranking/BestMatch" "k3" "D" (.double dz) := f4_1.other W7 (Or.inr (slot_ne (Or.inr (hw _ (List.mem_of_getElem? (i := 20) rfl))) (Or.inr (hw _ (List.mem_of_getElem? (i := 43) rfl))) (by decide) (t := .double) (t' := .double) (by decide) (by decide)))
  have f7_2 : Fld Z h7 pa "com/example/likelihood/likelihood/ranking/BestMatch" "k2" "D" (.double FP.dconst0) := f4_2.other W7 (Or.inr (slot_ne (Or.inr (hw _ (List.mem_of_getElem? (i := 38) rfl))) (Or.inr (hw _ (List.mem_of_getElem? (i := 43) rfl))) (by decide) (t := .double) (t' := .double) (by decide) (by decide)))
  have f7_3 : Fld Z h7 pa "com/example/likelihood/likelihood/ranking/Bm25L" "k1" "D" (.double dk) := f4_3.same W7
  have f7_4 : Fld Z h7 pa "com/example/likelihood/likelihood/ranking/Bm25L" "b" "D" (.double u0) := f4_4.other W7 (Or.inr (slot_ne (Or.inr (hw _ (List.mem_of_getElem? (i := 53) rfl))) (Or.inr (hw _ (List.mem_of_getElem? (i := 43) rfl))) (by decide) (t := .double) (t' := .double) (by decide) (by decide)))
  have f7_5 : Fld Z h7 pa "com/example/likelihood/likelihood/ranking/Bm25L" "delta" "D" (.double u4) := f4_5.other W7 (Or.inr (slot_ne (Or.inr (hw _ (List.mem_of_getElem? (i := 56) rfl))) (Or.inr (hw _ (List.mem_of_getElem? (i := 43) rfl))) (by decide) (t := .double) (t' := .double) (by decide) (by decide)))
  have N7 := Fr.snoc X7 N5 g_pa
  have hk7 : k4 ≤ h7.size := Nat.le_trans hk4 (Keep.of_wr W7).1
  have Z7 : n0 ≤ h7.size := Nat.le_trans Z4 (Keep.of_wr W7).1
  have K7 : Keep h0 h7 [pa] := K4.wr W7 (Or.inl (List.mem_of_getElem? (i := 0) rfl))
  have k9 : ∀ t, Steps p.tables e below (T7.setTop (mkF m 19 #[.val (.ref pa), .val (.double dk), .second, .val (.double db), .second, .val (.double dz), .second, .val (.double dd), .second] [(.double db), (.ref pa)])) t → Steps p.tables e below (T7.setTop (mkF m 17 #[.val (.ref pa), .val (.double dk), .second, .val (.double db), .second, .val (.double dz), .second, .val (.double dd), .second] [])) t := fun t k => by
    refine XS.aloadN X7.here hx rfl (hb hby own_d_prog_56_method_1_code_17) rfl rfl ?_
    show Steps p.tables e below (T7.setTop (mkF m 18 #[.val (.ref pa), .val (.double dk), .second, .val (.double db), .second, .val (.double dz), .second, .val (.double dd), .second] [(.ref pa)])) _
    refine XS.dloadN X7.here hx rfl (hb hby own_d_prog_56_method_1_code_18) rfl ?_
    show Steps p.tables e below (T7.setTop (mkF m 19 #[.val (.ref pa), .val (.double dk), .second, .val (.double db), .second, .val (.double dz), .second, .val (.double dd), .second] [(.double db), (.ref pa)])) _
    exact k
  refine own_go k9 ?_
  clear k9
  obtain ⟨mk8, nmd8⟩ := Cond.code_named (mvT hZ4 (hw _ (List.mem_of_getElem? (i := 47) rfl)) : (Jvm.Cond.code (⟨"com/example/likelihood/likelihood/ranking/BestMatch", "requireLengthWeight", "(D)D"⟩ : MethodName) _ _ _).before #[(.ref pa), (.double dk), (.double db), (.double dz), (.double dd)] (s.setVm _) = true)
  obtain ⟨mt8, cm8, hmt8, -, -, -, -, -, -, sg8⟩ := Cond.code_spec (args := #[(.ref pa), (.double dk), (.double db), (.double dz), (.double dd)]) nmd8 (mvT hZ4 (hw _ (List.mem_of_getElem? (i := 47) rfl)))
  obtain ⟨_, _, ⟨T8, L8, k8, n8⟩, -, X8q, Sn8q, gr8, ⟨Lc8, hQ8, l8, y8, z8⟩, st8⟩ := own_statUpS X7 hx (owner := "com/example/likelihood/likelihood/ranking/BestMatch") (x := (⟨"com/example/likelihood/likelihood/ranking/Bm25L", "requireLengthWeight", "(D)D"⟩ : MethodName)) hown4 (mvT hZ4 (hw _ (List.mem_of_getElem? (i := 44) rfl))) (mvT hZ4 (hw _ (List.mem_of_getElem? (i := 45) rfl))) (mvT hZ4 (hw _ (List.mem_of_getElem? (i := 46) rfl))) (mvT hZ4 (hw _ (List.mem_of_getElem? (i := 14) rfl))) nmd8 hmt8 sg8 (by decide) (backOfS (W := 1) (own_rm_reqL l Z a0 hw [] db h7 n0 Z7 hba hbb) hZ4 (hw _ (List.mem_of_getElem? (i := 47) rfl)) (hw _ (List.mem_of_getElem? (i := 14) rfl)) (by decide) (by decide)) (g := (mkF m 19 #[.val (.ref pa), .val (.double dk), .second, .val (.double db), .second, .val (.double dz), .second, .val (.double dd), .second] [(.double db), (.ref pa)])) rfl (by rw [hml]; rfl) (Steps.refl _) (argsL := [(.double db)]) (rest := [(.ref pa)]) (lenOf own_pd_28D29D rfl) rfl (by show 2 * 0 + _ ≤ _; exact Nat.le_of_eq rfl) (hb hby own_d_prog_56_method_1_code_19) (fun _ _ => ⟨rfl, e7, (by decide : 4 + 2 ≤ _), (by decide : 24 + 8 ≤ _)⟩)
  dsimp only [Pt.U, Pt.locs, Pt.cells, Pt.slots] at X8q l8 y8 z8 st8 hQ8
  subst l8 y8 z8
  dsimp only [Pt.U] at Sn8q gr8
  obtain ⟨X8, Sn8, hZ8, hown8⟩ := rebS Sn4 (by rw [e7]; exact hk7) X8q Sn8q gr8 hZ4 hown4
  obtain ⟨rfl, N8q, K8q⟩ := hQ8
  have N8 := Fr.app N7 N8q
  have f8_0 : Exa Z T8.heap pa "com/example/likelihood/likelihood/ranking/Bm25L" := f7_0.keep K8q
  have f8_1 : Fld Z T8.heap pa "com/example/likelihood/likelihood/ranking/BestMatch" "k3" "D" (.double dz) := f7_1.keep K8q nin0
  have f8_2 : Fld Z T8.heap pa "com/example/likelihood/likelihood/ranking/BestMatch" "k2" "D" (.double FP.dconst0) := f7_2.keep K8q nin0
  have f8_3 : Fld Z T8.heap pa "com/example/likelihood/likelihood/ranking/Bm25L" "k1" "D" (.double dk) := f7_3.keep K8q nin0
  have f8_4 : Fld Z T8.heap pa "com/example/likelihood/likelihood/ranking/Bm25L" "b" "D" (.double u0) := f7_4.keep K8q nin0
  have f8_5 : Fld Z T8.heap pa "com/example/likelihood/likelihood/ranking/Bm25L" "delta" "D" (.double u4) := f7_5.keep K8q nin0
  have Z8 : n0 ≤ T8.heap.size := Nat.le_trans Z7 K8q.1
  have K8 : Keep h0 T8.heap [pa] := K7.trans K8q all0
  refine own_go (fun _ k => st8.trans k) ?_
  have hk8c : T8.heap.size ≤ T8.heap.size := Nat.le_refl _
  obtain ⟨T10, h10, X10, e10, W10, st10⟩ := putF X8 hx hZ8 hown8 (host := "") (Or.inl (hw _ (List.mem_of_getElem? (i := 52) rfl))) Via.refl rfl f8_4 f8_0 (Or.inr ⟨(hw _ (List.mem_of_getElem? (i := 53) rfl)), rfl, hnm⟩) (hw _ (List.mem_of_getElem? (i := 6) rfl)) (ty := .double) (by decide) rfl rfl (g := (mkF m 22 #[.val (.ref pa), .val (.double dk), .second, .val (.double db), .second, .val (.double dz), .second, .val (.double dd), .second] [(.double db), (.ref pa)])) rfl rfl (hb hby own_d_prog_56_method_1_code_22)
  refine own_go st10 ?_
  have f10_0 : Exa Z h10 pa "com/example/likelihood/likelihood/ranking/Bm25L" := f8_0.wr W10
  have f10_1 : Fld Z h10 pa "com/example/likelihood/likelihood/ranking/BestMatch" "k3" "D" (.double dz) := f8_1.other W10 (Or.inr (slot_ne (Or.inr (hw _ (List.mem_of_getElem? (i := 20) rfl))) (Or.inr (hw _ (List.mem_of_getElem? (i := 53) rfl))) (by decide) (t := .double) (t' := .double) (by decide) (by decide)))
  have f10_2 : Fld Z h10 pa "com/example/likelihood/likelihood/ranking/BestMatch" "k2" "D" (.double FP.dconst0) := f8_2.other W10 (Or.inr (slot_ne (Or.inr (hw _ (List.mem_of_getElem? (i := 38) rfl))) (Or.inr (hw _ (List.mem_of_getElem? (i := 53) rfl))) (by decide) (t := .double) (t' := .double) (by decide) (by decide)))
  have f10_3 : Fld Z h10 pa "com/example/likelihood/likelihood/ranking/Bm25L" "k1" "D" (.double dk) := f8_3.other W10 (Or.inr (slot_ne (Or.inr (hw _ (List.mem_of_getElem? (i := 43) rfl))) (Or.inr (hw _ (List.mem_of_getElem? (i := 53) rfl))) (by decide) (t := .double) (t' := .double) (by decide) (by decide)))
  have f10_4 : Fld Z h10 pa "com/example/likelihood/likelihood/ranking/Bm25L" "b" "D" (.double db) := f8_4.same W10
  have f10_5 : Fld Z h10 pa "com/example/likelihood/likelihood/ranking/Bm25L" "delta" "D" (.double u4) := f8_5.other W10 (Or.inr (slot_ne (Or.inr (hw _ (List.mem_of_getElem? (i := 56) rfl))) (Or.inr (hw _ (List.mem_of_getElem? (i := 53) rfl))) (by decide) (t := .double) (t' := .double) (by decide) (by decide)))
  have N10 := Fr.snoc X10 N8 g_pa
  have hk10 : T8.heap.size ≤ h10.size := Nat.le_trans hk8c (Keep.of_wr W10).1
  have Z10 : n0 ≤ h10.size := Nat.le_trans Z8 (Keep.of_wr W10).1
  have K10 : Keep h0 h10 [pa] := K8.wr W10 (Or.inl (List.mem_of_getElem? (i := 0) rfl))
  have k11 : ∀ t, Steps p.tables e below (T10.setTop (mkF m 26 #[.val (.ref pa), .val (.double dk), .second, .val (.double db), .second, .val (.double dz), .second, .val (.double dd), .second] [(.ref pa)])) t → Steps p.tables e below (T10.setTop (mkF m 25 #[.val (.ref pa), .val (.double dk), .second, .val (.double db), .second, .val (.double dz), .second, .val (.double dd), .second] [])) t := fun t k => by
    refine XS.aloadN X10.here hx rfl (hb hby own_d_prog_56_method_1_code_25) rfl rfl ?_
    show Steps p.tables e below (T10.setTop (mkF m 26 #[.val (.ref pa), .val (.double dk), .second, .val (.double db), .second, .val (.double dz), .second, .val (.double dd), .second] [(.ref pa)])) _
    exact k
  refine own_go k11 ?_
  clear k11
  obtain ⟨a12, T12, h12, k12, X12, e12, E12, Sn12, hk12, hZ12, hown12, st12⟩ := ldcS X10 hx hZ8 hown8 (hw _ (List.mem_of_getElem? (i := 54) rfl)) (own_sa hw) e10 Sn8 hk10 (g := (mkF m 26 #[.val (.ref pa), .val (.double dk), .second, .val (.double db), .second, .val (.double dz), .second, .val (.double dd), .second] [(.ref pa)])) rfl (hb hby own_d_prog_56_method_1_code_26) (n := 20) (by decide) (by decide) (by decide) (by decide)
  refine own_go st12 ?_
  have f12_0 : Exa Z h12 pa "com/example/likelihood/likelihood/ranking/Bm25L" := f10_0.ext E12
  have f12_1 : Fld Z h12 pa "com/example/likelihood/likelihood/ranking/BestMatch" "k3" "D" (.double dz) := f10_1.ext E12
  have f12_2 : Fld Z h12 pa "com/example/likelihood/likelihood/ranking/BestMatch" "k2" "D" (.double FP.dconst0) := f10_2.ext E12
  have f12_3 : Fld Z h12 pa "com/example/likelihood/likelihood/ranking/Bm25L" "k1" "D" (.double dk) := f10_3.ext E12
  have f12_4 : Fld Z h12 pa "com/example/likelihood/likelihood/ranking/Bm25L" "b" "D" (.double db) := f10_4.ext E12
  have f12_5 : Fld Z h12 pa "com/example/likelihood/likelihood/ranking/Bm25L" "delta" "D" (.double u4) := f10_5.ext E12
  have Z12 : n0 ≤ h12.size := Nat.le_trans Z10 E12.1
  have K12 : Keep h0 h12 [pa] := K10.ext E12
  have k14 : ∀ t, Steps p.tables e below (T12.setTop (mkF m 30 #[.val (.ref pa), .val (.double dk), .second, .val (.double db), .second, .val (.double dz), .second, .val (.double dd), .second] [(.double dd), (.ref a12), (.ref pa)])) t → Steps p.tables e below (T12.setTop (mkF m 28 #[.val (.ref pa), .val (.double dk), .second, .val (.double db), .second, .val (.double dz), .second, .val (.double dd), .second] [(.ref a12), (.ref pa)])) t := fun t k => by
    refine XS.dload X12.here hx rfl (hb hby own_d_prog_56_method_1_code_28) rfl ?_
    show Steps p.tables e below (T12.setTop (mkF m 30 #[.val (.ref pa), .val (.double dk), .second, .val (.double db), .second, .val (.double dz), .second, .val (.double dd), .second] [(.double dd), (.ref a12), (.ref pa)])) _
    exact k
  refine own_go k14 ?_
  clear k14
  obtain ⟨mk13, nmd13⟩ := Cond.code_named (mvT hZ12 (hw _ (List.mem_of_getElem? (i := 31) rfl)) : (Jvm.Cond.code (⟨"com/example/likelihood/likelihood/ranking/BestMatch", "requireParameter", "(Ljava/lang/String;D)D"⟩ : MethodName) _ _ _).before #[(.ref pa), (.double dk), (.double db), (.double dz), (.double dd)] (s.setVm _) = true)
  obtain ⟨mt13, cm13, hmt13, -, -, -, -, -, -, sg13⟩ := Cond.code_spec (args := #[(.ref pa), (.double dk), (.double db), (.double dz), (.double dd)]) nmd13 (mvT hZ12 (hw _ (List.mem_of_getElem? (i := 31) rfl)))
  obtain ⟨_, _, ⟨T13, L13, k13, n13⟩, -, X13, ⟨Lc13, hQ13, l13, y13, z13⟩, st13⟩ := Jvm.Stand.staticBackUp X12 hx (owner := "com/example/likelihood/likelihood/ranking/BestMatch") (x := (⟨"com/example/likelihood/likelihood/ranking/Bm25L", "requireParameter", "(Ljava/lang/String;D)D"⟩ : MethodName)) hown12 (mvT hZ12 (hw _ (List.mem_of_getElem? (i := 40) rfl))) (mvT hZ12 (hw _ (List.mem_of_getElem? (i := 41) rfl))) (mvT hZ12 (hw _ (List.mem_of_getElem? (i := 30) rfl))) (mvT hZ12 (hw _ (List.mem_of_getElem? (i := 14) rfl))) nmd13 hmt13 sg13 (by decide) (backOf (W := 1) (own_rm_reqP l Z a0 hw [] a12 dd h12 n0 Z12 hda hdb) hZ12 (hw _ (List.mem_of_getElem? (i := 31) rfl)) (hw _ (List.mem_of_getElem? (i := 14) rfl)) (by decide) (by decide)) (g := (mkF m 30 #[.val (.ref pa), .val (.double dk), .second, .val (.double db), .second, .val (.double dz), .second, .val (.double dd), .second] [(.double dd), (.ref a12), (.ref pa)])) rfl (by rw [hml]; rfl) (Steps.refl _) (argsL := [(.ref a12), (.double dd)]) (rest := [(.ref pa)]) (lenOf own_pd_28Ljava2flang2fString3bD29D rfl) rfl (by show 2 * 0 + _ ≤ _; exact Nat.le_of_eq rfl) (hb hby own_d_prog_56_method_1_code_30) (fun _ _ => ⟨rfl, e12, (by decide : 8 + 0 ≤ _), (by decide : 56 + 0 ≤ _)⟩)
  dsimp only [Pt.U, Pt.locs, Pt.cells, Pt.slots] at X13 l13 y13 z13 st13 hQ13
  subst l13 y13 z13
  obtain ⟨rfl, N13q, eh13⟩ := hQ13
  have N13 := Fr.app N10 N13q
  refine own_go (fun _ k => st13.trans k) ?_
  obtain ⟨T15, h15, X15, e15, W15, st15⟩ := putF X13 hx hZ12 hown12 (host := "") (Or.inl (hw _ (List.mem_of_getElem? (i := 55) rfl))) Via.refl eh13 f12_5 f12_0 (Or.inr ⟨(hw _ (List.mem_of_getElem? (i := 56) rfl)), rfl, hnm⟩) (hw _ (List.mem_of_getElem? (i := 6) rfl)) (ty := .double) (by decide) rfl rfl (g := (mkF m 33 #[.val (.ref pa), .val (.double dk), .second, .val (.double db), .second, .val (.double dz), .second, .val (.double dd), .second] [(.double dd), (.ref pa)])) rfl rfl (hb hby own_d_prog_56_method_1_code_33)
  refine own_go st15 ?_
  have f15_0 : Exa Z h15 pa "com/example/likelihood/likelihood/ranking/Bm25L" := f12_0.wr W15
  have f15_1 : Fld Z h15 pa "com/example/likelihood/likelihood/ranking/BestMatch" "k3" "D" (.double dz) := f12_1.other W15 (Or.inr (slot_ne (Or.inr (hw _ (List.mem_of_getElem? (i := 20) rfl))) (Or.inr (hw _ (List.mem_of_getElem? (i := 56) rfl))) (by decide) (t := .double) (t' := .double) (by decide) (by decide)))
  have f15_2 : Fld Z h15 pa "com/example/likelihood/likelihood/ranking/BestMatch" "k2" "D" (.double FP.dconst0) := f12_2.other W15 (Or.inr (slot_ne (Or.inr (hw _ (List.mem_of_getElem? (i := 38) rfl))) (Or.inr (hw _ (List.mem_of_getElem? (i := 56) rfl))) (by decide) (t := .double) (t' := .double) (by decide) (by decide)))
  have f15_3 : Fld Z h15 pa "com/example/likelihood/likelihood/ranking/Bm25L" "k1" "D" (.double dk) := f12_3.other W15 (Or.inr (slot_ne (Or.inr (hw _ (List.mem_of_getElem? (i := 43) rfl))) (Or.inr (hw _ (List.mem_of_getElem? (i := 56) rfl))) (by decide) (t := .double) (t' := .double) (by decide) (by decide)))
  have f15_4 : Fld Z h15 pa "com/example/likelihood/likelihood/ranking/Bm25L" "b" "D" (.double db) := f12_4.other W15 (Or.inr (slot_ne (Or.inr (hw _ (List.mem_of_getElem? (i := 53) rfl))) (Or.inr (hw _ (List.mem_of_getElem? (i := 56) rfl))) (by decide) (t := .double) (t' := .double) (by decide) (by decide)))
  have f15_5 : Fld Z h15 pa "com/example/likelihood/likelihood/ranking/Bm25L" "delta" "D" (.double dd) := f12_5.same W15
  have N15 := Fr.snoc X15 N13 g_pa
  have hk15 : k12 ≤ h15.size := Nat.le_trans hk12 (Keep.of_wr W15).1
  have Z15 : n0 ≤ h15.size := Nat.le_trans Z12 (Keep.of_wr W15).1
  have K15 : Keep h0 h15 [pa] := K12.wr W15 (Or.inl (List.mem_of_getElem? (i := 0) rfl))
  obtain ⟨fs, hr, hrun, hended, hRW⟩ := X15.leaveW Sn12 (by rw [e15]; exact hk15) (v := none) (fun _ => rfl)
  refine ⟨_, _, X15.returnOut hx Bd.returns (hb hby own_d_prog_56_method_1_code_36) hr, hPf _ _ ⟨hrun, hended, _, _, rfl, ?_, hRW.1, hRW.2.1, hRW.2.2.1, hRW.2.2.2.mono (by decide) (by decide)⟩⟩
  show own_Q_b25Init Z pa dk db dz dd u3 u2 u1 u0 u4 h0 n0 _ T15.heap _
  rw [e15]
  exact ⟨rfl, N15, K15, f15_0, f15_1, f15_2, f15_3, f15_4, f15_5⟩
theorem own_d_prog_56_method_3_code_0 : decode prog_56_method_3_code 0 = .ok (.iload_n 1, 1) := by decide +kernel
theorem own_d_prog_56_method_3_code_1 : decode prog_56_method_3_code 1 = .ok (.i2d, 1) := by decide +kernel
theorem own_d_prog_56_method_3_code_2 : decode prog_56_method_3_code 2 = .ok (.dconst 1, 1) := by decide +kernel
theorem own_d_prog_56_method_3_code_3 : decode prog_56_method_3_code 3 = .ok (.aload_n 0, 1) := by decide +kernel
theorem own_d_prog_56_method_3_code_4 : decode prog_56_method_3_code 4 = .ok (.getfield 22, 3) := by decide +kernel
theorem own_d_prog_56_method_3_code_7 : decode prog_56_method_3_code 7 = .ok (.dsub, 1) := by decide +kernel
theorem own_d_prog_56_method_3_code_8 : decode prog_56_method_3_code 8 = .ok (.aload_n 0, 1) := by decide +kernel
theorem own_d_prog_56_method_3_code_9 : decode prog_56_method_3_code 9 = .ok (.getfield 22, 3) := by decide +kernel
theorem own_d_prog_56_method_3_code_12 : decode prog_56_method_3_code 12 = .ok (.dload_n 2, 1) := by decide +kernel
theorem own_d_prog_56_method_3_code_13 : decode prog_56_method_3_code 13 = .ok (.dmul, 1) := by decide +kernel
theorem own_d_prog_56_method_3_code_14 : decode prog_56_method_3_code 14 = .ok (.dadd, 1) := by decide +kernel
theorem own_d_prog_56_method_3_code_15 : decode prog_56_method_3_code 15 = .ok (.ddiv, 1) := by decide +kernel
theorem own_d_prog_56_method_3_code_16 : decode prog_56_method_3_code 16 = .ok (.dstore 4, 2) := by decide +kernel
theorem own_d_prog_56_method_3_code_18 : decode prog_56_method_3_code 18 = .ok (.aload_n 0, 1) := by decide +kernel
theorem own_d_prog_56_method_3_code_19 : decode prog_56_method_3_code 19 = .ok (.getfield 15, 3) := by decide +kernel
theorem own_d_prog_56_method_3_code_22 : decode prog_56_method_3_code 22 = .ok (.dconst 1, 1) := by decide +kernel
theorem own_d_prog_56_method_3_code_23 : decode prog_56_method_3_code 23 = .ok (.dadd, 1) := by decide +kernel
theorem own_d_prog_56_method_3_code_24 : decode prog_56_method_3_code 24 = .ok (.dload 4, 2) := by decide +kernel
theorem own_d_prog_56_method_3_code_26 : decode prog_56_method_3_code 26 = .ok (.aload_n 0, 1) := by decide +kernel
theorem own_d_prog_56_method_3_code_27 : decode prog_56_method_3_code 27 = .ok (.getfield 27, 3) := by decide +kernel
theorem own_d_prog_56_method_3_code_30 : decode prog_56_method_3_code 30 = .ok (.dadd, 1) := by decide +kernel
theorem own_d_prog_56_method_3_code_31 : decode prog_56_method_3_code 31 = .ok (.dmul, 1) := by decide +kernel
theorem own_d_prog_56_method_3_code_32 : decode prog_56_method_3_code 32 = .ok (.aload_n 0, 1) := by decide +kernel
theorem own_d_prog_56_method_3_code_33 : decode prog_56_method_3_code 33 = .ok (.getfield 15, 3) := by decide +kernel
theorem own_d_prog_56_method_3_code_36 : decode prog_56_method_3_code 36 = .ok (.dload 4, 2) := by decide +kernel
theorem own_d_prog_56_method_3_code_38 : decode prog_56_method_3_code 38 = .ok (.dadd, 1) := by decide +kernel
theorem own_d_prog_56_method_3_code_39 : decode prog_56_method_3_code 39 = .ok (.aload_n 0, 1) := by decide +kernel
theorem own_d_prog_56_method_3_code_40 : decode prog_56_method_3_code 40 = .ok (.getfield 27, 3) := by decide +kernel
theorem own_d_prog_56_method_3_code_43 : decode prog_56_method_3_code 43 = .ok (.dadd, 1) := by decide +kernel
theorem own_d_prog_56_method_3_code_44 : decode prog_56_method_3_code 44 = .ok (.ddiv, 1) := by decide +kernel
theorem own_d_prog_56_method_3_code_45 : decode prog_56_method_3_code 45 = .ok (.dreturn, 1) := by decide +kernel
theorem own_ef_fw (m : MethodId) (x0 : Addr) (x1 : Int32) (x2 : UInt64) : entryFrame m #[(.ref x0), (.int x1), (.double x2)] 6 = mkF m 0 #[.val (.ref x0), .val (.int x1), .val (.double x2), .second, .unset, .unset] [] := by first | (simp [entryFrame, mkF, argsToLocals, Value.category]; done) | rfl
def own_Q_fw (Z : State) (pa : Addr) (tf : Int32) (dr : UInt64) (dk db dd : UInt64) (K Dl T J S Bn Rn : Nat) (h0 : Heap) (n0 : Nat) (v : Option Value) (h : Heap) (L : List Loc) : Prop := ∃ dw : UInt64, v = some (.double dw) ∧ Jvm.FP.Core.val64 dw = Jvm.FP.Core.roundRatio Jvm.FP.Core.b64 false (own_A K Dl T J) (own_D K Dl T J) 0 ∧ Fr n0 L ∧ h = h0
set_option maxRecDepth 65536 in
set_option maxHeartbeats 40000000 in
theorem own_rm_fw (l : Launch) (Z : State) (a0 : Array Value) (hw : ∀ d ∈ tables_1, d.before a0 Z = true) (ws : List Jvm.Cond) (pa : Addr) (tf : Int32) (dr : UInt64) (dk db dd : UInt64) (K Dl T J S Bn Rn : Nat) (h0 : Heap) (n0 : Nat) (Z0 : n0 ≤ h0.size) (hK : K ≤ 1023) (hDl : Dl ≤ 1023) (hT0 : 1 ≤ T) (hT1 : T ≤ 2147483647) (hJ : J ≤ 15) (hS : S ≤ 3) (hBn : Bn ≤ 1) (hRn : Rn ≤ 1000000) (hX : (2 ^ S - Bn) + Bn * Rn = 2 ^ J * 2 ^ S) (hT : tf.toInt = T) (q_dk : own_U dk (K * 2 ^ 1074)) (q_db : own_U db (Bn * 2 ^ (1074 - S))) (q_dd : own_U dd (Dl * 2 ^ 1074)) (q_dr : own_U dr (Rn * 2 ^ 1074)) (F2 : Fld Z h0 pa "com/example/likelihood/likelihood/ranking/Bm25L" "k1" "D" (.double dk)) (F3 : Fld Z h0 pa "com/example/likelihood/likelihood/ranking/Bm25L" "b" "D" (.double db)) (F4 : Fld Z h0 pa "com/example/likelihood/likelihood/ranking/Bm25L" "delta" "D" (.double dd)) :
    MetFree l (⟨"com/example/likelihood/likelihood/ranking/Bm25L", "frequencyWeight", "(ID)D"⟩ : MethodName) (head1 (Jvm.Cond.code (⟨"com/example/likelihood/likelihood/ranking/Bm25L", "frequencyWeight", "(ID)D"⟩ : MethodName) prog_56_method_3_code 6 (some .double) :: ws) ({ frames := 0, cells := 0, slots := 0, locals := 0 } : Room)) (fun a U => a = #[(.ref pa), (.int tf), (.double dr)] ∧ Z.Warmed39 U.vm ∧ U.heap = h0) (fun _ _ _ _ _ => True) (fun _ U o U' => ∃ v L, o = .returned v ∧ own_Q_fw Z pa tf dr dk db dd K Dl T J S Bn Rn h0 n0 v U'.heap L ∧ FrameEnd U o U' L ({ frames := 0, cells := 0, slots := 0, locals := 0 } : Room).cells ({ frames := 0, cells := 0, slots := 0, locals := 0 } : Room).slots) := by
  refine MetFree.of_bodySF (plainFor_of_name own_pn_com_example_likelihood_likelihood_ranking_Bm25L) hisR ?_
  intro p e s m args below meth c s₁ Bd hml0 hP hKq_
  obtain ⟨rfl, hZ, hh⟩ := hP
  have hx := Bd.exec
  have hby := Bd.bytes
  have hml : c.maxLocals = 6 := hml0
  have hown : s.vm.findClass "com/example/likelihood/likelihood/ranking/Bm25L" = some m.cls := findClass_of_methodNamed Bd.named
  have hnm := (name_of_methodNamed Bd.named Bd.method).1
  have X0 : Stand p l e ({ frames := 0, cells := 0, slots := 0, locals := 0 } : Room) s m #[(.ref pa), (.int tf), (.double dr)] below meth c s₁ [] 0 0 := Stand.of_body Bd
  have e0 : s₁.heap = h0 := by rw [← hh, Bd.state]; rfl
  have N0 := Fr.nil n0
  have pre0 : ∀ t, Steps p.tables e below (s₁.setTop (mkF m 0 #[.val (.ref pa), .val (.int tf), .val (.double dr), .second, .unset, .unset] [])) t → Steps p.tables e below (s₁.setTop (entryFrame m #[(.ref pa), (.int tf), (.double dr)] 6)) t := fun t k => castTop (own_ef_fw m pa tf dr) k
  refine own_go pre0 ?_
  refine own_abs ?_
  intro Pf hPf
  have b1 := own_b1 hDl hJ
  have b2 := own_b2 hK hDl hT1 hJ
  have b3 := own_b1 hK hJ
  have b4 := own_pJ hJ
  have b5 := own_pS hS
  have b6 : 2 ^ J * 2 ^ S ≤ 32768 * 8 := Nat.mul_le_mul b4 b5
  have b7 := Nat.two_pow_pos S
  have b8 : Bn * Rn ≤ 1 * 1000000 := Nat.mul_le_mul hBn hRn
  have hD0 : 0 < own_D K Dl T J := by unfold own_D; omega
  obtain ⟨d1, h_d1⟩ : ∃ z : UInt64, FP.i2d tf = z := ⟨_, rfl⟩
  have q_d1 : own_U d1 (T * 2 ^ (1074 - 0)) := by rw [← h_d1]; exact (own_i2d hT)
  have k1 : ∀ t, Steps p.tables e below (s₁.setTop (mkF m 4 #[.val (.ref pa), .val (.int tf), .val (.double dr), .second, .unset, .unset] [(.ref pa), (.double FP.dconst1), (.double d1)])) t → Steps p.tables e below (s₁.setTop (mkF m 0 #[.val (.ref pa), .val (.int tf), .val (.double dr), .second, .unset, .unset] [])) t := fun t k => by
    refine XS.iloadN X0.here hx rfl (hb hby own_d_prog_56_method_3_code_0) rfl ?_
    show Steps p.tables e below (s₁.setTop (mkF m 1 #[.val (.ref pa), .val (.int tf), .val (.double dr), .second, .unset, .unset] [(.int tf)])) _
    refine XS.i2dS X0.here hx rfl (hb hby own_d_prog_56_method_3_code_1) rfl h_d1 ?_
    show Steps p.tables e below (s₁.setTop (mkF m 2 #[.val (.ref pa), .val (.int tf), .val (.double dr), .second, .unset, .unset] [(.double d1)])) _
    refine XS.dconst1 X0.here hx rfl (hb hby own_d_prog_56_method_3_code_2) rfl ?_
    show Steps p.tables e below (s₁.setTop (mkF m 3 #[.val (.ref pa), .val (.int tf), .val (.double dr), .second, .unset, .unset] [(.double FP.dconst1), (.double d1)])) _
    refine XS.aloadN X0.here hx rfl (hb hby own_d_prog_56_method_3_code_3) rfl rfl ?_
    show Steps p.tables e below (s₁.setTop (mkF m 4 #[.val (.ref pa), .val (.int tf), .val (.double dr), .second, .unset, .unset] [(.ref pa), (.double FP.dconst1), (.double d1)])) _
    exact k
  refine own_go k1 ?_
  clear k1
  obtain ⟨T2, X2, e2, st2⟩ := getF X0 hx hZ hown (host := "") (Or.inl (hw _ (List.mem_of_getElem? (i := 52) rfl))) Via.refl e0 F3 (g := (mkF m 4 #[.val (.ref pa), .val (.int tf), .val (.double dr), .second, .unset, .unset] [(.ref pa), (.double FP.dconst1), (.double d1)])) rfl rfl (hb hby own_d_prog_56_method_3_code_4)
  refine own_go st2 ?_
  obtain ⟨d7, h_d7⟩ : ∃ z : UInt64, FP.dsub FP.dconst1 db = z := ⟨_, rfl⟩
  have q_d7 : own_U d7 ((2 ^ S - Bn) * 2 ^ (1074 - S)) := by rw [← h_d7]; exact (own_sub own_c1 q_db (by omega) (by omega) (by rw [← Nat.add_mul, show Bn + (2 ^ S - Bn) = 2 ^ S by omega, Nat.one_mul, Nat.mul_comm]; exact own_p2 1074 S (by omega)))
  have k3 : ∀ t, Steps p.tables e below (T2.setTop (mkF m 9 #[.val (.ref pa), .val (.int tf), .val (.double dr), .second, .unset, .unset] [(.ref pa), (.double d7), (.double d1)])) t → Steps p.tables e below (T2.setTop (mkF m 7 #[.val (.ref pa), .val (.int tf), .val (.double dr), .second, .unset, .unset] [(.double db), (.double FP.dconst1), (.double d1)])) t := fun t k => by
    refine XS.dsubS X2.here hx rfl (hb hby own_d_prog_56_method_3_code_7) rfl (by rw [h_d7]; exact own_Unn q_d7) h_d7 ?_
    show Steps p.tables e below (T2.setTop (mkF m 8 #[.val (.ref pa), .val (.int tf), .val (.double dr), .second, .unset, .unset] [(.double d7), (.double d1)])) _
    refine XS.aloadN X2.here hx rfl (hb hby own_d_prog_56_method_3_code_8) rfl rfl ?_
    show Steps p.tables e below (T2.setTop (mkF m 9 #[.val (.ref pa), .val (.int tf), .val (.double dr), .second, .unset, .unset] [(.ref pa), (.double d7), (.double d1)])) _
    exact k
  refine own_go k3 ?_
  clear k3
  obtain ⟨T4, X4, e4, st4⟩ := getF X2 hx hZ hown (host := "") (Or.inl (hw _ (List.mem_of_getElem? (i := 52) rfl))) Via.refl e2 F3 (g := (mkF m 9 #[.val (.ref pa), .val (.int tf), .val (.double dr), .second, .unset, .unset] [(.ref pa), (.double d7), (.double d1)])) rfl rfl (hb hby own_d_prog_56_method_3_code_9)
  refine own_go st4 ?_
  obtain ⟨d13, h_d13⟩ : ∃ z : UInt64, FP.dmul db dr = z := ⟨_, rfl⟩
  have q_d13 : own_U d13 ((Bn * Rn) * 2 ^ (1074 - S)) := by rw [← h_d13]; exact (own_mul q_db q_dr (by omega) (by omega) (by rw [own_p2 (2148 - S) 1074 (by omega), show 2148 - S - 1074 = 1074 - S by omega]; ac_rfl))
  obtain ⟨d14, h_d14⟩ : ∃ z : UInt64, FP.dadd d7 d13 = z := ⟨_, rfl⟩
  have q_d14 : own_U d14 ((2 ^ J) * 2 ^ (1074 - 0)) := by rw [← h_d14]; exact (by have q := own_add q_d7 q_d13 (N := 2 ^ J * 2 ^ S) (k := S) (by omega) (by omega) (by rw [← hX, Nat.add_mul]); rw [Nat.mul_assoc, Nat.mul_comm (2 ^ S), ← own_p2 1074 S (by omega)] at q; exact q)
  obtain ⟨d15, h_d15⟩ : ∃ z : UInt64, FP.ddiv d1 d14 = z := ⟨_, rfl⟩
  have q_d15 : own_U d15 (T * 2 ^ (1074 - J)) := by rw [← h_d15]; exact (own_divx q_d1 q_d14 (Nat.mul_pos (Nat.two_pow_pos _) (Nat.two_pow_pos _)) (by omega) (by omega) (by show T * 2 ^ 1074 * 2 ^ J = T * (2 ^ J * 2 ^ 1074); ac_rfl))
  have k5 : ∀ t, Steps p.tables e below (T4.setTop (mkF m 19 #[.val (.ref pa), .val (.int tf), .val (.double dr), .second, .val (.double d15), .second] [(.ref pa)])) t → Steps p.tables e below (T4.setTop (mkF m 12 #[.val (.ref pa), .val (.int tf), .val (.double dr), .second, .unset, .unset] [(.double db), (.double d7), (.double d1)])) t := fun t k => by
    refine XS.dloadN X4.here hx rfl (hb hby own_d_prog_56_method_3_code_12) rfl ?_
    show Steps p.tables e below (T4.setTop (mkF m 13 #[.val (.ref pa), .val (.int tf), .val (.double dr), .second, .unset, .unset] [(.double dr), (.double db), (.double d7), (.double d1)])) _
    refine XS.dmulS X4.here hx rfl (hb hby own_d_prog_56_method_3_code_13) rfl (by rw [h_d13]; exact own_Unn q_d13) h_d13 ?_
    show Steps p.tables e below (T4.setTop (mkF m 14 #[.val (.ref pa), .val (.int tf), .val (.double dr), .second, .unset, .unset] [(.double d13), (.double d7), (.double d1)])) _
    refine XS.daddS X4.here hx rfl (hb hby own_d_prog_56_method_3_code_14) rfl (by rw [h_d14]; exact own_Unn q_d14) h_d14 ?_
    show Steps p.tables e below (T4.setTop (mkF m 15 #[.val (.ref pa), .val (.int tf), .val (.double dr), .second, .unset, .unset] [(.double d14), (.double d1)])) _
    refine XS.ddivS X4.here hx rfl (hb hby own_d_prog_56_method_3_code_15) rfl (by rw [h_d15]; exact own_Unn q_d15) h_d15 ?_
    show Steps p.tables e below (T4.setTop (mkF m 16 #[.val (.ref pa), .val (.int tf), .val (.double dr), .second, .unset, .unset] [(.double d15)])) _
    refine XS.dstore X4.here hx rfl (hb hby own_d_prog_56_method_3_code_16) rfl (l' := #[.val (.ref pa), .val (.int tf), .val (.double dr), .second, .val (.double d15), .second]) rfl ?_
    show Steps p.tables e below (T4.setTop (mkF m 18 #[.val (.ref pa), .val (.int tf), .val (.double dr), .second, .val (.double d15), .second] [])) _
    refine XS.aloadN X4.here hx rfl (hb hby own_d_prog_56_method_3_code_18) rfl rfl ?_
    show Steps p.tables e below (T4.setTop (mkF m 19 #[.val (.ref pa), .val (.int tf), .val (.double dr), .second, .val (.double d15), .second] [(.ref pa)])) _
    exact k
  refine own_go k5 ?_
  clear k5
  obtain ⟨T6, X6, e6, st6⟩ := getF X4 hx hZ hown (host := "") (Or.inl (hw _ (List.mem_of_getElem? (i := 42) rfl))) Via.refl e4 F2 (g := (mkF m 19 #[.val (.ref pa), .val (.int tf), .val (.double dr), .second, .val (.double d15), .second] [(.ref pa)])) rfl rfl (hb hby own_d_prog_56_method_3_code_19)
  refine own_go st6 ?_
  obtain ⟨d23, h_d23⟩ : ∃ z : UInt64, FP.dadd dk FP.dconst1 = z := ⟨_, rfl⟩
  have q_d23 : own_U d23 ((K + 1) * 2 ^ (1074 - 0)) := by rw [← h_d23]; exact (own_add q_dk own_c1 (by omega) (by decide) (Nat.add_mul _ _ _).symm)
  have k7 : ∀ t, Steps p.tables e below (T6.setTop (mkF m 27 #[.val (.ref pa), .val (.int tf), .val (.double dr), .second, .val (.double d15), .second] [(.ref pa), (.double d15), (.double d23)])) t → Steps p.tables e below (T6.setTop (mkF m 22 #[.val (.ref pa), .val (.int tf), .val (.double dr), .second, .val (.double d15), .second] [(.double dk)])) t := fun t k => by
    refine XS.dconst1 X6.here hx rfl (hb hby own_d_prog_56_method_3_code_22) rfl ?_
    show Steps p.tables e below (T6.setTop (mkF m 23 #[.val (.ref pa), .val (.int tf), .val (.double dr), .second, .val (.double d15), .second] [(.double FP.dconst1), (.double dk)])) _
    refine XS.daddS X6.here hx rfl (hb hby own_d_prog_56_method_3_code_23) rfl (by rw [h_d23]; exact own_Unn q_d23) h_d23 ?_
    show Steps p.tables e below (T6.setTop (mkF m 24 #[.val (.ref pa), .val (.int tf), .val (.double dr), .second, .val (.double d15), .second] [(.double d23)])) _
    refine XS.dload X6.here hx rfl (hb hby own_d_prog_56_method_3_code_24) rfl ?_
    show Steps p.tables e below (T6.setTop (mkF m 26 #[.val (.ref pa), .val (.int tf), .val (.double dr), .second, .val (.double d15), .second] [(.double d15), (.double d23)])) _
    refine XS.aloadN X6.here hx rfl (hb hby own_d_prog_56_method_3_code_26) rfl rfl ?_
    show Steps p.tables e below (T6.setTop (mkF m 27 #[.val (.ref pa), .val (.int tf), .val (.double dr), .second, .val (.double d15), .second] [(.ref pa), (.double d15), (.double d23)])) _
    exact k
  refine own_go k7 ?_
  clear k7
  obtain ⟨T8, X8, e8, st8⟩ := getF X6 hx hZ hown (host := "") (Or.inl (hw _ (List.mem_of_getElem? (i := 55) rfl))) Via.refl e6 F4 (g := (mkF m 27 #[.val (.ref pa), .val (.int tf), .val (.double dr), .second, .val (.double d15), .second] [(.ref pa), (.double d15), (.double d23)])) rfl rfl (hb hby own_d_prog_56_method_3_code_27)
  refine own_go st8 ?_
  obtain ⟨d30, h_d30⟩ : ∃ z : UInt64, FP.dadd d15 dd = z := ⟨_, rfl⟩
  have q_d30 : own_U d30 ((own_N Dl T J) * 2 ^ (1074 - J)) := by rw [← h_d30]; exact (own_add q_d15 q_dd (by unfold own_N; omega) (by omega) (by show T * 2 ^ (1074 - J) + Dl * 2 ^ 1074 = (T + Dl * 2 ^ J) * 2 ^ (1074 - J); rw [Nat.add_mul, own_p2 1074 J (by omega)]; ac_rfl))
  obtain ⟨d31, h_d31⟩ : ∃ z : UInt64, FP.dmul d23 d30 = z := ⟨_, rfl⟩
  have q_d31 : own_U d31 ((own_A K Dl T J) * 2 ^ (1074 - J)) := by rw [← h_d31]; exact (own_mul q_d23 q_d30 (by omega) (by omega) (by show (K + 1) * 2 ^ 1074 * (own_N Dl T J * 2 ^ (1074 - J)) = (K + 1) * own_N Dl T J * 2 ^ (2148 - J); rw [own_p2 (2148 - J) 1074 (by omega), show 2148 - J - 1074 = 1074 - J by omega]; ac_rfl))
  have k9 : ∀ t, Steps p.tables e below (T8.setTop (mkF m 33 #[.val (.ref pa), .val (.int tf), .val (.double dr), .second, .val (.double d15), .second] [(.ref pa), (.double d31)])) t → Steps p.tables e below (T8.setTop (mkF m 30 #[.val (.ref pa), .val (.int tf), .val (.double dr), .second, .val (.double d15), .second] [(.double dd), (.double d15), (.double d23)])) t := fun t k => by
    refine XS.daddS X8.here hx rfl (hb hby own_d_prog_56_method_3_code_30) rfl (by rw [h_d30]; exact own_Unn q_d30) h_d30 ?_
    show Steps p.tables e below (T8.setTop (mkF m 31 #[.val (.ref pa), .val (.int tf), .val (.double dr), .second, .val (.double d15), .second] [(.double d30), (.double d23)])) _
    refine XS.dmulS X8.here hx rfl (hb hby own_d_prog_56_method_3_code_31) rfl (by rw [h_d31]; exact own_Unn q_d31) h_d31 ?_
    show Steps p.tables e below (T8.setTop (mkF m 32 #[.val (.ref pa), .val (.int tf), .val (.double dr), .second, .val (.double d15), .second] [(.double d31)])) _
    refine XS.aloadN X8.here hx rfl (hb hby own_d_prog_56_method_3_code_32) rfl rfl ?_
    show Steps p.tables e below (T8.setTop (mkF m 33 #[.val (.ref pa), .val (.int tf), .val (.double dr), .second, .val (.double d15), .second] [(.ref pa), (.double d31)])) _
    exact k
  refine own_go k9 ?_
  clear k9
  obtain ⟨T10, X10, e10, st10⟩ := getF X8 hx hZ hown (host := "") (Or.inl (hw _ (List.mem_of_getElem? (i := 42) rfl))) Via.refl e8 F2 (g := (mkF m 33 #[.val (.ref pa), .val (.int tf), .val (.double dr), .second, .val (.double d15), .second] [(.ref pa), (.double d31)])) rfl rfl (hb hby own_d_prog_56_method_3_code_33)
  refine own_go st10 ?_
  obtain ⟨d38, h_d38⟩ : ∃ z : UInt64, FP.dadd dk d15 = z := ⟨_, rfl⟩
  have q_d38 : own_U d38 ((K * 2 ^ J + T) * 2 ^ (1074 - J)) := by rw [← h_d38]; exact (own_add q_dk q_d15 (by omega) (by omega) (by show K * 2 ^ 1074 + T * 2 ^ (1074 - J) = (K * 2 ^ J + T) * 2 ^ (1074 - J); rw [Nat.add_mul, own_p2 1074 J (by omega)]; ac_rfl))
  have k11 : ∀ t, Steps p.tables e below (T10.setTop (mkF m 40 #[.val (.ref pa), .val (.int tf), .val (.double dr), .second, .val (.double d15), .second] [(.ref pa), (.double d38), (.double d31)])) t → Steps p.tables e below (T10.setTop (mkF m 36 #[.val (.ref pa), .val (.int tf), .val (.double dr), .second, .val (.double d15), .second] [(.double dk), (.double d31)])) t := fun t k => by
    refine XS.dload X10.here hx rfl (hb hby own_d_prog_56_method_3_code_36) rfl ?_
    show Steps p.tables e below (T10.setTop (mkF m 38 #[.val (.ref pa), .val (.int tf), .val (.double dr), .second, .val (.double d15), .second] [(.double d15), (.double dk), (.double d31)])) _
    refine XS.daddS X10.here hx rfl (hb hby own_d_prog_56_method_3_code_38) rfl (by rw [h_d38]; exact own_Unn q_d38) h_d38 ?_
    show Steps p.tables e below (T10.setTop (mkF m 39 #[.val (.ref pa), .val (.int tf), .val (.double dr), .second, .val (.double d15), .second] [(.double d38), (.double d31)])) _
    refine XS.aloadN X10.here hx rfl (hb hby own_d_prog_56_method_3_code_39) rfl rfl ?_
    show Steps p.tables e below (T10.setTop (mkF m 40 #[.val (.ref pa), .val (.int tf), .val (.double dr), .second, .val (.double d15), .second] [(.ref pa), (.double d38), (.double d31)])) _
    exact k
  refine own_go k11 ?_
  clear k11
  obtain ⟨T12, X12, e12, st12⟩ := getF X10 hx hZ hown (host := "") (Or.inl (hw _ (List.mem_of_getElem? (i := 55) rfl))) Via.refl e10 F4 (g := (mkF m 40 #[.val (.ref pa), .val (.int tf), .val (.double dr), .second, .val (.double d15), .second] [(.ref pa), (.double d38), (.double d31)])) rfl rfl (hb hby own_d_prog_56_method_3_code_40)
  refine own_go st12 ?_
  obtain ⟨d43, h_d43⟩ : ∃ z : UInt64, FP.dadd d38 dd = z := ⟨_, rfl⟩
  have q_d43 : own_U d43 ((own_D K Dl T J) * 2 ^ (1074 - J)) := by rw [← h_d43]; exact (own_add q_d38 q_dd (by unfold own_D; omega) (by omega) (by show (K * 2 ^ J + T) * 2 ^ (1074 - J) + Dl * 2 ^ 1074 = ((K * 2 ^ J + T) + Dl * 2 ^ J) * 2 ^ (1074 - J); rw [Nat.add_mul _ (Dl * 2 ^ J), own_p2 1074 J (by omega)]; ac_rfl))
  obtain ⟨dw, h_dw⟩ : ∃ z : UInt64, FP.ddiv d31 d43 = z := ⟨_, rfl⟩
  have q_dw : Jvm.FP.Core.val64 dw = Jvm.FP.Core.roundRatio Jvm.FP.Core.b64 false (own_A K Dl T J) (own_D K Dl T J) 0 := by rw [← h_dw]; exact own_div q_d31 q_d43 (Nat.mul_pos hD0 (Nat.two_pow_pos _)) hD0 (by ac_rfl)
  have k13 : ∀ t, Steps p.tables e below (T12.setTop (mkF m 45 #[.val (.ref pa), .val (.int tf), .val (.double dr), .second, .val (.double d15), .second] [(.double dw)])) t → Steps p.tables e below (T12.setTop (mkF m 43 #[.val (.ref pa), .val (.int tf), .val (.double dr), .second, .val (.double d15), .second] [(.double dd), (.double d38), (.double d31)])) t := fun t k => by
    refine XS.daddS X12.here hx rfl (hb hby own_d_prog_56_method_3_code_43) rfl (by rw [h_d43]; exact own_Unn q_d43) h_d43 ?_
    show Steps p.tables e below (T12.setTop (mkF m 44 #[.val (.ref pa), .val (.int tf), .val (.double dr), .second, .val (.double d15), .second] [(.double d43), (.double d31)])) _
    refine XS.ddivS X12.here hx rfl (hb hby own_d_prog_56_method_3_code_44) rfl (by rw [h_dw]; exact own_qnn q_dw) h_dw ?_
    show Steps p.tables e below (T12.setTop (mkF m 45 #[.val (.ref pa), .val (.int tf), .val (.double dr), .second, .val (.double d15), .second] [(.double dw)])) _
    exact k
  refine own_go k13 ?_
  clear k13
  obtain ⟨fs, hr, hrun, hended, hW, hsame⟩ := X12.leave (v := some (.double dw)) (fun h => by rw [Bd.returns] at h; cases h)
  refine ⟨_, _, retOut X12 hx Bd.returns rfl (Or.inr (Or.inr (Or.inl ⟨rfl, rfl, _, rfl⟩))) (hb hby own_d_prog_56_method_3_code_45) hr, hPf _ _ ⟨hrun, hended, _, _, rfl, ?_, ⟨_, rfl⟩, hW, hsame.mono (by decide) (by decide)⟩⟩
  show own_Q_fw Z pa tf dr dk db dd K Dl T J S Bn Rn h0 n0 _ T12.heap _
  rw [e12]
  exact ⟨dw, rfl, q_dw, N0, rfl⟩
theorem own_msk (x m : Int32) (h : 0 ≤ m.toInt) : 0 ≤ (x &&& m).toInt ∧ (x &&& m).toInt ≤ m.toInt := c_and x m h
theorem own_mskN (x m : Int32) (N : Nat) (h : m.toInt = (N : Int)) : ∃ n : Nat, (x &&& m).toInt = n ∧ n ≤ N := by have c := own_msk x m (by omega); exact ⟨(x &&& m).toInt.toNat, (Int.toNat_of_nonneg c.1).symm, by omega⟩
theorem own_pd_28II29I : parseMethodDescriptor "(II)I" = some ⟨[.int, .int], some .int⟩ := by decide +kernel
theorem own_pd_28DDDD29V : parseMethodDescriptor "(DDDD)V" = some ⟨[.double, .double, .double, .double], none⟩ := by decide +kernel
theorem own_pd_28ID29D : parseMethodDescriptor "(ID)D" = some ⟨[.int, .double], some .double⟩ := by decide +kernel
theorem own_ef_law (m : MethodId) (x0 : Int32) (x1 : Int32) (x2 : Int32) (x3 : Int32) : entryFrame m #[(.int x0), (.int x1), (.int x2), (.int x3)] maxLocals = mkF m 0 #[.val (.int x0), .val (.int x1), .val (.int x2), .val (.int x3), .unset, .unset, .unset, .unset, .unset, .unset, .unset, .unset, .unset, .unset, .unset, .unset, .unset, .unset, .unset, .unset, .unset, .unset, .unset, .unset, .unset, .unset] [] := by first | (simp [entryFrame, mkF, argsToLocals, Value.category, maxLocals]; done) | rfl
def own_Q_law (Z : State) (p0 : Int32) (p1 : Int32) (p2 : Int32) (p3 : Int32)  (h0 : Heap) (n0 : Nat) (v : Option Value) (h : Heap) (L : List Loc) : Prop := v = some (.int 1) ∧ Fr n0 L
theorem own_pn_com_example_likelihood_likelihood_ranking_Bm25LFrequencyWeightPinLaw : plainName "com/example/likelihood/likelihood/ranking/Bm25LFrequencyWeightPinLaw" = true := by first | (simp [plainName, overriddenIn]; done) | decide +kernel
set_option maxRecDepth 65536 in
set_option maxHeartbeats 40000000 in
theorem own_rm_law (l : Launch) (Z : State) (a0 : Array Value) (hw : ∀ d ∈ tables_1, d.before a0 Z = true) (ws : List Jvm.Cond) (p0 : Int32) (p1 : Int32) (p2 : Int32) (p3 : Int32)  (h0 : Heap) (n0 : Nat) (Z0 : n0 ≤ h0.size) :
    MetFree l x (head1 (Jvm.Cond.code x code maxLocals ret :: ws) room_1) (fun a U => a = #[(.int p0), (.int p1), (.int p2), (.int p3)] ∧ Z.Warmed39 U.vm ∧ U.heap = h0) (fun _ _ _ _ _ => True) (fun _ U o U' => ∃ v L, o = .returned v ∧ own_Q_law Z p0 p1 p2 p3 h0 n0 v U'.heap L ∧ ReturnedEndW U o U' L room_1.cells room_1.slots) := by
  refine MetFree.of_bodySF (plainFor_of_name own_pn_com_example_likelihood_likelihood_ranking_Bm25LFrequencyWeightPinLaw) hisR ?_
  intro p e s m args below meth c s₁ Bd hml0 hP hKq_
  obtain ⟨rfl, hZ, hh⟩ := hP
  have hx := Bd.exec
  have hby := Bd.bytes
  have hml : c.maxLocals = 26 := hml0
  have hown : s.vm.findClass "com/example/likelihood/likelihood/ranking/Bm25LFrequencyWeightPinLaw" = some m.cls := findClass_of_methodNamed Bd.named
  have hnm := (name_of_methodNamed Bd.named Bd.method).1
  have X0 : Stand p l e room_1 (s.setVm s.vm) m #[(.int p0), (.int p1), (.int p2), (.int p3)] below meth c s₁ [] 0 0 := Stand.of_body Bd
  have e0 : s₁.heap = h0 := by rw [← hh, Bd.state]; rfl
  have N0 := Fr.nil n0
  have pre0 : ∀ t, Steps p.tables e below (s₁.setTop (mkF m 0 #[.val (.int p0), .val (.int p1), .val (.int p2), .val (.int p3), .unset, .unset, .unset, .unset, .unset, .unset, .unset, .unset, .unset, .unset, .unset, .unset, .unset, .unset, .unset, .unset, .unset, .unset, .unset, .unset, .unset, .unset] [])) t → Steps p.tables e below (s₁.setTop (entryFrame m #[(.int p0), (.int p1), (.int p2), (.int p3)] maxLocals)) t := fun t k => castTop (own_ef_law m p0 p1 p2 p3) k
  refine own_go pre0 ?_
  refine own_abs ?_
  intro Pf hPf
  have hZ : Z.Warmed39 (s.setVm s.vm).vm := hZ
  have hown : (s.setVm s.vm).vm.findClass "com/example/likelihood/likelihood/ranking/Bm25LFrequencyWeightPinLaw" = some m.cls := hown
  have Sn0 : s.Since s.vm 0 := (State.WarmedH.refl s).since 0
  have hk0 : 0 ≤ h0.size := Nat.zero_le _
  have k2 : ∀ t, Steps p.tables e below (s₁.setTop (mkF m 5 #[.val (.int p0), .val (.int p1), .val (.int p2), .val (.int p3), .unset, .unset, .unset, .unset, .unset, .unset, .unset, .unset, .unset, .unset, .unset, .unset, .unset, .unset, .unset, .unset, .unset, .unset, .unset, .unset, .unset, .unset] [(.int (p0 &&& (2147483647 : Int32))), (.int (1 : Int32))])) t → Steps p.tables e below (s₁.setTop (mkF m 0 #[.val (.int p0), .val (.int p1), .val (.int p2), .val (.int p3), .unset, .unset, .unset, .unset, .unset, .unset, .unset, .unset, .unset, .unset, .unset, .unset, .unset, .unset, .unset, .unset, .unset, .unset, .unset, .unset, .unset, .unset] [])) t := fun t k => by
    refine XS.iconst X0.here hx rfl (hb hby at_0) ?_
    show Steps p.tables e below (s₁.setTop (mkF m 1 #[.val (.int p0), .val (.int p1), .val (.int p2), .val (.int p3), .unset, .unset, .unset, .unset, .unset, .unset, .unset, .unset, .unset, .unset, .unset, .unset, .unset, .unset, .unset, .unset, .unset, .unset, .unset, .unset, .unset, .unset] [(.int (1 : Int32))])) _
    refine XS.iloadN X0.here hx rfl (hb hby at_1) rfl ?_
    show Steps p.tables e below (s₁.setTop (mkF m 2 #[.val (.int p0), .val (.int p1), .val (.int p2), .val (.int p3), .unset, .unset, .unset, .unset, .unset, .unset, .unset, .unset, .unset, .unset, .unset, .unset, .unset, .unset, .unset, .unset, .unset, .unset, .unset, .unset, .unset, .unset] [(.int p0), (.int (1 : Int32))])) _
    refine X0.ldcInt hx hown (mvT hZ (hw _ (List.mem_of_getElem? (i := 0) rfl))) (g := (mkF m 2 #[.val (.int p0), .val (.int p1), .val (.int p2), .val (.int p3), .unset, .unset, .unset, .unset, .unset, .unset, .unset, .unset, .unset, .unset, .unset, .unset, .unset, .unset, .unset, .unset, .unset, .unset, .unset, .unset, .unset, .unset] [(.int p0), (.int (1 : Int32))])) rfl (hb hby at_2) _ ?_
    show Steps p.tables e below (s₁.setTop (mkF m 4 #[.val (.int p0), .val (.int p1), .val (.int p2), .val (.int p3), .unset, .unset, .unset, .unset, .unset, .unset, .unset, .unset, .unset, .unset, .unset, .unset, .unset, .unset, .unset, .unset, .unset, .unset, .unset, .unset, .unset, .unset] [(.int (2147483647 : Int32)), (.int p0), (.int (1 : Int32))])) _
    refine XS.iand X0.here hx rfl (hb hby at_4) rfl ?_
    show Steps p.tables e below (s₁.setTop (mkF m 5 #[.val (.int p0), .val (.int p1), .val (.int p2), .val (.int p3), .unset, .unset, .unset, .unset, .unset, .unset, .unset, .unset, .unset, .unset, .unset, .unset, .unset, .unset, .unset, .unset, .unset, .unset, .unset, .unset, .unset, .unset] [(.int (p0 &&& (2147483647 : Int32))), (.int (1 : Int32))])) _
    exact k
  refine own_go k2 ?_
  clear k2
  obtain ⟨_, _, ⟨T1, L1, k1, n1⟩, -, X1, ⟨Lc1, hQ1, l1, y1, z1⟩, st1⟩ := Jvm.LawKit.callS X0 hx (y := (⟨"java/lang/Math", "max", "(II)I"⟩ : MethodName)) hown (mvT hZ (hw _ (List.mem_of_getElem? (i := 1) rfl))) (mvT hZ (hw _ (List.mem_of_getElem? (i := 2) rfl))) (mvT hZ (hw _ (List.mem_of_getElem? (i := 3) rfl))) (mvT hZ (hw _ (List.mem_of_getElem? (i := 4) rfl))) (by decide) (backOf (W := 0) (own_rm_max l Z a0 hw [] (1 : Int32) (p0 &&& (2147483647 : Int32)) h0 n0 Z0 ) hZ (hw _ (List.mem_of_getElem? (i := 4) rfl)) (hw _ (List.mem_of_getElem? (i := 3) rfl)) (by decide) (by decide)) (g := (mkF m 5 #[.val (.int p0), .val (.int p1), .val (.int p2), .val (.int p3), .unset, .unset, .unset, .unset, .unset, .unset, .unset, .unset, .unset, .unset, .unset, .unset, .unset, .unset, .unset, .unset, .unset, .unset, .unset, .unset, .unset, .unset] [(.int (p0 &&& (2147483647 : Int32))), (.int (1 : Int32))])) rfl (by rw [hml]; rfl) (argsL := [(.int (1 : Int32)), (.int (p0 &&& (2147483647 : Int32)))]) (rest := []) (lenOf own_pd_28II29I rfl) rfl (by show 2 * 0 + _ ≤ _; exact Nat.le_of_eq rfl) (hb hby at_5) (fun _ _ => ⟨rfl, e0, (by decide : 0 + 0 ≤ _), (by decide : 0 + 0 ≤ _)⟩)
  dsimp only [Pt.U, Pt.locs, Pt.cells, Pt.slots] at X1 l1 y1 z1 st1 hQ1
  subst l1 y1 z1
  obtain ⟨rfl, N1q, eh1⟩ := hQ1
  have N1 := Fr.app N0 N1q
  refine own_go st1 ?_
  have k3 : ∀ t, Steps p.tables e below (T1.setTop (mkF m 54 #[.val (.int p0), .val (.int p1), .val (.int p2), .val (.int p3), .val (.long (own_max (1 : Int32) (p0 &&& (2147483647 : Int32))).toInt64), .second, .val (.int (p1 &&& (1023 : Int32))), .val (.int (((p1.toUInt32 >>> ((10 : Int32) &&& 31).toUInt32).toInt32) &&& (1023 : Int32))), .val (.int (((p1.toUInt32 >>> ((20 : Int32) &&& 31).toUInt32).toInt32) &&& (7 : Int32))), .val (.int ((p2 &&& (2147483647 : Int32)) % (5 : Int32))), .val (.int (((p2.toUInt32 >>> ((8 : Int32) &&& 31).toUInt32).toInt32) &&& (15 : Int32))), .unset, .unset, .unset, .unset, .unset, .unset, .unset, .unset, .unset, .unset, .unset, .unset, .unset, .unset, .unset] [])) t → Steps p.tables e below (T1.setTop (mkF m 8 #[.val (.int p0), .val (.int p1), .val (.int p2), .val (.int p3), .unset, .unset, .unset, .unset, .unset, .unset, .unset, .unset, .unset, .unset, .unset, .unset, .unset, .unset, .unset, .unset, .unset, .unset, .unset, .unset, .unset, .unset] [(.int (own_max (1 : Int32) (p0 &&& (2147483647 : Int32))))])) t := fun t k => by
    refine XS.i2l X1.here hx rfl (hb hby at_8) rfl ?_
    show Steps p.tables e below (T1.setTop (mkF m 9 #[.val (.int p0), .val (.int p1), .val (.int p2), .val (.int p3), .unset, .unset, .unset, .unset, .unset, .unset, .unset, .unset, .unset, .unset, .unset, .unset, .unset, .unset, .unset, .unset, .unset, .unset, .unset, .unset, .unset, .unset] [(.long (own_max (1 : Int32) (p0 &&& (2147483647 : Int32))).toInt64)])) _
    refine XS.lstore X1.here hx rfl (hb hby at_9) rfl (l' := #[.val (.int p0), .val (.int p1), .val (.int p2), .val (.int p3), .val (.long (own_max (1 : Int32) (p0 &&& (2147483647 : Int32))).toInt64), .second, .unset, .unset, .unset, .unset, .unset, .unset, .unset, .unset, .unset, .unset, .unset, .unset, .unset, .unset, .unset, .unset, .unset, .unset, .unset, .unset]) rfl ?_
    show Steps p.tables e below (T1.setTop (mkF m 11 #[.val (.int p0), .val (.int p1), .val (.int p2), .val (.int p3), .val (.long (own_max (1 : Int32) (p0 &&& (2147483647 : Int32))).toInt64), .second, .unset, .unset, .unset, .unset, .unset, .unset, .unset, .unset, .unset, .unset, .unset, .unset, .unset, .unset, .unset, .unset, .unset, .unset, .unset, .unset] [])) _
    refine XS.iloadN X1.here hx rfl (hb hby at_11) rfl ?_
    show Steps p.tables e below (T1.setTop (mkF m 12 #[.val (.int p0), .val (.int p1), .val (.int p2), .val (.int p3), .val (.long (own_max (1 : Int32) (p0 &&& (2147483647 : Int32))).toInt64), .second, .unset, .unset, .unset, .unset, .unset, .unset, .unset, .unset, .unset, .unset, .unset, .unset, .unset, .unset, .unset, .unset, .unset, .unset, .unset, .unset] [(.int p1)])) _
    refine XS.sipush X1.here hx rfl (hb hby at_12) ?_
    show Steps p.tables e below (T1.setTop (mkF m 15 #[.val (.int p0), .val (.int p1), .val (.int p2), .val (.int p3), .val (.long (own_max (1 : Int32) (p0 &&& (2147483647 : Int32))).toInt64), .second, .unset, .unset, .unset, .unset, .unset, .unset, .unset, .unset, .unset, .unset, .unset, .unset, .unset, .unset, .unset, .unset, .unset, .unset, .unset, .unset] [(.int (1023 : Int32)), (.int p1)])) _
    refine XS.iand X1.here hx rfl (hb hby at_15) rfl ?_
    show Steps p.tables e below (T1.setTop (mkF m 16 #[.val (.int p0), .val (.int p1), .val (.int p2), .val (.int p3), .val (.long (own_max (1 : Int32) (p0 &&& (2147483647 : Int32))).toInt64), .second, .unset, .unset, .unset, .unset, .unset, .unset, .unset, .unset, .unset, .unset, .unset, .unset, .unset, .unset, .unset, .unset, .unset, .unset, .unset, .unset] [(.int (p1 &&& (1023 : Int32)))])) _
    refine XS.istore X1.here hx rfl (hb hby at_16) rfl (l' := #[.val (.int p0), .val (.int p1), .val (.int p2), .val (.int p3), .val (.long (own_max (1 : Int32) (p0 &&& (2147483647 : Int32))).toInt64), .second, .val (.int (p1 &&& (1023 : Int32))), .unset, .unset, .unset, .unset, .unset, .unset, .unset, .unset, .unset, .unset, .unset, .unset, .unset, .unset, .unset, .unset, .unset, .unset, .unset]) rfl ?_
    show Steps p.tables e below (T1.setTop (mkF m 18 #[.val (.int p0), .val (.int p1), .val (.int p2), .val (.int p3), .val (.long (own_max (1 : Int32) (p0 &&& (2147483647 : Int32))).toInt64), .second, .val (.int (p1 &&& (1023 : Int32))), .unset, .unset, .unset, .unset, .unset, .unset, .unset, .unset, .unset, .unset, .unset, .unset, .unset, .unset, .unset, .unset, .unset, .unset, .unset] [])) _
    refine XS.iloadN X1.here hx rfl (hb hby at_18) rfl ?_
    show Steps p.tables e below (T1.setTop (mkF m 19 #[.val (.int p0), .val (.int p1), .val (.int p2), .val (.int p3), .val (.long (own_max (1 : Int32) (p0 &&& (2147483647 : Int32))).toInt64), .second, .val (.int (p1 &&& (1023 : Int32))), .unset, .unset, .unset, .unset, .unset, .unset, .unset, .unset, .unset, .unset, .unset, .unset, .unset, .unset, .unset, .unset, .unset, .unset, .unset] [(.int p1)])) _
    refine XS.bipush X1.here hx rfl (hb hby at_19) ?_
    show Steps p.tables e below (T1.setTop (mkF m 21 #[.val (.int p0), .val (.int p1), .val (.int p2), .val (.int p3), .val (.long (own_max (1 : Int32) (p0 &&& (2147483647 : Int32))).toInt64), .second, .val (.int (p1 &&& (1023 : Int32))), .unset, .unset, .unset, .unset, .unset, .unset, .unset, .unset, .unset, .unset, .unset, .unset, .unset, .unset, .unset, .unset, .unset, .unset, .unset] [(.int (10 : Int32)), (.int p1)])) _
    refine XS.iushr X1.here hx rfl (hb hby at_21) rfl ?_
    show Steps p.tables e below (T1.setTop (mkF m 22 #[.val (.int p0), .val (.int p1), .val (.int p2), .val (.int p3), .val (.long (own_max (1 : Int32) (p0 &&& (2147483647 : Int32))).toInt64), .second, .val (.int (p1 &&& (1023 : Int32))), .unset, .unset, .unset, .unset, .unset, .unset, .unset, .unset, .unset, .unset, .unset, .unset, .unset, .unset, .unset, .unset, .unset, .unset, .unset] [(.int ((p1.toUInt32 >>> ((10 : Int32) &&& 31).toUInt32).toInt32))])) _
    refine XS.sipush X1.here hx rfl (hb hby at_22) ?_
    show Steps p.tables e below (T1.setTop (mkF m 25 #[.val (.int p0), .val (.int p1), .val (.int p2), .val (.int p3), .val (.long (own_max (1 : Int32) (p0 &&& (2147483647 : Int32))).toInt64), .second, .val (.int (p1 &&& (1023 : Int32))), .unset, .unset, .unset, .unset, .unset, .unset, .unset, .unset, .unset, .unset, .unset, .unset, .unset, .unset, .unset, .unset, .unset, .unset, .unset] [(.int (1023 : Int32)), (.int ((p1.toUInt32 >>> ((10 : Int32) &&& 31).toUInt32).toInt32))])) _
    refine XS.iand X1.here hx rfl (hb hby at_25) rfl ?_
    show Steps p.tables e below (T1.setTop (mkF m 26 #[.val (.int p0), .val (.int p1), .val (.int p2), .val (.int p3), .val (.long (own_max (1 : Int32) (p0 &&& (2147483647 : Int32))).toInt64), .second, .val (.int (p1 &&& (1023 : Int32))), .unset, .unset, .unset, .unset, .unset, .unset, .unset, .unset, .unset, .unset, .unset, .unset, .unset, .unset, .unset, .unset, .unset, .unset, .unset] [(.int (((p1.toUInt32 >>> ((10 : Int32) &&& 31).toUInt32).toInt32) &&& (1023 : Int32)))])) _
    refine XS.istore X1.here hx rfl (hb hby at_26) rfl (l' := #[.val (.int p0), .val (.int p1), .val (.int p2), .val (.int p3), .val (.long (own_max (1 : Int32) (p0 &&& (2147483647 : Int32))).toInt64), .second, .val (.int (p1 &&& (1023 : Int32))), .val (.int (((p1.toUInt32 >>> ((10 : Int32) &&& 31).toUInt32).toInt32) &&& (1023 : Int32))), .unset, .unset, .unset, .unset, .unset, .unset, .unset, .unset, .unset, .unset, .unset, .unset, .unset, .unset, .unset, .unset, .unset, .unset]) rfl ?_
    show Steps p.tables e below (T1.setTop (mkF m 28 #[.val (.int p0), .val (.int p1), .val (.int p2), .val (.int p3), .val (.long (own_max (1 : Int32) (p0 &&& (2147483647 : Int32))).toInt64), .second, .val (.int (p1 &&& (1023 : Int32))), .val (.int (((p1.toUInt32 >>> ((10 : Int32) &&& 31).toUInt32).toInt32) &&& (1023 : Int32))), .unset, .unset, .unset, .unset, .unset, .unset, .unset, .unset, .unset, .unset, .unset, .unset, .unset, .unset, .unset, .unset, .unset, .unset] [])) _
    refine XS.iloadN X1.here hx rfl (hb hby at_28) rfl ?_
    show Steps p.tables e below (T1.setTop (mkF m 29 #[.val (.int p0), .val (.int p1), .val (.int p2), .val (.int p3), .val (.long (own_max (1 : Int32) (p0 &&& (2147483647 : Int32))).toInt64), .second, .val (.int (p1 &&& (1023 : Int32))), .val (.int (((p1.toUInt32 >>> ((10 : Int32) &&& 31).toUInt32).toInt32) &&& (1023 : Int32))), .unset, .unset, .unset, .unset, .unset, .unset, .unset, .unset, .unset, .unset, .unset, .unset, .unset, .unset, .unset, .unset, .unset, .unset] [(.int p1)])) _
    refine XS.bipush X1.here hx rfl (hb hby at_29) ?_
    show Steps p.tables e below (T1.setTop (mkF m 31 #[.val (.int p0), .val (.int p1), .val (.int p2), .val (.int p3), .val (.long (own_max (1 : Int32) (p0 &&& (2147483647 : Int32))).toInt64), .second, .val (.int (p1 &&& (1023 : Int32))), .val (.int (((p1.toUInt32 >>> ((10 : Int32) &&& 31).toUInt32).toInt32) &&& (1023 : Int32))), .unset, .unset, .unset, .unset, .unset, .unset, .unset, .unset, .unset, .unset, .unset, .unset, .unset, .unset, .unset, .unset, .unset, .unset] [(.int (20 : Int32)), (.int p1)])) _
    refine XS.iushr X1.here hx rfl (hb hby at_31) rfl ?_
    show Steps p.tables e below (T1.setTop (mkF m 32 #[.val (.int p0), .val (.int p1), .val (.int p2), .val (.int p3), .val (.long (own_max (1 : Int32) (p0 &&& (2147483647 : Int32))).toInt64), .second, .val (.int (p1 &&& (1023 : Int32))), .val (.int (((p1.toUInt32 >>> ((10 : Int32) &&& 31).toUInt32).toInt32) &&& (1023 : Int32))), .unset, .unset, .unset, .unset, .unset, .unset, .unset, .unset, .unset, .unset, .unset, .unset, .unset, .unset, .unset, .unset, .unset, .unset] [(.int ((p1.toUInt32 >>> ((20 : Int32) &&& 31).toUInt32).toInt32))])) _
    refine XS.bipush X1.here hx rfl (hb hby at_32) ?_
    show Steps p.tables e below (T1.setTop (mkF m 34 #[.val (.int p0), .val (.int p1), .val (.int p2), .val (.int p3), .val (.long (own_max (1 : Int32) (p0 &&& (2147483647 : Int32))).toInt64), .second, .val (.int (p1 &&& (1023 : Int32))), .val (.int (((p1.toUInt32 >>> ((10 : Int32) &&& 31).toUInt32).toInt32) &&& (1023 : Int32))), .unset, .unset, .unset, .unset, .unset, .unset, .unset, .unset, .unset, .unset, .unset, .unset, .unset, .unset, .unset, .unset, .unset, .unset] [(.int (7 : Int32)), (.int ((p1.toUInt32 >>> ((20 : Int32) &&& 31).toUInt32).toInt32))])) _
    refine XS.iand X1.here hx rfl (hb hby at_34) rfl ?_
    show Steps p.tables e below (T1.setTop (mkF m 35 #[.val (.int p0), .val (.int p1), .val (.int p2), .val (.int p3), .val (.long (own_max (1 : Int32) (p0 &&& (2147483647 : Int32))).toInt64), .second, .val (.int (p1 &&& (1023 : Int32))), .val (.int (((p1.toUInt32 >>> ((10 : Int32) &&& 31).toUInt32).toInt32) &&& (1023 : Int32))), .unset, .unset, .unset, .unset, .unset, .unset, .unset, .unset, .unset, .unset, .unset, .unset, .unset, .unset, .unset, .unset, .unset, .unset] [(.int (((p1.toUInt32 >>> ((20 : Int32) &&& 31).toUInt32).toInt32) &&& (7 : Int32)))])) _
    refine XS.istore X1.here hx rfl (hb hby at_35) rfl (l' := #[.val (.int p0), .val (.int p1), .val (.int p2), .val (.int p3), .val (.long (own_max (1 : Int32) (p0 &&& (2147483647 : Int32))).toInt64), .second, .val (.int (p1 &&& (1023 : Int32))), .val (.int (((p1.toUInt32 >>> ((10 : Int32) &&& 31).toUInt32).toInt32) &&& (1023 : Int32))), .val (.int (((p1.toUInt32 >>> ((20 : Int32) &&& 31).toUInt32).toInt32) &&& (7 : Int32))), .unset, .unset, .unset, .unset, .unset, .unset, .unset, .unset, .unset, .unset, .unset, .unset, .unset, .unset, .unset, .unset, .unset]) rfl ?_
    show Steps p.tables e below (T1.setTop (mkF m 37 #[.val (.int p0), .val (.int p1), .val (.int p2), .val (.int p3), .val (.long (own_max (1 : Int32) (p0 &&& (2147483647 : Int32))).toInt64), .second, .val (.int (p1 &&& (1023 : Int32))), .val (.int (((p1.toUInt32 >>> ((10 : Int32) &&& 31).toUInt32).toInt32) &&& (1023 : Int32))), .val (.int (((p1.toUInt32 >>> ((20 : Int32) &&& 31).toUInt32).toInt32) &&& (7 : Int32))), .unset, .unset, .unset, .unset, .unset, .unset, .unset, .unset, .unset, .unset, .unset, .unset, .unset, .unset, .unset, .unset, .unset] [])) _
    refine XS.iloadN X1.here hx rfl (hb hby at_37) rfl ?_
    show Steps p.tables e below (T1.setTop (mkF m 38 #[.val (.int p0), .val (.int p1), .val (.int p2), .val (.int p3), .val (.long (own_max (1 : Int32) (p0 &&& (2147483647 : Int32))).toInt64), .second, .val (.int (p1 &&& (1023 : Int32))), .val (.int (((p1.toUInt32 >>> ((10 : Int32) &&& 31).toUInt32).toInt32) &&& (1023 : Int32))), .val (.int (((p1.toUInt32 >>> ((20 : Int32) &&& 31).toUInt32).toInt32) &&& (7 : Int32))), .unset, .unset, .unset, .unset, .unset, .unset, .unset, .unset, .unset, .unset, .unset, .unset, .unset, .unset, .unset, .unset, .unset] [(.int p2)])) _
    refine X1.ldcInt hx hown (mvT hZ (hw _ (List.mem_of_getElem? (i := 0) rfl))) (g := (mkF m 38 #[.val (.int p0), .val (.int p1), .val (.int p2), .val (.int p3), .val (.long (own_max (1 : Int32) (p0 &&& (2147483647 : Int32))).toInt64), .second, .val (.int (p1 &&& (1023 : Int32))), .val (.int (((p1.toUInt32 >>> ((10 : Int32) &&& 31).toUInt32).toInt32) &&& (1023 : Int32))), .val (.int (((p1.toUInt32 >>> ((20 : Int32) &&& 31).toUInt32).toInt32) &&& (7 : Int32))), .unset, .unset, .unset, .unset, .unset, .unset, .unset, .unset, .unset, .unset, .unset, .unset, .unset, .unset, .unset, .unset, .unset] [(.int p2)])) rfl (hb hby at_38) _ ?_
    show Steps p.tables e below (T1.setTop (mkF m 40 #[.val (.int p0), .val (.int p1), .val (.int p2), .val (.int p3), .val (.long (own_max (1 : Int32) (p0 &&& (2147483647 : Int32))).toInt64), .second, .val (.int (p1 &&& (1023 : Int32))), .val (.int (((p1.toUInt32 >>> ((10 : Int32) &&& 31).toUInt32).toInt32) &&& (1023 : Int32))), .val (.int (((p1.toUInt32 >>> ((20 : Int32) &&& 31).toUInt32).toInt32) &&& (7 : Int32))), .unset, .unset, .unset, .unset, .unset, .unset, .unset, .unset, .unset, .unset, .unset, .unset, .unset, .unset, .unset, .unset, .unset] [(.int (2147483647 : Int32)), (.int p2)])) _
    refine XS.iand X1.here hx rfl (hb hby at_40) rfl ?_
    show Steps p.tables e below (T1.setTop (mkF m 41 #[.val (.int p0), .val (.int p1), .val (.int p2), .val (.int p3), .val (.long (own_max (1 : Int32) (p0 &&& (2147483647 : Int32))).toInt64), .second, .val (.int (p1 &&& (1023 : Int32))), .val (.int (((p1.toUInt32 >>> ((10 : Int32) &&& 31).toUInt32).toInt32) &&& (1023 : Int32))), .val (.int (((p1.toUInt32 >>> ((20 : Int32) &&& 31).toUInt32).toInt32) &&& (7 : Int32))), .unset, .unset, .unset, .unset, .unset, .unset, .unset, .unset, .unset, .unset, .unset, .unset, .unset, .unset, .unset, .unset, .unset] [(.int (p2 &&& (2147483647 : Int32)))])) _
    refine XS.iconst X1.here hx rfl (hb hby at_41) ?_
    show Steps p.tables e below (T1.setTop (mkF m 42 #[.val (.int p0), .val (.int p1), .val (.int p2), .val (.int p3), .val (.long (own_max (1 : Int32) (p0 &&& (2147483647 : Int32))).toInt64), .second, .val (.int (p1 &&& (1023 : Int32))), .val (.int (((p1.toUInt32 >>> ((10 : Int32) &&& 31).toUInt32).toInt32) &&& (1023 : Int32))), .val (.int (((p1.toUInt32 >>> ((20 : Int32) &&& 31).toUInt32).toInt32) &&& (7 : Int32))), .unset, .unset, .unset, .unset, .unset, .unset, .unset, .unset, .unset, .unset, .unset, .unset, .unset, .unset, .unset, .unset, .unset] [(.int (5 : Int32)), (.int (p2 &&& (2147483647 : Int32)))])) _
    refine iremM X1 hx rfl (hb hby at_42) rfl (by decide) ?_
    show Steps p.tables e below (T1.setTop (mkF m 43 #[.val (.int p0), .val (.int p1), .val (.int p2), .val (.int p3), .val (.long (own_max (1 : Int32) (p0 &&& (2147483647 : Int32))).toInt64), .second, .val (.int (p1 &&& (1023 : Int32))), .val (.int (((p1.toUInt32 >>> ((10 : Int32) &&& 31).toUInt32).toInt32) &&& (1023 : Int32))), .val (.int (((p1.toUInt32 >>> ((20 : Int32) &&& 31).toUInt32).toInt32) &&& (7 : Int32))), .unset, .unset, .unset, .unset, .unset, .unset, .unset, .unset, .unset, .unset, .unset, .unset, .unset, .unset, .unset, .unset, .unset] [(.int ((p2 &&& (2147483647 : Int32)) % (5 : Int32)))])) _
    refine XS.istore X1.here hx rfl (hb hby at_43) rfl (l' := #[.val (.int p0), .val (.int p1), .val (.int p2), .val (.int p3), .val (.long (own_max (1 : Int32) (p0 &&& (2147483647 : Int32))).toInt64), .second, .val (.int (p1 &&& (1023 : Int32))), .val (.int (((p1.toUInt32 >>> ((10 : Int32) &&& 31).toUInt32).toInt32) &&& (1023 : Int32))), .val (.int (((p1.toUInt32 >>> ((20 : Int32) &&& 31).toUInt32).toInt32) &&& (7 : Int32))), .val (.int ((p2 &&& (2147483647 : Int32)) % (5 : Int32))), .unset, .unset, .unset, .unset, .unset, .unset, .unset, .unset, .unset, .unset, .unset, .unset, .unset, .unset, .unset, .unset]) rfl ?_
    show Steps p.tables e below (T1.setTop (mkF m 45 #[.val (.int p0), .val (.int p1), .val (.int p2), .val (.int p3), .val (.long (own_max (1 : Int32) (p0 &&& (2147483647 : Int32))).toInt64), .second, .val (.int (p1 &&& (1023 : Int32))), .val (.int (((p1.toUInt32 >>> ((10 : Int32) &&& 31).toUInt32).toInt32) &&& (1023 : Int32))), .val (.int (((p1.toUInt32 >>> ((20 : Int32) &&& 31).toUInt32).toInt32) &&& (7 : Int32))), .val (.int ((p2 &&& (2147483647 : Int32)) % (5 : Int32))), .unset, .unset, .unset, .unset, .unset, .unset, .unset, .unset, .unset, .unset, .unset, .unset, .unset, .unset, .unset, .unset] [])) _
    refine XS.iloadN X1.here hx rfl (hb hby at_45) rfl ?_
    show Steps p.tables e below (T1.setTop (mkF m 46 #[.val (.int p0), .val (.int p1), .val (.int p2), .val (.int p3), .val (.long (own_max (1 : Int32) (p0 &&& (2147483647 : Int32))).toInt64), .second, .val (.int (p1 &&& (1023 : Int32))), .val (.int (((p1.toUInt32 >>> ((10 : Int32) &&& 31).toUInt32).toInt32) &&& (1023 : Int32))), .val (.int (((p1.toUInt32 >>> ((20 : Int32) &&& 31).toUInt32).toInt32) &&& (7 : Int32))), .val (.int ((p2 &&& (2147483647 : Int32)) % (5 : Int32))), .unset, .unset, .unset, .unset, .unset, .unset, .unset, .unset, .unset, .unset, .unset, .unset, .unset, .unset, .unset, .unset] [(.int p2)])) _
    refine XS.bipush X1.here hx rfl (hb hby at_46) ?_
    show Steps p.tables e below (T1.setTop (mkF m 48 #[.val (.int p0), .val (.int p1), .val (.int p2), .val (.int p3), .val (.long (own_max (1 : Int32) (p0 &&& (2147483647 : Int32))).toInt64), .second, .val (.int (p1 &&& (1023 : Int32))), .val (.int (((p1.toUInt32 >>> ((10 : Int32) &&& 31).toUInt32).toInt32) &&& (1023 : Int32))), .val (.int (((p1.toUInt32 >>> ((20 : Int32) &&& 31).toUInt32).toInt32) &&& (7 : Int32))), .val (.int ((p2 &&& (2147483647 : Int32)) % (5 : Int32))), .unset, .unset, .unset, .unset, .unset, .unset, .unset, .unset, .unset, .unset, .unset, .unset, .unset, .unset, .unset, .unset] [(.int (8 : Int32)), (.int p2)])) _
    refine XS.iushr X1.here hx rfl (hb hby at_48) rfl ?_
    show Steps p.tables e below (T1.setTop (mkF m 49 #[.val (.int p0), .val (.int p1), .val (.int p2), .val (.int p3), .val (.long (own_max (1 : Int32) (p0 &&& (2147483647 : Int32))).toInt64), .second, .val (.int (p1 &&& (1023 : Int32))), .val (.int (((p1.toUInt32 >>> ((10 : Int32) &&& 31).toUInt32).toInt32) &&& (1023 : Int32))), .val (.int (((p1.toUInt32 >>> ((20 : Int32) &&& 31).toUInt32).toInt32) &&& (7 : Int32))), .val (.int ((p2 &&& (2147483647 : Int32)) % (5 : Int32))), .unset, .unset, .unset, .unset, .unset, .unset, .unset, .unset, .unset, .unset, .unset, .unset, .unset, .unset, .unset, .unset] [(.int ((p2.toUInt32 >>> ((8 : Int32) &&& 31).toUInt32).toInt32))])) _
    refine XS.bipush X1.here hx rfl (hb hby at_49) ?_
    show Steps p.tables e below (T1.setTop (mkF m 51 #[.val (.int p0), .val (.int p1), .val (.int p2), .val (.int p3), .val (.long (own_max (1 : Int32) (p0 &&& (2147483647 : Int32))).toInt64), .second, .val (.int (p1 &&& (1023 : Int32))), .val (.int (((p1.toUInt32 >>> ((10 : Int32) &&& 31).toUInt32).toInt32) &&& (1023 : Int32))), .val (.int (((p1.toUInt32 >>> ((20 : Int32) &&& 31).toUInt32).toInt32) &&& (7 : Int32))), .val (.int ((p2 &&& (2147483647 : Int32)) % (5 : Int32))), .unset, .unset, .unset, .unset, .unset, .unset, .unset, .unset, .unset, .unset, .unset, .unset, .unset, .unset, .unset, .unset] [(.int (15 : Int32)), (.int ((p2.toUInt32 >>> ((8 : Int32) &&& 31).toUInt32).toInt32))])) _
    refine XS.iand X1.here hx rfl (hb hby at_51) rfl ?_
    show Steps p.tables e below (T1.setTop (mkF m 52 #[.val (.int p0), .val (.int p1), .val (.int p2), .val (.int p3), .val (.long (own_max (1 : Int32) (p0 &&& (2147483647 : Int32))).toInt64), .second, .val (.int (p1 &&& (1023 : Int32))), .val (.int (((p1.toUInt32 >>> ((10 : Int32) &&& 31).toUInt32).toInt32) &&& (1023 : Int32))), .val (.int (((p1.toUInt32 >>> ((20 : Int32) &&& 31).toUInt32).toInt32) &&& (7 : Int32))), .val (.int ((p2 &&& (2147483647 : Int32)) % (5 : Int32))), .unset, .unset, .unset, .unset, .unset, .unset, .unset, .unset, .unset, .unset, .unset, .unset, .unset, .unset, .unset, .unset] [(.int (((p2.toUInt32 >>> ((8 : Int32) &&& 31).toUInt32).toInt32) &&& (15 : Int32)))])) _
    refine XS.istore X1.here hx rfl (hb hby at_52) rfl (l' := #[.val (.int p0), .val (.int p1), .val (.int p2), .val (.int p3), .val (.long (own_max (1 : Int32) (p0 &&& (2147483647 : Int32))).toInt64), .second, .val (.int (p1 &&& (1023 : Int32))), .val (.int (((p1.toUInt32 >>> ((10 : Int32) &&& 31).toUInt32).toInt32) &&& (1023 : Int32))), .val (.int (((p1.toUInt32 >>> ((20 : Int32) &&& 31).toUInt32).toInt32) &&& (7 : Int32))), .val (.int ((p2 &&& (2147483647 : Int32)) % (5 : Int32))), .val (.int (((p2.toUInt32 >>> ((8 : Int32) &&& 31).toUInt32).toInt32) &&& (15 : Int32))), .unset, .unset, .unset, .unset, .unset, .unset, .unset, .unset, .unset, .unset, .unset, .unset, .unset, .unset, .unset]) rfl ?_
    show Steps p.tables e below (T1.setTop (mkF m 54 #[.val (.int p0), .val (.int p1), .val (.int p2), .val (.int p3), .val (.long (own_max (1 : Int32) (p0 &&& (2147483647 : Int32))).toInt64), .second, .val (.int (p1 &&& (1023 : Int32))), .val (.int (((p1.toUInt32 >>> ((10 : Int32) &&& 31).toUInt32).toInt32) &&& (1023 : Int32))), .val (.int (((p1.toUInt32 >>> ((20 : Int32) &&& 31).toUInt32).toInt32) &&& (7 : Int32))), .val (.int ((p2 &&& (2147483647 : Int32)) % (5 : Int32))), .val (.int (((p2.toUInt32 >>> ((8 : Int32) &&& 31).toUInt32).toInt32) &&& (15 : Int32))), .unset, .unset, .unset, .unset, .unset, .unset, .unset, .unset, .unset, .unset, .unset, .unset, .unset, .unset, .unset] [])) _
    exact k
  refine own_go k3 ?_
  clear k3
  obtain ⟨tI, h_tI⟩ : ∃ z, z = (own_max (1 : Int32) (p0 &&& (2147483647 : Int32))) := ⟨_, rfl⟩
  rw [← h_tI]
  obtain ⟨kI, h_kI⟩ : ∃ z, z = (p1 &&& (1023 : Int32)) := ⟨_, rfl⟩
  rw [← h_kI]
  obtain ⟨dI, h_dI⟩ : ∃ z, z = (((p1.toUInt32 >>> ((10 : Int32) &&& 31).toUInt32).toInt32) &&& (1023 : Int32)) := ⟨_, rfl⟩
  rw [← h_dI]
  obtain ⟨zI, h_zI⟩ : ∃ z, z = (((p1.toUInt32 >>> ((20 : Int32) &&& 31).toUInt32).toInt32) &&& (7 : Int32)) := ⟨_, rfl⟩
  rw [← h_zI]
  obtain ⟨sI, h_sI⟩ : ∃ z, z = ((p2 &&& (2147483647 : Int32)) % (5 : Int32)) := ⟨_, rfl⟩
  rw [← h_sI]
  obtain ⟨jI, h_jI⟩ : ∃ z, z = (((p2.toUInt32 >>> ((8 : Int32) &&& 31).toUInt32).toInt32) &&& (15 : Int32)) := ⟨_, rfl⟩
  rw [← h_jI]
  obtain ⟨T, hT, hT0, hT1⟩ : ∃ n : Nat, tI.toInt = n ∧ 1 ≤ n ∧ n ≤ 2147483647 := by rw [h_tI]; have c := c_and p0 2147483647 (by decide); have r := rng32 (p0 &&& 2147483647); have o : (1 : Int32).toInt = 1 := rfl; unfold own_max; split <;> rename_i hh <;> rw [Int32.lt_iff_toInt_lt] at hh <;> first | exact ⟨(p0 &&& 2147483647).toInt.toNat, by omega, by omega, by omega⟩ | exact ⟨1, rfl, by omega, by omega⟩
  obtain ⟨K, hKi, hK⟩ : ∃ n : Nat, kI.toInt = n ∧ n ≤ 1023 := by rw [h_kI]; exact own_mskN _ (1023 : Int32) 1023 rfl
  obtain ⟨Dl, hDi, hDl⟩ : ∃ n : Nat, dI.toInt = n ∧ n ≤ 1023 := by rw [h_dI]; exact own_mskN _ (1023 : Int32) 1023 rfl
  obtain ⟨Zz, hZi, hZz⟩ : ∃ n : Nat, zI.toInt = n ∧ n ≤ 7 := by rw [h_zI]; exact own_mskN _ (7 : Int32) 7 rfl
  obtain ⟨J0, hJi, hJ0⟩ : ∃ n : Nat, jI.toInt = n ∧ n ≤ 15 := by rw [h_jI]; exact own_mskN _ (15 : Int32) 15 rfl
  obtain ⟨s0, hs0, hs4⟩ : ∃ n : Nat, sI.toInt = n ∧ n ≤ 4 := by rw [h_sI]; have c := c_and p2 2147483647 (by decide); have d := (c_irem (p2 &&& 2147483647) 5 5 rfl).1 c.1; exact ⟨((p2 &&& 2147483647) % 5).toInt.toNat, by omega, by omega⟩
  have k4 : ∀ t, Steps p.tables e below (T1.setTop (mkF m 56 #[.val (.int p0), .val (.int p1), .val (.int p2), .val (.int p3), .val (.long tI.toInt64), .second, .val (.int kI), .val (.int dI), .val (.int zI), .val (.int sI), .val (.int jI), .unset, .unset, .unset, .unset, .unset, .unset, .unset, .unset, .unset, .unset, .unset, .unset, .unset, .unset, .unset] [(.int sI)])) t → Steps p.tables e below (T1.setTop (mkF m 54 #[.val (.int p0), .val (.int p1), .val (.int p2), .val (.int p3), .val (.long tI.toInt64), .second, .val (.int kI), .val (.int dI), .val (.int zI), .val (.int sI), .val (.int jI), .unset, .unset, .unset, .unset, .unset, .unset, .unset, .unset, .unset, .unset, .unset, .unset, .unset, .unset, .unset] [])) t := fun t k => by
    refine XS.iload X1.here hx rfl (hb hby at_54) rfl ?_
    show Steps p.tables e below (T1.setTop (mkF m 56 #[.val (.int p0), .val (.int p1), .val (.int p2), .val (.int p3), .val (.long tI.toInt64), .second, .val (.int kI), .val (.int dI), .val (.int zI), .val (.int sI), .val (.int jI), .unset, .unset, .unset, .unset, .unset, .unset, .unset, .unset, .unset, .unset, .unset, .unset, .unset, .unset, .unset] [(.int sI)])) _
    exact k
  refine own_go k4 ?_
  clear k4
  by_cases hc56_5 : sI = (0 : Int32)
  · skip
    obtain ⟨R0, hRi, hR0⟩ : ∃ n : Nat, (p3 &&& (65535 : Int32)).toInt = n ∧ n ≤ 65535 := by have c := own_msk p3 (65535 : Int32) (by decide); have o : (65535 : Int32).toInt = 65535 := rfl; exact ⟨_, (Int.toNat_of_nonneg c.1).symm, by omega⟩
    obtain ⟨dr, h_dr⟩ : ∃ z : UInt64, FP.i2d (p3 &&& (65535 : Int32)) = z := ⟨_, rfl⟩
    have q_dr : own_U dr (R0 * 2 ^ (1074 - 0)) := by rw [← h_dr]; exact (own_i2d hRi)
    have k6 : ∀ t, Steps p.tables e below (T1.setTop (mkF m 110 #[.val (.int p0), .val (.int p1), .val (.int p2), .val (.int p3), .val (.long tI.toInt64), .second, .val (.int kI), .val (.int dI), .val (.int zI), .val (.int sI), .val (.int jI), .val (.long (1 : Int64)), .second, .val (.double FP.dconst0), .second, .val (.double dr), .second, .unset, .unset, .unset, .unset, .unset, .unset, .unset, .unset, .unset] [])) t → Steps p.tables e below (T1.setTop (mkF m 56 #[.val (.int p0), .val (.int p1), .val (.int p2), .val (.int p3), .val (.long tI.toInt64), .second, .val (.int kI), .val (.int dI), .val (.int zI), .val (.int sI), .val (.int jI), .unset, .unset, .unset, .unset, .unset, .unset, .unset, .unset, .unset, .unset, .unset, .unset, .unset, .unset, .unset] [(.int sI)])) t := fun t k => by
      refine XS.ifNo X1.here hx rfl (hb hby at_56) rfl ((if0 _ _).trans (teq hc56_5).2) ?_
      show Steps p.tables e below (T1.setTop (mkF m 59 #[.val (.int p0), .val (.int p1), .val (.int p2), .val (.int p3), .val (.long tI.toInt64), .second, .val (.int kI), .val (.int dI), .val (.int zI), .val (.int sI), .val (.int jI), .unset, .unset, .unset, .unset, .unset, .unset, .unset, .unset, .unset, .unset, .unset, .unset, .unset, .unset, .unset] [])) _
      refine XS.dconst0 X1.here hx rfl (hb hby at_59) rfl ?_
      show Steps p.tables e below (T1.setTop (mkF m 60 #[.val (.int p0), .val (.int p1), .val (.int p2), .val (.int p3), .val (.long tI.toInt64), .second, .val (.int kI), .val (.int dI), .val (.int zI), .val (.int sI), .val (.int jI), .unset, .unset, .unset, .unset, .unset, .unset, .unset, .unset, .unset, .unset, .unset, .unset, .unset, .unset, .unset] [(.double FP.dconst0)])) _
      refine XS.dstore X1.here hx rfl (hb hby at_60) rfl (l' := #[.val (.int p0), .val (.int p1), .val (.int p2), .val (.int p3), .val (.long tI.toInt64), .second, .val (.int kI), .val (.int dI), .val (.int zI), .val (.int sI), .val (.int jI), .unset, .unset, .val (.double FP.dconst0), .second, .unset, .unset, .unset, .unset, .unset, .unset, .unset, .unset, .unset, .unset, .unset]) rfl ?_
      show Steps p.tables e below (T1.setTop (mkF m 62 #[.val (.int p0), .val (.int p1), .val (.int p2), .val (.int p3), .val (.long tI.toInt64), .second, .val (.int kI), .val (.int dI), .val (.int zI), .val (.int sI), .val (.int jI), .unset, .unset, .val (.double FP.dconst0), .second, .unset, .unset, .unset, .unset, .unset, .unset, .unset, .unset, .unset, .unset, .unset] [])) _
      refine XS.lconst X1.here hx rfl (hb hby at_62) ?_
      show Steps p.tables e below (T1.setTop (mkF m 63 #[.val (.int p0), .val (.int p1), .val (.int p2), .val (.int p3), .val (.long tI.toInt64), .second, .val (.int kI), .val (.int dI), .val (.int zI), .val (.int sI), .val (.int jI), .unset, .unset, .val (.double FP.dconst0), .second, .unset, .unset, .unset, .unset, .unset, .unset, .unset, .unset, .unset, .unset, .unset] [(.long (1 : Int64))])) _
      refine XS.lstore X1.here hx rfl (hb hby at_63) rfl (l' := #[.val (.int p0), .val (.int p1), .val (.int p2), .val (.int p3), .val (.long tI.toInt64), .second, .val (.int kI), .val (.int dI), .val (.int zI), .val (.int sI), .val (.int jI), .val (.long (1 : Int64)), .second, .val (.double FP.dconst0), .second, .unset, .unset, .unset, .unset, .unset, .unset, .unset, .unset, .unset, .unset, .unset]) rfl ?_
      show Steps p.tables e below (T1.setTop (mkF m 65 #[.val (.int p0), .val (.int p1), .val (.int p2), .val (.int p3), .val (.long tI.toInt64), .second, .val (.int kI), .val (.int dI), .val (.int zI), .val (.int sI), .val (.int jI), .val (.long (1 : Int64)), .second, .val (.double FP.dconst0), .second, .unset, .unset, .unset, .unset, .unset, .unset, .unset, .unset, .unset, .unset, .unset] [])) _
      refine XS.iloadN X1.here hx rfl (hb hby at_65) rfl ?_
      show Steps p.tables e below (T1.setTop (mkF m 66 #[.val (.int p0), .val (.int p1), .val (.int p2), .val (.int p3), .val (.long tI.toInt64), .second, .val (.int kI), .val (.int dI), .val (.int zI), .val (.int sI), .val (.int jI), .val (.long (1 : Int64)), .second, .val (.double FP.dconst0), .second, .unset, .unset, .unset, .unset, .unset, .unset, .unset, .unset, .unset, .unset, .unset] [(.int p3)])) _
      refine X1.ldcInt hx hown (mvT hZ (hw _ (List.mem_of_getElem? (i := 62) rfl))) (g := (mkF m 66 #[.val (.int p0), .val (.int p1), .val (.int p2), .val (.int p3), .val (.long tI.toInt64), .second, .val (.int kI), .val (.int dI), .val (.int zI), .val (.int sI), .val (.int jI), .val (.long (1 : Int64)), .second, .val (.double FP.dconst0), .second, .unset, .unset, .unset, .unset, .unset, .unset, .unset, .unset, .unset, .unset, .unset] [(.int p3)])) rfl (hb hby at_66) _ ?_
      show Steps p.tables e below (T1.setTop (mkF m 68 #[.val (.int p0), .val (.int p1), .val (.int p2), .val (.int p3), .val (.long tI.toInt64), .second, .val (.int kI), .val (.int dI), .val (.int zI), .val (.int sI), .val (.int jI), .val (.long (1 : Int64)), .second, .val (.double FP.dconst0), .second, .unset, .unset, .unset, .unset, .unset, .unset, .unset, .unset, .unset, .unset, .unset] [(.int (65535 : Int32)), (.int p3)])) _
      refine XS.iand X1.here hx rfl (hb hby at_68) rfl ?_
      show Steps p.tables e below (T1.setTop (mkF m 69 #[.val (.int p0), .val (.int p1), .val (.int p2), .val (.int p3), .val (.long tI.toInt64), .second, .val (.int kI), .val (.int dI), .val (.int zI), .val (.int sI), .val (.int jI), .val (.long (1 : Int64)), .second, .val (.double FP.dconst0), .second, .unset, .unset, .unset, .unset, .unset, .unset, .unset, .unset, .unset, .unset, .unset] [(.int (p3 &&& (65535 : Int32)))])) _
      refine XS.i2dS X1.here hx rfl (hb hby at_69) rfl h_dr ?_
      show Steps p.tables e below (T1.setTop (mkF m 70 #[.val (.int p0), .val (.int p1), .val (.int p2), .val (.int p3), .val (.long tI.toInt64), .second, .val (.int kI), .val (.int dI), .val (.int zI), .val (.int sI), .val (.int jI), .val (.long (1 : Int64)), .second, .val (.double FP.dconst0), .second, .unset, .unset, .unset, .unset, .unset, .unset, .unset, .unset, .unset, .unset, .unset] [(.double dr)])) _
      refine XS.dstore X1.here hx rfl (hb hby at_70) rfl (l' := #[.val (.int p0), .val (.int p1), .val (.int p2), .val (.int p3), .val (.long tI.toInt64), .second, .val (.int kI), .val (.int dI), .val (.int zI), .val (.int sI), .val (.int jI), .val (.long (1 : Int64)), .second, .val (.double FP.dconst0), .second, .val (.double dr), .second, .unset, .unset, .unset, .unset, .unset, .unset, .unset, .unset, .unset]) rfl ?_
      show Steps p.tables e below (T1.setTop (mkF m 72 #[.val (.int p0), .val (.int p1), .val (.int p2), .val (.int p3), .val (.long tI.toInt64), .second, .val (.int kI), .val (.int dI), .val (.int zI), .val (.int sI), .val (.int jI), .val (.long (1 : Int64)), .second, .val (.double FP.dconst0), .second, .val (.double dr), .second, .unset, .unset, .unset, .unset, .unset, .unset, .unset, .unset, .unset] [])) _
      refine XS.goto X1.here hx rfl (pc0 := 72) (pc' := 110) rfl (hb hby at_72) (by decide) (by decide) ?_
      show Steps p.tables e below (T1.setTop (mkF m 110 #[.val (.int p0), .val (.int p1), .val (.int p2), .val (.int p3), .val (.long tI.toInt64), .second, .val (.int kI), .val (.int dI), .val (.int zI), .val (.int sI), .val (.int jI), .val (.long (1 : Int64)), .second, .val (.double FP.dconst0), .second, .val (.double dr), .second, .unset, .unset, .unset, .unset, .unset, .unset, .unset, .unset, .unset] [])) _
      exact k
    refine own_go k6 ?_
    clear k6
    obtain ⟨J, S, Bn, Rn, hJ, hS, hBn, hRn, hX, hp', q_db, q_dr, hb1⟩ : ∃ J S Bn Rn : Nat, J ≤ 15 ∧ S ≤ 3 ∧ Bn ≤ 1 ∧ Rn ≤ 1000000 ∧ (2 ^ S - Bn) + Bn * Rn = 2 ^ J * 2 ^ S ∧ (1 : Int64).toInt = (2 ^ J : Nat) ∧ own_U FP.dconst0 (Bn * 2 ^ (1074 - S)) ∧ own_U dr (Rn * 2 ^ 1074) ∧ Bn * 2 ^ (1074 - S) ≤ 1 * 2 ^ 1074 := ⟨0, 0, 0, R0, by omega, by omega, by omega, by omega, by omega, rfl, own_c0, q_dr, by omega⟩
    have b2 := own_b2 hK hDl hT1 hJ
    have b1 := own_b1 hDl hJ
    have b3 := own_b1 hK hJ
    have hD0 : 0 < own_D K Dl T J := by unfold own_D; omega
    obtain ⟨T7, h7, X7, e7, E7, A7, D7, -, st7⟩ := newO X1 hx hZ hown (hw _ (List.mem_of_getElem? (i := 5) rfl)) (hw _ (List.mem_of_getElem? (i := 6) rfl)) (hw _ (List.mem_of_getElem? (i := 7) rfl)) eh1 (g := (mkF m 110 #[.val (.int p0), .val (.int p1), .val (.int p2), .val (.int p3), .val (.long tI.toInt64), .second, .val (.int kI), .val (.int dI), .val (.int zI), .val (.int sI), .val (.int jI), .val (.long (1 : Int64)), .second, .val (.double FP.dconst0), .second, .val (.double dr), .second, .unset, .unset, .unset, .unset, .unset, .unset, .unset, .unset, .unset] [])) rfl (hb hby at_110) (by decide) (by decide)
    obtain ⟨b7, g7⟩ : ∃ z, z = h0.size := ⟨_, rfl⟩
    rw [← g7] at A7 D7 st7
    refine own_go st7 ?_
    have g_b7 : n0 ≤ b7 := Nat.le_trans Z0 (Nat.le_of_eq g7.symm)
    have hk7 : 0 ≤ h7.size := Nat.le_trans hk0 E7.1
    have Z7 : n0 ≤ h7.size := Nat.le_trans Z0 E7.1
    have F7_k3 : Fld Z h7 b7 "com/example/likelihood/likelihood/ranking/BestMatch" "k3" "D" (.double (0 : UInt64)) := D7 (Or.inr (hw _ (List.mem_of_getElem? (i := 20) rfl))) (ty := .double) (by decide)
    have F7_k2 : Fld Z h7 b7 "com/example/likelihood/likelihood/ranking/BestMatch" "k2" "D" (.double (0 : UInt64)) := D7 (Or.inr (hw _ (List.mem_of_getElem? (i := 38) rfl))) (ty := .double) (by decide)
    have F7_k1 : Fld Z h7 b7 "com/example/likelihood/likelihood/ranking/Bm25L" "k1" "D" (.double (0 : UInt64)) := D7 (Or.inr (hw _ (List.mem_of_getElem? (i := 43) rfl))) (ty := .double) (by decide)
    have F7_b : Fld Z h7 b7 "com/example/likelihood/likelihood/ranking/Bm25L" "b" "D" (.double (0 : UInt64)) := D7 (Or.inr (hw _ (List.mem_of_getElem? (i := 53) rfl))) (ty := .double) (by decide)
    have F7_delta : Fld Z h7 b7 "com/example/likelihood/likelihood/ranking/Bm25L" "delta" "D" (.double (0 : UInt64)) := D7 (Or.inr (hw _ (List.mem_of_getElem? (i := 56) rfl))) (ty := .double) (by decide)
    obtain ⟨dk, h_dk⟩ : ∃ z : UInt64, FP.i2d kI = z := ⟨_, rfl⟩
    have q_dk : own_U dk (K * 2 ^ (1074 - 0)) := by rw [← h_dk]; exact (own_i2d hKi)
    obtain ⟨dz, h_dz⟩ : ∃ z : UInt64, FP.i2d zI = z := ⟨_, rfl⟩
    have q_dz : own_U dz (Zz * 2 ^ (1074 - 0)) := by rw [← h_dz]; exact (own_i2d hZi)
    obtain ⟨dd, h_dd⟩ : ∃ z : UInt64, FP.i2d dI = z := ⟨_, rfl⟩
    have q_dd : own_U dd (Dl * 2 ^ (1074 - 0)) := by rw [← h_dd]; exact (own_i2d hDi)
    have k9 : ∀ t, Steps p.tables e below (T7.setTop (mkF m 125 #[.val (.int p0), .val (.int p1), .val (.int p2), .val (.int p3), .val (.long tI.toInt64), .second, .val (.int kI), .val (.int dI), .val (.int zI), .val (.int sI), .val (.int jI), .val (.long (1 : Int64)), .second, .val (.double FP.dconst0), .second, .val (.double dr), .second, .unset, .unset, .unset, .unset, .unset, .unset, .unset, .unset, .unset] [(.double dd), (.double dz), (.double FP.dconst0), (.double dk), (.ref b7), (.ref b7)])) t → Steps p.tables e below (T7.setTop (mkF m 113 #[.val (.int p0), .val (.int p1), .val (.int p2), .val (.int p3), .val (.long tI.toInt64), .second, .val (.int kI), .val (.int dI), .val (.int zI), .val (.int sI), .val (.int jI), .val (.long (1 : Int64)), .second, .val (.double FP.dconst0), .second, .val (.double dr), .second, .unset, .unset, .unset, .unset, .unset, .unset, .unset, .unset, .unset] [(.ref b7)])) t := fun t k => by
      refine XS.dup X7.here hx rfl (hb hby at_113) rfl rfl ?_
      show Steps p.tables e below (T7.setTop (mkF m 114 #[.val (.int p0), .val (.int p1), .val (.int p2), .val (.int p3), .val (.long tI.toInt64), .second, .val (.int kI), .val (.int dI), .val (.int zI), .val (.int sI), .val (.int jI), .val (.long (1 : Int64)), .second, .val (.double FP.dconst0), .second, .val (.double dr), .second, .unset, .unset, .unset, .unset, .unset, .unset, .unset, .unset, .unset] [(.ref b7), (.ref b7)])) _
      refine XS.iload X7.here hx rfl (hb hby at_114) rfl ?_
      show Steps p.tables e below (T7.setTop (mkF m 116 #[.val (.int p0), .val (.int p1), .val (.int p2), .val (.int p3), .val (.long tI.toInt64), .second, .val (.int kI), .val (.int dI), .val (.int zI), .val (.int sI), .val (.int jI), .val (.long (1 : Int64)), .second, .val (.double FP.dconst0), .second, .val (.double dr), .second, .unset, .unset, .unset, .unset, .unset, .unset, .unset, .unset, .unset] [(.int kI), (.ref b7), (.ref b7)])) _
      refine XS.i2dS X7.here hx rfl (hb hby at_116) rfl h_dk ?_
      show Steps p.tables e below (T7.setTop (mkF m 117 #[.val (.int p0), .val (.int p1), .val (.int p2), .val (.int p3), .val (.long tI.toInt64), .second, .val (.int kI), .val (.int dI), .val (.int zI), .val (.int sI), .val (.int jI), .val (.long (1 : Int64)), .second, .val (.double FP.dconst0), .second, .val (.double dr), .second, .unset, .unset, .unset, .unset, .unset, .unset, .unset, .unset, .unset] [(.double dk), (.ref b7), (.ref b7)])) _
      refine XS.dload X7.here hx rfl (hb hby at_117) rfl ?_
      show Steps p.tables e below (T7.setTop (mkF m 119 #[.val (.int p0), .val (.int p1), .val (.int p2), .val (.int p3), .val (.long tI.toInt64), .second, .val (.int kI), .val (.int dI), .val (.int zI), .val (.int sI), .val (.int jI), .val (.long (1 : Int64)), .second, .val (.double FP.dconst0), .second, .val (.double dr), .second, .unset, .unset, .unset, .unset, .unset, .unset, .unset, .unset, .unset] [(.double FP.dconst0), (.double dk), (.ref b7), (.ref b7)])) _
      refine XS.iload X7.here hx rfl (hb hby at_119) rfl ?_
      show Steps p.tables e below (T7.setTop (mkF m 121 #[.val (.int p0), .val (.int p1), .val (.int p2), .val (.int p3), .val (.long tI.toInt64), .second, .val (.int kI), .val (.int dI), .val (.int zI), .val (.int sI), .val (.int jI), .val (.long (1 : Int64)), .second, .val (.double FP.dconst0), .second, .val (.double dr), .second, .unset, .unset, .unset, .unset, .unset, .unset, .unset, .unset, .unset] [(.int zI), (.double FP.dconst0), (.double dk), (.ref b7), (.ref b7)])) _
      refine XS.i2dS X7.here hx rfl (hb hby at_121) rfl h_dz ?_
      show Steps p.tables e below (T7.setTop (mkF m 122 #[.val (.int p0), .val (.int p1), .val (.int p2), .val (.int p3), .val (.long tI.toInt64), .second, .val (.int kI), .val (.int dI), .val (.int zI), .val (.int sI), .val (.int jI), .val (.long (1 : Int64)), .second, .val (.double FP.dconst0), .second, .val (.double dr), .second, .unset, .unset, .unset, .unset, .unset, .unset, .unset, .unset, .unset] [(.double dz), (.double FP.dconst0), (.double dk), (.ref b7), (.ref b7)])) _
      refine XS.iload X7.here hx rfl (hb hby at_122) rfl ?_
      show Steps p.tables e below (T7.setTop (mkF m 124 #[.val (.int p0), .val (.int p1), .val (.int p2), .val (.int p3), .val (.long tI.toInt64), .second, .val (.int kI), .val (.int dI), .val (.int zI), .val (.int sI), .val (.int jI), .val (.long (1 : Int64)), .second, .val (.double FP.dconst0), .second, .val (.double dr), .second, .unset, .unset, .unset, .unset, .unset, .unset, .unset, .unset, .unset] [(.int dI), (.double dz), (.double FP.dconst0), (.double dk), (.ref b7), (.ref b7)])) _
      refine XS.i2dS X7.here hx rfl (hb hby at_124) rfl h_dd ?_
      show Steps p.tables e below (T7.setTop (mkF m 125 #[.val (.int p0), .val (.int p1), .val (.int p2), .val (.int p3), .val (.long tI.toInt64), .second, .val (.int kI), .val (.int dI), .val (.int zI), .val (.int sI), .val (.int jI), .val (.long (1 : Int64)), .second, .val (.double FP.dconst0), .second, .val (.double dr), .second, .unset, .unset, .unset, .unset, .unset, .unset, .unset, .unset, .unset] [(.double dd), (.double dz), (.double FP.dconst0), (.double dk), (.ref b7), (.ref b7)])) _
      exact k
    refine own_go k9 ?_
    clear k9
    obtain ⟨_, _, ⟨T8, L8, k8, n8⟩, -, X8q, Sn8q, gr8, ⟨Lc8, hQ8, l8, y8, z8⟩, st8⟩ := X7.specialBackS hx (y := (⟨"com/example/likelihood/likelihood/ranking/Bm25L", "<init>", "(DDDD)V"⟩ : MethodName)) rfl hown (mvT hZ (hw _ (List.mem_of_getElem? (i := 8) rfl))) (mvT hZ (hw _ (List.mem_of_getElem? (i := 9) rfl))) (mvT hZ (hw _ (List.mem_of_getElem? (i := 10) rfl))) (by decide) (backOfS (W := 1) (own_rm_b25Init l Z a0 hw [] b7 dk FP.dconst0 dz dd (0 : UInt64) (0 : UInt64) (0 : UInt64) (0 : UInt64) (0 : UInt64) h7 n0 Z7 F7_k3 F7_k2 F7_k1 F7_b F7_delta A7 g_b7 (own_nonneg q_dz _) (own_nonneg q_dk _) (own_ltinf q_dk _) (own_nonneg q_db _) (own_le1 q_db hb1 _) (own_nonneg q_dd _) (own_ltinf q_dd _)) hZ (hw _ (List.mem_of_getElem? (i := 10) rfl)) (hw _ (List.mem_of_getElem? (i := 7) rfl)) (by decide) (by decide)) (g := (mkF m 125 #[.val (.int p0), .val (.int p1), .val (.int p2), .val (.int p3), .val (.long tI.toInt64), .second, .val (.int kI), .val (.int dI), .val (.int zI), .val (.int sI), .val (.int jI), .val (.long (1 : Int64)), .second, .val (.double FP.dconst0), .second, .val (.double dr), .second, .unset, .unset, .unset, .unset, .unset, .unset, .unset, .unset, .unset] [(.double dd), (.double dz), (.double FP.dconst0), (.double dk), (.ref b7), (.ref b7)])) rfl (by rw [hml]; rfl) (Steps.refl _) (a := b7) (argsL := [(.double dk), (.double FP.dconst0), (.double dz), (.double dd)]) (rest := [(.ref b7)]) (lenOf own_pd_28DDDD29V rfl) rfl (by show 2 * 0 + _ ≤ _; exact Nat.le_of_eq rfl) (hb hby at_125) (fun _ _ => ⟨rfl, e7, (by decide : 1 + 8 ≤ _), (by decide : 5 + 56 ≤ _)⟩)
    dsimp only [Pt.U, Pt.locs, Pt.cells, Pt.slots] at X8q l8 y8 z8 st8 hQ8
    subst l8 y8 z8
    dsimp only [Pt.U] at Sn8q gr8
    obtain ⟨X8, Sn8, hZ8, hown8⟩ := rebS Sn0 (by rw [e7]; exact hk7) X8q Sn8q gr8 hZ hown
    obtain ⟨rfl, N8q, K8q, p8_0, p8_1, p8_2, p8_3, p8_4, p8_5⟩ := hQ8
    have N8 := Fr.app N1 N8q
    have Z8 : n0 ≤ T8.heap.size := Nat.le_trans Z7 K8q.1
    refine own_go (fun _ k => st8.trans k) ?_
    have hk8c : T8.heap.size ≤ T8.heap.size := Nat.le_refl _
    have k11 : ∀ t, Steps p.tables e below (T8.setTop (mkF m 137 #[.val (.int p0), .val (.int p1), .val (.int p2), .val (.int p3), .val (.long tI.toInt64), .second, .val (.int kI), .val (.int dI), .val (.int zI), .val (.int sI), .val (.int jI), .val (.long (1 : Int64)), .second, .val (.double FP.dconst0), .second, .val (.double dr), .second, .val (.ref b7), .unset, .unset, .unset, .unset, .unset, .unset, .unset, .unset] [(.double dr), (.int tI.toInt64.toInt32), (.ref b7)])) t → Steps p.tables e below (T8.setTop (mkF m 128 #[.val (.int p0), .val (.int p1), .val (.int p2), .val (.int p3), .val (.long tI.toInt64), .second, .val (.int kI), .val (.int dI), .val (.int zI), .val (.int sI), .val (.int jI), .val (.long (1 : Int64)), .second, .val (.double FP.dconst0), .second, .val (.double dr), .second, .unset, .unset, .unset, .unset, .unset, .unset, .unset, .unset, .unset] [(.ref b7)])) t := fun t k => by
      refine XS.astore X8.here hx rfl (hb hby at_128) rfl rfl (l' := #[.val (.int p0), .val (.int p1), .val (.int p2), .val (.int p3), .val (.long tI.toInt64), .second, .val (.int kI), .val (.int dI), .val (.int zI), .val (.int sI), .val (.int jI), .val (.long (1 : Int64)), .second, .val (.double FP.dconst0), .second, .val (.double dr), .second, .val (.ref b7), .unset, .unset, .unset, .unset, .unset, .unset, .unset, .unset]) rfl ?_
      show Steps p.tables e below (T8.setTop (mkF m 130 #[.val (.int p0), .val (.int p1), .val (.int p2), .val (.int p3), .val (.long tI.toInt64), .second, .val (.int kI), .val (.int dI), .val (.int zI), .val (.int sI), .val (.int jI), .val (.long (1 : Int64)), .second, .val (.double FP.dconst0), .second, .val (.double dr), .second, .val (.ref b7), .unset, .unset, .unset, .unset, .unset, .unset, .unset, .unset] [])) _
      refine XS.aload X8.here hx rfl (hb hby at_130) rfl rfl ?_
      show Steps p.tables e below (T8.setTop (mkF m 132 #[.val (.int p0), .val (.int p1), .val (.int p2), .val (.int p3), .val (.long tI.toInt64), .second, .val (.int kI), .val (.int dI), .val (.int zI), .val (.int sI), .val (.int jI), .val (.long (1 : Int64)), .second, .val (.double FP.dconst0), .second, .val (.double dr), .second, .val (.ref b7), .unset, .unset, .unset, .unset, .unset, .unset, .unset, .unset] [(.ref b7)])) _
      refine XS.lload X8.here hx rfl (hb hby at_132) rfl ?_
      show Steps p.tables e below (T8.setTop (mkF m 134 #[.val (.int p0), .val (.int p1), .val (.int p2), .val (.int p3), .val (.long tI.toInt64), .second, .val (.int kI), .val (.int dI), .val (.int zI), .val (.int sI), .val (.int jI), .val (.long (1 : Int64)), .second, .val (.double FP.dconst0), .second, .val (.double dr), .second, .val (.ref b7), .unset, .unset, .unset, .unset, .unset, .unset, .unset, .unset] [(.long tI.toInt64), (.ref b7)])) _
      refine XS.l2i X8.here hx rfl (hb hby at_134) rfl ?_
      show Steps p.tables e below (T8.setTop (mkF m 135 #[.val (.int p0), .val (.int p1), .val (.int p2), .val (.int p3), .val (.long tI.toInt64), .second, .val (.int kI), .val (.int dI), .val (.int zI), .val (.int sI), .val (.int jI), .val (.long (1 : Int64)), .second, .val (.double FP.dconst0), .second, .val (.double dr), .second, .val (.ref b7), .unset, .unset, .unset, .unset, .unset, .unset, .unset, .unset] [(.int tI.toInt64.toInt32), (.ref b7)])) _
      refine XS.dload X8.here hx rfl (hb hby at_135) rfl ?_
      show Steps p.tables e below (T8.setTop (mkF m 137 #[.val (.int p0), .val (.int p1), .val (.int p2), .val (.int p3), .val (.long tI.toInt64), .second, .val (.int kI), .val (.int dI), .val (.int zI), .val (.int sI), .val (.int jI), .val (.long (1 : Int64)), .second, .val (.double FP.dconst0), .second, .val (.double dr), .second, .val (.ref b7), .unset, .unset, .unset, .unset, .unset, .unset, .unset, .unset] [(.double dr), (.int tI.toInt64.toInt32), (.ref b7)])) _
      exact k
    refine own_go k11 ?_
    clear k11
    obtain ⟨cq10, kq10, q10a, q10b, q10c⟩ := isOf hZ8 rfl p8_0
    obtain ⟨_, _, ⟨T10, L10, k10, n10⟩, -, X10, ⟨Lc10, hQ10, l10, y10, z10⟩, st10⟩ := X8.virtualBack hx (y := (⟨"com/example/likelihood/likelihood/ranking/Bm25L", "frequencyWeight", "(ID)D"⟩ : MethodName)) (z := (⟨"com/example/likelihood/likelihood/ranking/Bm25L", "frequencyWeight", "(ID)D"⟩ : MethodName)) hown8 (mvT hZ8 (hw _ (List.mem_of_getElem? (i := 57) rfl))) (mvT hZ8 (hw _ (List.mem_of_getElem? (i := 58) rfl))) (notFace_of_selects (args := #[]) (mvT hZ8 (hw _ (List.mem_of_getElem? (i := 60) rfl)))) (mvT hZ8 (hw _ (List.mem_of_getElem? (i := 60) rfl))) (mvT hZ8 (hw _ (List.mem_of_getElem? (i := 59) rfl))) (by decide) (backOf (W := 0) (own_rm_fw l Z a0 hw [] b7 tI.toInt64.toInt32 dr dk FP.dconst0 dd K Dl T J S Bn Rn T8.heap n0 Z8 hK hDl hT0 hT1 hJ hS hBn hRn hX (by rw [own_l2i]; exact hT) q_dk q_db q_dd q_dr p8_3 p8_4 p8_5) hZ8 (hw _ (List.mem_of_getElem? (i := 61) rfl)) (hw _ (List.mem_of_getElem? (i := 7) rfl)) (by decide) (by decide)) q10a q10c (g := (mkF m 137 #[.val (.int p0), .val (.int p1), .val (.int p2), .val (.int p3), .val (.long tI.toInt64), .second, .val (.int kI), .val (.int dI), .val (.int zI), .val (.int sI), .val (.int jI), .val (.long (1 : Int64)), .second, .val (.double FP.dconst0), .second, .val (.double dr), .second, .val (.ref b7), .unset, .unset, .unset, .unset, .unset, .unset, .unset, .unset] [(.double dr), (.int tI.toInt64.toInt32), (.ref b7)])) rfl (by rw [hml]; rfl) (Steps.refl _) (argsL := [(.int tI.toInt64.toInt32), (.double dr)]) (rest := []) (lenOf own_pd_28ID29D rfl) rfl (by show 2 * 0 + _ ≤ _; exact Nat.le_of_eq rfl) (hb hby at_137) (fun _ _ => ⟨rfl, rfl, (by decide : 9 + 0 ≤ _), (by decide : 61 + 0 ≤ _)⟩)
    dsimp only [Pt.U, Pt.locs, Pt.cells, Pt.slots] at X10 l10 y10 z10 st10 hQ10
    subst l10 y10 z10
    obtain ⟨dw, rfl, q_dw, N10q, eh10⟩ := hQ10
    have N10 := Fr.app N8 N10q
    refine own_go (fun _ k => st10.trans k) ?_
    obtain ⟨dp, h_dp⟩ : ∃ z : UInt64, FP.l2d ((kI.toInt64 + (1 : Int64)) * (tI.toInt64 + (dI.toInt64 * (1 : Int64)))) = z := ⟨_, rfl⟩
    have q_dp : own_U dp ((own_A K Dl T J) * 2 ^ (1074 - 0)) := by rw [← h_dp]; exact (own_l2d (own_p hKi hDi ((c_i2l tI).trans hT) hp' hK hDl hT1 hJ) (by omega))
    obtain ⟨dq, h_dq⟩ : ∃ z : UInt64, FP.l2d (((kI.toInt64 * (1 : Int64)) + tI.toInt64) + (dI.toInt64 * (1 : Int64))) = z := ⟨_, rfl⟩
    have q_dq : own_U dq ((own_D K Dl T J) * 2 ^ (1074 - 0)) := by rw [← h_dq]; exact (own_l2d (own_q hKi hDi ((c_i2l tI).trans hT) hp' hK hDl hT1 hJ) (by unfold own_D; omega))
    obtain ⟨dE, h_dE⟩ : ∃ z : UInt64, FP.ddiv dp dq = z := ⟨_, rfl⟩
    have q_dE : Jvm.FP.Core.val64 dE = Jvm.FP.Core.roundRatio Jvm.FP.Core.b64 false (own_A K Dl T J) (own_D K Dl T J) 0 := by rw [← h_dE]; exact (own_div q_dp q_dq (Nat.mul_pos hD0 (Nat.two_pow_pos _)) hD0 (by ac_rfl))
    have k12 : ∀ t, Steps p.tables e below (T10.setTop (mkF m 199 #[.val (.int p0), .val (.int p1), .val (.int p2), .val (.int p3), .val (.long tI.toInt64), .second, .val (.int kI), .val (.int dI), .val (.int zI), .val (.int sI), .val (.int jI), .val (.long (1 : Int64)), .second, .val (.double FP.dconst0), .second, .val (.double dr), .second, .val (.ref b7), .val (.double dw), .second, .val (.long ((kI.toInt64 + (1 : Int64)) * (tI.toInt64 + (dI.toInt64 * (1 : Int64))))), .second, .val (.long (((kI.toInt64 * (1 : Int64)) + tI.toInt64) + (dI.toInt64 * (1 : Int64)))), .second, .val (.double dE), .second] [(.int (1 : Int32))])) t → Steps p.tables e below (T10.setTop (mkF m 140 #[.val (.int p0), .val (.int p1), .val (.int p2), .val (.int p3), .val (.long tI.toInt64), .second, .val (.int kI), .val (.int dI), .val (.int zI), .val (.int sI), .val (.int jI), .val (.long (1 : Int64)), .second, .val (.double FP.dconst0), .second, .val (.double dr), .second, .val (.ref b7), .unset, .unset, .unset, .unset, .unset, .unset, .unset, .unset] [(.double dw)])) t := fun t k => by
      refine XS.dstore X10.here hx rfl (hb hby at_140) rfl (l' := #[.val (.int p0), .val (.int p1), .val (.int p2), .val (.int p3), .val (.long tI.toInt64), .second, .val (.int kI), .val (.int dI), .val (.int zI), .val (.int sI), .val (.int jI), .val (.long (1 : Int64)), .second, .val (.double FP.dconst0), .second, .val (.double dr), .second, .val (.ref b7), .val (.double dw), .second, .unset, .unset, .unset, .unset, .unset, .unset]) rfl ?_
      show Steps p.tables e below (T10.setTop (mkF m 142 #[.val (.int p0), .val (.int p1), .val (.int p2), .val (.int p3), .val (.long tI.toInt64), .second, .val (.int kI), .val (.int dI), .val (.int zI), .val (.int sI), .val (.int jI), .val (.long (1 : Int64)), .second, .val (.double FP.dconst0), .second, .val (.double dr), .second, .val (.ref b7), .val (.double dw), .second, .unset, .unset, .unset, .unset, .unset, .unset] [])) _
      refine XS.iload X10.here hx rfl (hb hby at_142) rfl ?_
      show Steps p.tables e below (T10.setTop (mkF m 144 #[.val (.int p0), .val (.int p1), .val (.int p2), .val (.int p3), .val (.long tI.toInt64), .second, .val (.int kI), .val (.int dI), .val (.int zI), .val (.int sI), .val (.int jI), .val (.long (1 : Int64)), .second, .val (.double FP.dconst0), .second, .val (.double dr), .second, .val (.ref b7), .val (.double dw), .second, .unset, .unset, .unset, .unset, .unset, .unset] [(.int kI)])) _
      refine XS.i2l X10.here hx rfl (hb hby at_144) rfl ?_
      show Steps p.tables e below (T10.setTop (mkF m 145 #[.val (.int p0), .val (.int p1), .val (.int p2), .val (.int p3), .val (.long tI.toInt64), .second, .val (.int kI), .val (.int dI), .val (.int zI), .val (.int sI), .val (.int jI), .val (.long (1 : Int64)), .second, .val (.double FP.dconst0), .second, .val (.double dr), .second, .val (.ref b7), .val (.double dw), .second, .unset, .unset, .unset, .unset, .unset, .unset] [(.long kI.toInt64)])) _
      refine XS.lconst X10.here hx rfl (hb hby at_145) ?_
      show Steps p.tables e below (T10.setTop (mkF m 146 #[.val (.int p0), .val (.int p1), .val (.int p2), .val (.int p3), .val (.long tI.toInt64), .second, .val (.int kI), .val (.int dI), .val (.int zI), .val (.int sI), .val (.int jI), .val (.long (1 : Int64)), .second, .val (.double FP.dconst0), .second, .val (.double dr), .second, .val (.ref b7), .val (.double dw), .second, .unset, .unset, .unset, .unset, .unset, .unset] [(.long (1 : Int64)), (.long kI.toInt64)])) _
      refine XS.ladd X10.here hx rfl (hb hby at_146) rfl ?_
      show Steps p.tables e below (T10.setTop (mkF m 147 #[.val (.int p0), .val (.int p1), .val (.int p2), .val (.int p3), .val (.long tI.toInt64), .second, .val (.int kI), .val (.int dI), .val (.int zI), .val (.int sI), .val (.int jI), .val (.long (1 : Int64)), .second, .val (.double FP.dconst0), .second, .val (.double dr), .second, .val (.ref b7), .val (.double dw), .second, .unset, .unset, .unset, .unset, .unset, .unset] [(.long (kI.toInt64 + (1 : Int64)))])) _
      refine XS.lload X10.here hx rfl (hb hby at_147) rfl ?_
      show Steps p.tables e below (T10.setTop (mkF m 149 #[.val (.int p0), .val (.int p1), .val (.int p2), .val (.int p3), .val (.long tI.toInt64), .second, .val (.int kI), .val (.int dI), .val (.int zI), .val (.int sI), .val (.int jI), .val (.long (1 : Int64)), .second, .val (.double FP.dconst0), .second, .val (.double dr), .second, .val (.ref b7), .val (.double dw), .second, .unset, .unset, .unset, .unset, .unset, .unset] [(.long tI.toInt64), (.long (kI.toInt64 + (1 : Int64)))])) _
      refine XS.iload X10.here hx rfl (hb hby at_149) rfl ?_
      show Steps p.tables e below (T10.setTop (mkF m 151 #[.val (.int p0), .val (.int p1), .val (.int p2), .val (.int p3), .val (.long tI.toInt64), .second, .val (.int kI), .val (.int dI), .val (.int zI), .val (.int sI), .val (.int jI), .val (.long (1 : Int64)), .second, .val (.double FP.dconst0), .second, .val (.double dr), .second, .val (.ref b7), .val (.double dw), .second, .unset, .unset, .unset, .unset, .unset, .unset] [(.int dI), (.long tI.toInt64), (.long (kI.toInt64 + (1 : Int64)))])) _
      refine XS.i2l X10.here hx rfl (hb hby at_151) rfl ?_
      show Steps p.tables e below (T10.setTop (mkF m 152 #[.val (.int p0), .val (.int p1), .val (.int p2), .val (.int p3), .val (.long tI.toInt64), .second, .val (.int kI), .val (.int dI), .val (.int zI), .val (.int sI), .val (.int jI), .val (.long (1 : Int64)), .second, .val (.double FP.dconst0), .second, .val (.double dr), .second, .val (.ref b7), .val (.double dw), .second, .unset, .unset, .unset, .unset, .unset, .unset] [(.long dI.toInt64), (.long tI.toInt64), (.long (kI.toInt64 + (1 : Int64)))])) _
      refine XS.lload X10.here hx rfl (hb hby at_152) rfl ?_
      show Steps p.tables e below (T10.setTop (mkF m 154 #[.val (.int p0), .val (.int p1), .val (.int p2), .val (.int p3), .val (.long tI.toInt64), .second, .val (.int kI), .val (.int dI), .val (.int zI), .val (.int sI), .val (.int jI), .val (.long (1 : Int64)), .second, .val (.double FP.dconst0), .second, .val (.double dr), .second, .val (.ref b7), .val (.double dw), .second, .unset, .unset, .unset, .unset, .unset, .unset] [(.long (1 : Int64)), (.long dI.toInt64), (.long tI.toInt64), (.long (kI.toInt64 + (1 : Int64)))])) _
      refine XS.lmul X10.here hx rfl (hb hby at_154) rfl ?_
      show Steps p.tables e below (T10.setTop (mkF m 155 #[.val (.int p0), .val (.int p1), .val (.int p2), .val (.int p3), .val (.long tI.toInt64), .second, .val (.int kI), .val (.int dI), .val (.int zI), .val (.int sI), .val (.int jI), .val (.long (1 : Int64)), .second, .val (.double FP.dconst0), .second, .val (.double dr), .second, .val (.ref b7), .val (.double dw), .second, .unset, .unset, .unset, .unset, .unset, .unset] [(.long (dI.toInt64 * (1 : Int64))), (.long tI.toInt64), (.long (kI.toInt64 + (1 : Int64)))])) _
      refine XS.ladd X10.here hx rfl (hb hby at_155) rfl ?_
      show Steps p.tables e below (T10.setTop (mkF m 156 #[.val (.int p0), .val (.int p1), .val (.int p2), .val (.int p3), .val (.long tI.toInt64), .second, .val (.int kI), .val (.int dI), .val (.int zI), .val (.int sI), .val (.int jI), .val (.long (1 : Int64)), .second, .val (.double FP.dconst0), .second, .val (.double dr), .second, .val (.ref b7), .val (.double dw), .second, .unset, .unset, .unset, .unset, .unset, .unset] [(.long (tI.toInt64 + (dI.toInt64 * (1 : Int64)))), (.long (kI.toInt64 + (1 : Int64)))])) _
      refine XS.lmul X10.here hx rfl (hb hby at_156) rfl ?_
      show Steps p.tables e below (T10.setTop (mkF m 157 #[.val (.int p0), .val (.int p1), .val (.int p2), .val (.int p3), .val (.long tI.toInt64), .second, .val (.int kI), .val (.int dI), .val (.int zI), .val (.int sI), .val (.int jI), .val (.long (1 : Int64)), .second, .val (.double FP.dconst0), .second, .val (.double dr), .second, .val (.ref b7), .val (.double dw), .second, .unset, .unset, .unset, .unset, .unset, .unset] [(.long ((kI.toInt64 + (1 : Int64)) * (tI.toInt64 + (dI.toInt64 * (1 : Int64)))))])) _
      refine XS.lstore X10.here hx rfl (hb hby at_157) rfl (l' := #[.val (.int p0), .val (.int p1), .val (.int p2), .val (.int p3), .val (.long tI.toInt64), .second, .val (.int kI), .val (.int dI), .val (.int zI), .val (.int sI), .val (.int jI), .val (.long (1 : Int64)), .second, .val (.double FP.dconst0), .second, .val (.double dr), .second, .val (.ref b7), .val (.double dw), .second, .val (.long ((kI.toInt64 + (1 : Int64)) * (tI.toInt64 + (dI.toInt64 * (1 : Int64))))), .second, .unset, .unset, .unset, .unset]) rfl ?_
      show Steps p.tables e below (T10.setTop (mkF m 159 #[.val (.int p0), .val (.int p1), .val (.int p2), .val (.int p3), .val (.long tI.toInt64), .second, .val (.int kI), .val (.int dI), .val (.int zI), .val (.int sI), .val (.int jI), .val (.long (1 : Int64)), .second, .val (.double FP.dconst0), .second, .val (.double dr), .second, .val (.ref b7), .val (.double dw), .second, .val (.long ((kI.toInt64 + (1 : Int64)) * (tI.toInt64 + (dI.toInt64 * (1 : Int64))))), .second, .unset, .unset, .unset, .unset] [])) _
      refine XS.iload X10.here hx rfl (hb hby at_159) rfl ?_
      show Steps p.tables e below (T10.setTop (mkF m 161 #[.val (.int p0), .val (.int p1), .val (.int p2), .val (.int p3), .val (.long tI.toInt64), .second, .val (.int kI), .val (.int dI), .val (.int zI), .val (.int sI), .val (.int jI), .val (.long (1 : Int64)), .second, .val (.double FP.dconst0), .second, .val (.double dr), .second, .val (.ref b7), .val (.double dw), .second, .val (.long ((kI.toInt64 + (1 : Int64)) * (tI.toInt64 + (dI.toInt64 * (1 : Int64))))), .second, .unset, .unset, .unset, .unset] [(.int kI)])) _
      refine XS.i2l X10.here hx rfl (hb hby at_161) rfl ?_
      show Steps p.tables e below (T10.setTop (mkF m 162 #[.val (.int p0), .val (.int p1), .val (.int p2), .val (.int p3), .val (.long tI.toInt64), .second, .val (.int kI), .val (.int dI), .val (.int zI), .val (.int sI), .val (.int jI), .val (.long (1 : Int64)), .second, .val (.double FP.dconst0), .second, .val (.double dr), .second, .val (.ref b7), .val (.double dw), .second, .val (.long ((kI.toInt64 + (1 : Int64)) * (tI.toInt64 + (dI.toInt64 * (1 : Int64))))), .second, .unset, .unset, .unset, .unset] [(.long kI.toInt64)])) _
      refine XS.lload X10.here hx rfl (hb hby at_162) rfl ?_
      show Steps p.tables e below (T10.setTop (mkF m 164 #[.val (.int p0), .val (.int p1), .val (.int p2), .val (.int p3), .val (.long tI.toInt64), .second, .val (.int kI), .val (.int dI), .val (.int zI), .val (.int sI), .val (.int jI), .val (.long (1 : Int64)), .second, .val (.double FP.dconst0), .second, .val (.double dr), .second, .val (.ref b7), .val (.double dw), .second, .val (.long ((kI.toInt64 + (1 : Int64)) * (tI.toInt64 + (dI.toInt64 * (1 : Int64))))), .second, .unset, .unset, .unset, .unset] [(.long (1 : Int64)), (.long kI.toInt64)])) _
      refine XS.lmul X10.here hx rfl (hb hby at_164) rfl ?_
      show Steps p.tables e below (T10.setTop (mkF m 165 #[.val (.int p0), .val (.int p1), .val (.int p2), .val (.int p3), .val (.long tI.toInt64), .second, .val (.int kI), .val (.int dI), .val (.int zI), .val (.int sI), .val (.int jI), .val (.long (1 : Int64)), .second, .val (.double FP.dconst0), .second, .val (.double dr), .second, .val (.ref b7), .val (.double dw), .second, .val (.long ((kI.toInt64 + (1 : Int64)) * (tI.toInt64 + (dI.toInt64 * (1 : Int64))))), .second, .unset, .unset, .unset, .unset] [(.long (kI.toInt64 * (1 : Int64)))])) _
      refine XS.lload X10.here hx rfl (hb hby at_165) rfl ?_
      show Steps p.tables e below (T10.setTop (mkF m 167 #[.val (.int p0), .val (.int p1), .val (.int p2), .val (.int p3), .val (.long tI.toInt64), .second, .val (.int kI), .val (.int dI), .val (.int zI), .val (.int sI), .val (.int jI), .val (.long (1 : Int64)), .second, .val (.double FP.dconst0), .second, .val (.double dr), .second, .val (.ref b7), .val (.double dw), .second, .val (.long ((kI.toInt64 + (1 : Int64)) * (tI.toInt64 + (dI.toInt64 * (1 : Int64))))), .second, .unset, .unset, .unset, .unset] [(.long tI.toInt64), (.long (kI.toInt64 * (1 : Int64)))])) _
      refine XS.ladd X10.here hx rfl (hb hby at_167) rfl ?_
      show Steps p.tables e below (T10.setTop (mkF m 168 #[.val (.int p0), .val (.int p1), .val (.int p2), .val (.int p3), .val (.long tI.toInt64), .second, .val (.int kI), .val (.int dI), .val (.int zI), .val (.int sI), .val (.int jI), .val (.long (1 : Int64)), .second, .val (.double FP.dconst0), .second, .val (.double dr), .second, .val (.ref b7), .val (.double dw), .second, .val (.long ((kI.toInt64 + (1 : Int64)) * (tI.toInt64 + (dI.toInt64 * (1 : Int64))))), .second, .unset, .unset, .unset, .unset] [(.long ((kI.toInt64 * (1 : Int64)) + tI.toInt64))])) _
      refine XS.iload X10.here hx rfl (hb hby at_168) rfl ?_
      show Steps p.tables e below (T10.setTop (mkF m 170 #[.val (.int p0), .val (.int p1), .val (.int p2), .val (.int p3), .val (.long tI.toInt64), .second, .val (.int kI), .val (.int dI), .val (.int zI), .val (.int sI), .val (.int jI), .val (.long (1 : Int64)), .second, .val (.double FP.dconst0), .second, .val (.double dr), .second, .val (.ref b7), .val (.double dw), .second, .val (.long ((kI.toInt64 + (1 : Int64)) * (tI.toInt64 + (dI.toInt64 * (1 : Int64))))), .second, .unset, .unset, .unset, .unset] [(.int dI), (.long ((kI.toInt64 * (1 : Int64)) + tI.toInt64))])) _
      refine XS.i2l X10.here hx rfl (hb hby at_170) rfl ?_
      show Steps p.tables e below (T10.setTop (mkF m 171 #[.val (.int p0), .val (.int p1), .val (.int p2), .val (.int p3), .val (.long tI.toInt64), .second, .val (.int kI), .val (.int dI), .val (.int zI), .val (.int sI), .val (.int jI), .val (.long (1 : Int64)), .second, .val (.double FP.dconst0), .second, .val (.double dr), .second, .val (.ref b7), .val (.double dw), .second, .val (.long ((kI.toInt64 + (1 : Int64)) * (tI.toInt64 + (dI.toInt64 * (1 : Int64))))), .second, .unset, .unset, .unset, .unset] [(.long dI.toInt64), (.long ((kI.toInt64 * (1 : Int64)) + tI.toInt64))])) _
      refine XS.lload X10.here hx rfl (hb hby at_171) rfl ?_
      show Steps p.tables e below (T10.setTop (mkF m 173 #[.val (.int p0), .val (.int p1), .val (.int p2), .val (.int p3), .val (.long tI.toInt64), .second, .val (.int kI), .val (.int dI), .val (.int zI), .val (.int sI), .val (.int jI), .val (.long (1 : Int64)), .second, .val (.double FP.dconst0), .second, .val (.double dr), .second, .val (.ref b7), .val (.double dw), .second, .val (.long ((kI.toInt64 + (1 : Int64)) * (tI.toInt64 + (dI.toInt64 * (1 : Int64))))), .second, .unset, .unset, .unset, .unset] [(.long (1 : Int64)), (.long dI.toInt64), (.long ((kI.toInt64 * (1 : Int64)) + tI.toInt64))])) _
      refine XS.lmul X10.here hx rfl (hb hby at_173) rfl ?_
      show Steps p.tables e below (T10.setTop (mkF m 174 #[.val (.int p0), .val (.int p1), .val (.int p2), .val (.int p3), .val (.long tI.toInt64), .second, .val (.int kI), .val (.int dI), .val (.int zI), .val (.int sI), .val (.int jI), .val (.long (1 : Int64)), .second, .val (.double FP.dconst0), .second, .val (.double dr), .second, .val (.ref b7), .val (.double dw), .second, .val (.long ((kI.toInt64 + (1 : Int64)) * (tI.toInt64 + (dI.toInt64 * (1 : Int64))))), .second, .unset, .unset, .unset, .unset] [(.long (dI.toInt64 * (1 : Int64))), (.long ((kI.toInt64 * (1 : Int64)) + tI.toInt64))])) _
      refine XS.ladd X10.here hx rfl (hb hby at_174) rfl ?_
      show Steps p.tables e below (T10.setTop (mkF m 175 #[.val (.int p0), .val (.int p1), .val (.int p2), .val (.int p3), .val (.long tI.toInt64), .second, .val (.int kI), .val (.int dI), .val (.int zI), .val (.int sI), .val (.int jI), .val (.long (1 : Int64)), .second, .val (.double FP.dconst0), .second, .val (.double dr), .second, .val (.ref b7), .val (.double dw), .second, .val (.long ((kI.toInt64 + (1 : Int64)) * (tI.toInt64 + (dI.toInt64 * (1 : Int64))))), .second, .unset, .unset, .unset, .unset] [(.long (((kI.toInt64 * (1 : Int64)) + tI.toInt64) + (dI.toInt64 * (1 : Int64))))])) _
      refine XS.lstore X10.here hx rfl (hb hby at_175) rfl (l' := #[.val (.int p0), .val (.int p1), .val (.int p2), .val (.int p3), .val (.long tI.toInt64), .second, .val (.int kI), .val (.int dI), .val (.int zI), .val (.int sI), .val (.int jI), .val (.long (1 : Int64)), .second, .val (.double FP.dconst0), .second, .val (.double dr), .second, .val (.ref b7), .val (.double dw), .second, .val (.long ((kI.toInt64 + (1 : Int64)) * (tI.toInt64 + (dI.toInt64 * (1 : Int64))))), .second, .val (.long (((kI.toInt64 * (1 : Int64)) + tI.toInt64) + (dI.toInt64 * (1 : Int64)))), .second, .unset, .unset]) rfl ?_
      show Steps p.tables e below (T10.setTop (mkF m 177 #[.val (.int p0), .val (.int p1), .val (.int p2), .val (.int p3), .val (.long tI.toInt64), .second, .val (.int kI), .val (.int dI), .val (.int zI), .val (.int sI), .val (.int jI), .val (.long (1 : Int64)), .second, .val (.double FP.dconst0), .second, .val (.double dr), .second, .val (.ref b7), .val (.double dw), .second, .val (.long ((kI.toInt64 + (1 : Int64)) * (tI.toInt64 + (dI.toInt64 * (1 : Int64))))), .second, .val (.long (((kI.toInt64 * (1 : Int64)) + tI.toInt64) + (dI.toInt64 * (1 : Int64)))), .second, .unset, .unset] [])) _
      refine XS.lload X10.here hx rfl (hb hby at_177) rfl ?_
      show Steps p.tables e below (T10.setTop (mkF m 179 #[.val (.int p0), .val (.int p1), .val (.int p2), .val (.int p3), .val (.long tI.toInt64), .second, .val (.int kI), .val (.int dI), .val (.int zI), .val (.int sI), .val (.int jI), .val (.long (1 : Int64)), .second, .val (.double FP.dconst0), .second, .val (.double dr), .second, .val (.ref b7), .val (.double dw), .second, .val (.long ((kI.toInt64 + (1 : Int64)) * (tI.toInt64 + (dI.toInt64 * (1 : Int64))))), .second, .val (.long (((kI.toInt64 * (1 : Int64)) + tI.toInt64) + (dI.toInt64 * (1 : Int64)))), .second, .unset, .unset] [(.long ((kI.toInt64 + (1 : Int64)) * (tI.toInt64 + (dI.toInt64 * (1 : Int64)))))])) _
      refine XS.l2dS X10.here hx rfl (hb hby at_179) rfl h_dp ?_
      show Steps p.tables e below (T10.setTop (mkF m 180 #[.val (.int p0), .val (.int p1), .val (.int p2), .val (.int p3), .val (.long tI.toInt64), .second, .val (.int kI), .val (.int dI), .val (.int zI), .val (.int sI), .val (.int jI), .val (.long (1 : Int64)), .second, .val (.double FP.dconst0), .second, .val (.double dr), .second, .val (.ref b7), .val (.double dw), .second, .val (.long ((kI.toInt64 + (1 : Int64)) * (tI.toInt64 + (dI.toInt64 * (1 : Int64))))), .second, .val (.long (((kI.toInt64 * (1 : Int64)) + tI.toInt64) + (dI.toInt64 * (1 : Int64)))), .second, .unset, .unset] [(.double dp)])) _
      refine XS.lload X10.here hx rfl (hb hby at_180) rfl ?_
      show Steps p.tables e below (T10.setTop (mkF m 182 #[.val (.int p0), .val (.int p1), .val (.int p2), .val (.int p3), .val (.long tI.toInt64), .second, .val (.int kI), .val (.int dI), .val (.int zI), .val (.int sI), .val (.int jI), .val (.long (1 : Int64)), .second, .val (.double FP.dconst0), .second, .val (.double dr), .second, .val (.ref b7), .val (.double dw), .second, .val (.long ((kI.toInt64 + (1 : Int64)) * (tI.toInt64 + (dI.toInt64 * (1 : Int64))))), .second, .val (.long (((kI.toInt64 * (1 : Int64)) + tI.toInt64) + (dI.toInt64 * (1 : Int64)))), .second, .unset, .unset] [(.long (((kI.toInt64 * (1 : Int64)) + tI.toInt64) + (dI.toInt64 * (1 : Int64)))), (.double dp)])) _
      refine XS.l2dS X10.here hx rfl (hb hby at_182) rfl h_dq ?_
      show Steps p.tables e below (T10.setTop (mkF m 183 #[.val (.int p0), .val (.int p1), .val (.int p2), .val (.int p3), .val (.long tI.toInt64), .second, .val (.int kI), .val (.int dI), .val (.int zI), .val (.int sI), .val (.int jI), .val (.long (1 : Int64)), .second, .val (.double FP.dconst0), .second, .val (.double dr), .second, .val (.ref b7), .val (.double dw), .second, .val (.long ((kI.toInt64 + (1 : Int64)) * (tI.toInt64 + (dI.toInt64 * (1 : Int64))))), .second, .val (.long (((kI.toInt64 * (1 : Int64)) + tI.toInt64) + (dI.toInt64 * (1 : Int64)))), .second, .unset, .unset] [(.double dq), (.double dp)])) _
      refine XS.ddivS X10.here hx rfl (hb hby at_183) rfl (by rw [h_dE]; exact own_qnn q_dE) h_dE ?_
      show Steps p.tables e below (T10.setTop (mkF m 184 #[.val (.int p0), .val (.int p1), .val (.int p2), .val (.int p3), .val (.long tI.toInt64), .second, .val (.int kI), .val (.int dI), .val (.int zI), .val (.int sI), .val (.int jI), .val (.long (1 : Int64)), .second, .val (.double FP.dconst0), .second, .val (.double dr), .second, .val (.ref b7), .val (.double dw), .second, .val (.long ((kI.toInt64 + (1 : Int64)) * (tI.toInt64 + (dI.toInt64 * (1 : Int64))))), .second, .val (.long (((kI.toInt64 * (1 : Int64)) + tI.toInt64) + (dI.toInt64 * (1 : Int64)))), .second, .unset, .unset] [(.double dE)])) _
      refine XS.dstore X10.here hx rfl (hb hby at_184) rfl (l' := #[.val (.int p0), .val (.int p1), .val (.int p2), .val (.int p3), .val (.long tI.toInt64), .second, .val (.int kI), .val (.int dI), .val (.int zI), .val (.int sI), .val (.int jI), .val (.long (1 : Int64)), .second, .val (.double FP.dconst0), .second, .val (.double dr), .second, .val (.ref b7), .val (.double dw), .second, .val (.long ((kI.toInt64 + (1 : Int64)) * (tI.toInt64 + (dI.toInt64 * (1 : Int64))))), .second, .val (.long (((kI.toInt64 * (1 : Int64)) + tI.toInt64) + (dI.toInt64 * (1 : Int64)))), .second, .val (.double dE), .second]) rfl ?_
      show Steps p.tables e below (T10.setTop (mkF m 186 #[.val (.int p0), .val (.int p1), .val (.int p2), .val (.int p3), .val (.long tI.toInt64), .second, .val (.int kI), .val (.int dI), .val (.int zI), .val (.int sI), .val (.int jI), .val (.long (1 : Int64)), .second, .val (.double FP.dconst0), .second, .val (.double dr), .second, .val (.ref b7), .val (.double dw), .second, .val (.long ((kI.toInt64 + (1 : Int64)) * (tI.toInt64 + (dI.toInt64 * (1 : Int64))))), .second, .val (.long (((kI.toInt64 * (1 : Int64)) + tI.toInt64) + (dI.toInt64 * (1 : Int64)))), .second, .val (.double dE), .second] [])) _
      refine XS.dload X10.here hx rfl (hb hby at_186) rfl ?_
      show Steps p.tables e below (T10.setTop (mkF m 188 #[.val (.int p0), .val (.int p1), .val (.int p2), .val (.int p3), .val (.long tI.toInt64), .second, .val (.int kI), .val (.int dI), .val (.int zI), .val (.int sI), .val (.int jI), .val (.long (1 : Int64)), .second, .val (.double FP.dconst0), .second, .val (.double dr), .second, .val (.ref b7), .val (.double dw), .second, .val (.long ((kI.toInt64 + (1 : Int64)) * (tI.toInt64 + (dI.toInt64 * (1 : Int64))))), .second, .val (.long (((kI.toInt64 * (1 : Int64)) + tI.toInt64) + (dI.toInt64 * (1 : Int64)))), .second, .val (.double dE), .second] [(.double dw)])) _
      refine XS.dload X10.here hx rfl (hb hby at_188) rfl ?_
      show Steps p.tables e below (T10.setTop (mkF m 190 #[.val (.int p0), .val (.int p1), .val (.int p2), .val (.int p3), .val (.long tI.toInt64), .second, .val (.int kI), .val (.int dI), .val (.int zI), .val (.int sI), .val (.int jI), .val (.long (1 : Int64)), .second, .val (.double FP.dconst0), .second, .val (.double dr), .second, .val (.ref b7), .val (.double dw), .second, .val (.long ((kI.toInt64 + (1 : Int64)) * (tI.toInt64 + (dI.toInt64 * (1 : Int64))))), .second, .val (.long (((kI.toInt64 * (1 : Int64)) + tI.toInt64) + (dI.toInt64 * (1 : Int64)))), .second, .val (.double dE), .second] [(.double dE), (.double dw)])) _
      refine XS.dcmpS X10.here hx rfl (hb hby at_190) rfl (dcmpV_eq (own_same q_dw q_dE) (own_qnn q_dw) _) ?_
      show Steps p.tables e below (T10.setTop (mkF m 191 #[.val (.int p0), .val (.int p1), .val (.int p2), .val (.int p3), .val (.long tI.toInt64), .second, .val (.int kI), .val (.int dI), .val (.int zI), .val (.int sI), .val (.int jI), .val (.long (1 : Int64)), .second, .val (.double FP.dconst0), .second, .val (.double dr), .second, .val (.ref b7), .val (.double dw), .second, .val (.long ((kI.toInt64 + (1 : Int64)) * (tI.toInt64 + (dI.toInt64 * (1 : Int64))))), .second, .val (.long (((kI.toInt64 * (1 : Int64)) + tI.toInt64) + (dI.toInt64 * (1 : Int64)))), .second, .val (.double dE), .second] [(.int (0 : Int32))])) _
      refine XS.ifNo X10.here hx rfl (hb hby at_191) rfl ((if0 _ _).trans (teq (by decide : (0 : Int32) = (0 : Int32))).2) ?_
      show Steps p.tables e below (T10.setTop (mkF m 194 #[.val (.int p0), .val (.int p1), .val (.int p2), .val (.int p3), .val (.long tI.toInt64), .second, .val (.int kI), .val (.int dI), .val (.int zI), .val (.int sI), .val (.int jI), .val (.long (1 : Int64)), .second, .val (.double FP.dconst0), .second, .val (.double dr), .second, .val (.ref b7), .val (.double dw), .second, .val (.long ((kI.toInt64 + (1 : Int64)) * (tI.toInt64 + (dI.toInt64 * (1 : Int64))))), .second, .val (.long (((kI.toInt64 * (1 : Int64)) + tI.toInt64) + (dI.toInt64 * (1 : Int64)))), .second, .val (.double dE), .second] [])) _
      refine XS.iconst X10.here hx rfl (hb hby at_194) ?_
      show Steps p.tables e below (T10.setTop (mkF m 195 #[.val (.int p0), .val (.int p1), .val (.int p2), .val (.int p3), .val (.long tI.toInt64), .second, .val (.int kI), .val (.int dI), .val (.int zI), .val (.int sI), .val (.int jI), .val (.long (1 : Int64)), .second, .val (.double FP.dconst0), .second, .val (.double dr), .second, .val (.ref b7), .val (.double dw), .second, .val (.long ((kI.toInt64 + (1 : Int64)) * (tI.toInt64 + (dI.toInt64 * (1 : Int64))))), .second, .val (.long (((kI.toInt64 * (1 : Int64)) + tI.toInt64) + (dI.toInt64 * (1 : Int64)))), .second, .val (.double dE), .second] [(.int (1 : Int32))])) _
      refine XS.goto X10.here hx rfl (pc0 := 195) (pc' := 199) rfl (hb hby at_195) (by decide) (by decide) ?_
      show Steps p.tables e below (T10.setTop (mkF m 199 #[.val (.int p0), .val (.int p1), .val (.int p2), .val (.int p3), .val (.long tI.toInt64), .second, .val (.int kI), .val (.int dI), .val (.int zI), .val (.int sI), .val (.int jI), .val (.long (1 : Int64)), .second, .val (.double FP.dconst0), .second, .val (.double dr), .second, .val (.ref b7), .val (.double dw), .second, .val (.long ((kI.toInt64 + (1 : Int64)) * (tI.toInt64 + (dI.toInt64 * (1 : Int64))))), .second, .val (.long (((kI.toInt64 * (1 : Int64)) + tI.toInt64) + (dI.toInt64 * (1 : Int64)))), .second, .val (.double dE), .second] [(.int (1 : Int32))])) _
      exact k
    refine own_go k12 ?_
    clear k12
    obtain ⟨fs, hr, hrun, hended, hRW⟩ := X10.leaveW Sn8 (by rw [eh10]; exact hk8c) (v := some (.int (nar .boolean (1 : Int32)))) (fun h => by rw [Bd.returns] at h; cases h)
    refine ⟨_, _, retN X10 hx (t := .boolean) Bd.returns (by simp) (hb hby at_199) hr, hPf _ _ ⟨hrun, hended, _, _, rfl, ?_, hRW.1, hRW.2.1, hRW.2.2.1, hRW.2.2.2.mono (by decide) (by decide)⟩⟩
    show own_Q_law Z p0 p1 p2 p3 h0 n0 _ T10.heap _
    rw [eh10]
    exact ⟨rfl, N10⟩
  · skip
    have hs1 : 1 ≤ s0 := Nat.pos_of_ne_zero fun q => hc56_5 (Int32.toInt_inj.mp (by rw [hs0, q]; rfl))
    have k13 : ∀ t, Steps p.tables e below (T1.setTop (mkF m 81 #[.val (.int p0), .val (.int p1), .val (.int p2), .val (.int p3), .val (.long tI.toInt64), .second, .val (.int kI), .val (.int dI), .val (.int zI), .val (.int sI), .val (.int jI), .unset, .unset, .unset, .unset, .unset, .unset, .val (.int (sI - (1 : Int32))), .unset, .unset, .unset, .unset, .unset, .unset, .unset, .unset] [])) t → Steps p.tables e below (T1.setTop (mkF m 56 #[.val (.int p0), .val (.int p1), .val (.int p2), .val (.int p3), .val (.long tI.toInt64), .second, .val (.int kI), .val (.int dI), .val (.int zI), .val (.int sI), .val (.int jI), .unset, .unset, .unset, .unset, .unset, .unset, .unset, .unset, .unset, .unset, .unset, .unset, .unset, .unset, .unset] [(.int sI)])) t := fun t k => by
      refine XS.ifYes X1.here hx rfl (pc0 := 56) (pc' := 75) rfl (hb hby at_56) rfl ((if0 _ _).trans (feq hc56_5).2) (by decide) (by decide) ?_
      show Steps p.tables e below (T1.setTop (mkF m 75 #[.val (.int p0), .val (.int p1), .val (.int p2), .val (.int p3), .val (.long tI.toInt64), .second, .val (.int kI), .val (.int dI), .val (.int zI), .val (.int sI), .val (.int jI), .unset, .unset, .unset, .unset, .unset, .unset, .unset, .unset, .unset, .unset, .unset, .unset, .unset, .unset, .unset] [])) _
      refine XS.iload X1.here hx rfl (hb hby at_75) rfl ?_
      show Steps p.tables e below (T1.setTop (mkF m 77 #[.val (.int p0), .val (.int p1), .val (.int p2), .val (.int p3), .val (.long tI.toInt64), .second, .val (.int kI), .val (.int dI), .val (.int zI), .val (.int sI), .val (.int jI), .unset, .unset, .unset, .unset, .unset, .unset, .unset, .unset, .unset, .unset, .unset, .unset, .unset, .unset, .unset] [(.int sI)])) _
      refine XS.iconst X1.here hx rfl (hb hby at_77) ?_
      show Steps p.tables e below (T1.setTop (mkF m 78 #[.val (.int p0), .val (.int p1), .val (.int p2), .val (.int p3), .val (.long tI.toInt64), .second, .val (.int kI), .val (.int dI), .val (.int zI), .val (.int sI), .val (.int jI), .unset, .unset, .unset, .unset, .unset, .unset, .unset, .unset, .unset, .unset, .unset, .unset, .unset, .unset, .unset] [(.int (1 : Int32)), (.int sI)])) _
      refine XS.isub X1.here hx rfl (hb hby at_78) rfl ?_
      show Steps p.tables e below (T1.setTop (mkF m 79 #[.val (.int p0), .val (.int p1), .val (.int p2), .val (.int p3), .val (.long tI.toInt64), .second, .val (.int kI), .val (.int dI), .val (.int zI), .val (.int sI), .val (.int jI), .unset, .unset, .unset, .unset, .unset, .unset, .unset, .unset, .unset, .unset, .unset, .unset, .unset, .unset, .unset] [(.int (sI - (1 : Int32)))])) _
      refine XS.istore X1.here hx rfl (hb hby at_79) rfl (l' := #[.val (.int p0), .val (.int p1), .val (.int p2), .val (.int p3), .val (.long tI.toInt64), .second, .val (.int kI), .val (.int dI), .val (.int zI), .val (.int sI), .val (.int jI), .unset, .unset, .unset, .unset, .unset, .unset, .val (.int (sI - (1 : Int32))), .unset, .unset, .unset, .unset, .unset, .unset, .unset, .unset]) rfl ?_
      show Steps p.tables e below (T1.setTop (mkF m 81 #[.val (.int p0), .val (.int p1), .val (.int p2), .val (.int p3), .val (.long tI.toInt64), .second, .val (.int kI), .val (.int dI), .val (.int zI), .val (.int sI), .val (.int jI), .unset, .unset, .unset, .unset, .unset, .unset, .val (.int (sI - (1 : Int32))), .unset, .unset, .unset, .unset, .unset, .unset, .unset, .unset] [])) _
      exact k
    refine own_go k13 ?_
    clear k13
    obtain ⟨uI, h_uI⟩ : ∃ z, z = (sI - (1 : Int32)) := ⟨_, rfl⟩
    rw [← h_uI]
    obtain ⟨S, hSi, hS⟩ : ∃ n : Nat, uI.toInt = n ∧ n ≤ 3 := by rw [h_uI]; have c := c_isub sI 1; have r := rng32 (sI - 1); have o : (1 : Int32).toInt = 1 := rfl; exact ⟨s0 - 1, by omega, by omega⟩
    obtain ⟨d86, h_d86⟩ : ∃ z : UInt64, FP.i2d ((1 : Int32) <<< (uI &&& 31)) = z := ⟨_, rfl⟩
    have q_d86 : own_U d86 ((2 ^ S) * 2 ^ (1074 - 0)) := by rw [← h_d86]; exact (own_i2d (own_shI hSi hS))
    obtain ⟨db, h_db⟩ : ∃ z : UInt64, FP.ddiv FP.dconst1 d86 = z := ⟨_, rfl⟩
    have q_db : own_U db (1 * 2 ^ (1074 - S)) := by rw [← h_db]; exact (own_divx own_c1 q_d86 (Nat.mul_pos (Nat.two_pow_pos _) (Nat.two_pow_pos _)) (by decide) (by omega) (by show 1 * 2 ^ 1074 * 2 ^ S = 1 * (2 ^ S * 2 ^ 1074); ac_rfl))
    have k14 : ∀ t, Steps p.tables e below (T1.setTop (mkF m 96 #[.val (.int p0), .val (.int p1), .val (.int p2), .val (.int p3), .val (.long tI.toInt64), .second, .val (.int kI), .val (.int dI), .val (.int zI), .val (.int sI), .val (.int jI), .val (.long ((1 : Int64) <<< (jI &&& 0x3f).toInt64)), .second, .val (.double db), .second, .unset, .unset, .val (.int uI), .unset, .unset, .unset, .unset, .unset, .unset, .unset, .unset] [])) t → Steps p.tables e below (T1.setTop (mkF m 81 #[.val (.int p0), .val (.int p1), .val (.int p2), .val (.int p3), .val (.long tI.toInt64), .second, .val (.int kI), .val (.int dI), .val (.int zI), .val (.int sI), .val (.int jI), .unset, .unset, .unset, .unset, .unset, .unset, .val (.int uI), .unset, .unset, .unset, .unset, .unset, .unset, .unset, .unset] [])) t := fun t k => by
      refine XS.dconst1 X1.here hx rfl (hb hby at_81) rfl ?_
      show Steps p.tables e below (T1.setTop (mkF m 82 #[.val (.int p0), .val (.int p1), .val (.int p2), .val (.int p3), .val (.long tI.toInt64), .second, .val (.int kI), .val (.int dI), .val (.int zI), .val (.int sI), .val (.int jI), .unset, .unset, .unset, .unset, .unset, .unset, .val (.int uI), .unset, .unset, .unset, .unset, .unset, .unset, .unset, .unset] [(.double FP.dconst1)])) _
      refine XS.iconst X1.here hx rfl (hb hby at_82) ?_
      show Steps p.tables e below (T1.setTop (mkF m 83 #[.val (.int p0), .val (.int p1), .val (.int p2), .val (.int p3), .val (.long tI.toInt64), .second, .val (.int kI), .val (.int dI), .val (.int zI), .val (.int sI), .val (.int jI), .unset, .unset, .unset, .unset, .unset, .unset, .val (.int uI), .unset, .unset, .unset, .unset, .unset, .unset, .unset, .unset] [(.int (1 : Int32)), (.double FP.dconst1)])) _
      refine XS.iload X1.here hx rfl (hb hby at_83) rfl ?_
      show Steps p.tables e below (T1.setTop (mkF m 85 #[.val (.int p0), .val (.int p1), .val (.int p2), .val (.int p3), .val (.long tI.toInt64), .second, .val (.int kI), .val (.int dI), .val (.int zI), .val (.int sI), .val (.int jI), .unset, .unset, .unset, .unset, .unset, .unset, .val (.int uI), .unset, .unset, .unset, .unset, .unset, .unset, .unset, .unset] [(.int uI), (.int (1 : Int32)), (.double FP.dconst1)])) _
      refine XS.ishl X1.here hx rfl (hb hby at_85) rfl ?_
      show Steps p.tables e below (T1.setTop (mkF m 86 #[.val (.int p0), .val (.int p1), .val (.int p2), .val (.int p3), .val (.long tI.toInt64), .second, .val (.int kI), .val (.int dI), .val (.int zI), .val (.int sI), .val (.int jI), .unset, .unset, .unset, .unset, .unset, .unset, .val (.int uI), .unset, .unset, .unset, .unset, .unset, .unset, .unset, .unset] [(.int ((1 : Int32) <<< (uI &&& 31))), (.double FP.dconst1)])) _
      refine XS.i2dS X1.here hx rfl (hb hby at_86) rfl h_d86 ?_
      show Steps p.tables e below (T1.setTop (mkF m 87 #[.val (.int p0), .val (.int p1), .val (.int p2), .val (.int p3), .val (.long tI.toInt64), .second, .val (.int kI), .val (.int dI), .val (.int zI), .val (.int sI), .val (.int jI), .unset, .unset, .unset, .unset, .unset, .unset, .val (.int uI), .unset, .unset, .unset, .unset, .unset, .unset, .unset, .unset] [(.double d86), (.double FP.dconst1)])) _
      refine XS.ddivS X1.here hx rfl (hb hby at_87) rfl (by rw [h_db]; exact own_Unn q_db) h_db ?_
      show Steps p.tables e below (T1.setTop (mkF m 88 #[.val (.int p0), .val (.int p1), .val (.int p2), .val (.int p3), .val (.long tI.toInt64), .second, .val (.int kI), .val (.int dI), .val (.int zI), .val (.int sI), .val (.int jI), .unset, .unset, .unset, .unset, .unset, .unset, .val (.int uI), .unset, .unset, .unset, .unset, .unset, .unset, .unset, .unset] [(.double db)])) _
      refine XS.dstore X1.here hx rfl (hb hby at_88) rfl (l' := #[.val (.int p0), .val (.int p1), .val (.int p2), .val (.int p3), .val (.long tI.toInt64), .second, .val (.int kI), .val (.int dI), .val (.int zI), .val (.int sI), .val (.int jI), .unset, .unset, .val (.double db), .second, .unset, .unset, .val (.int uI), .unset, .unset, .unset, .unset, .unset, .unset, .unset, .unset]) rfl ?_
      show Steps p.tables e below (T1.setTop (mkF m 90 #[.val (.int p0), .val (.int p1), .val (.int p2), .val (.int p3), .val (.long tI.toInt64), .second, .val (.int kI), .val (.int dI), .val (.int zI), .val (.int sI), .val (.int jI), .unset, .unset, .val (.double db), .second, .unset, .unset, .val (.int uI), .unset, .unset, .unset, .unset, .unset, .unset, .unset, .unset] [])) _
      refine XS.lconst X1.here hx rfl (hb hby at_90) ?_
      show Steps p.tables e below (T1.setTop (mkF m 91 #[.val (.int p0), .val (.int p1), .val (.int p2), .val (.int p3), .val (.long tI.toInt64), .second, .val (.int kI), .val (.int dI), .val (.int zI), .val (.int sI), .val (.int jI), .unset, .unset, .val (.double db), .second, .unset, .unset, .val (.int uI), .unset, .unset, .unset, .unset, .unset, .unset, .unset, .unset] [(.long (1 : Int64))])) _
      refine XS.iload X1.here hx rfl (hb hby at_91) rfl ?_
      show Steps p.tables e below (T1.setTop (mkF m 93 #[.val (.int p0), .val (.int p1), .val (.int p2), .val (.int p3), .val (.long tI.toInt64), .second, .val (.int kI), .val (.int dI), .val (.int zI), .val (.int sI), .val (.int jI), .unset, .unset, .val (.double db), .second, .unset, .unset, .val (.int uI), .unset, .unset, .unset, .unset, .unset, .unset, .unset, .unset] [(.int jI), (.long (1 : Int64))])) _
      refine XS.lshl X1.here hx rfl (hb hby at_93) rfl ?_
      show Steps p.tables e below (T1.setTop (mkF m 94 #[.val (.int p0), .val (.int p1), .val (.int p2), .val (.int p3), .val (.long tI.toInt64), .second, .val (.int kI), .val (.int dI), .val (.int zI), .val (.int sI), .val (.int jI), .unset, .unset, .val (.double db), .second, .unset, .unset, .val (.int uI), .unset, .unset, .unset, .unset, .unset, .unset, .unset, .unset] [(.long ((1 : Int64) <<< (jI &&& 0x3f).toInt64))])) _
      refine XS.lstore X1.here hx rfl (hb hby at_94) rfl (l' := #[.val (.int p0), .val (.int p1), .val (.int p2), .val (.int p3), .val (.long tI.toInt64), .second, .val (.int kI), .val (.int dI), .val (.int zI), .val (.int sI), .val (.int jI), .val (.long ((1 : Int64) <<< (jI &&& 0x3f).toInt64)), .second, .val (.double db), .second, .unset, .unset, .val (.int uI), .unset, .unset, .unset, .unset, .unset, .unset, .unset, .unset]) rfl ?_
      show Steps p.tables e below (T1.setTop (mkF m 96 #[.val (.int p0), .val (.int p1), .val (.int p2), .val (.int p3), .val (.long tI.toInt64), .second, .val (.int kI), .val (.int dI), .val (.int zI), .val (.int sI), .val (.int jI), .val (.long ((1 : Int64) <<< (jI &&& 0x3f).toInt64)), .second, .val (.double db), .second, .unset, .unset, .val (.int uI), .unset, .unset, .unset, .unset, .unset, .unset, .unset, .unset] [])) _
      exact k
    refine own_go k14 ?_
    clear k14
    obtain ⟨pI, h_pI⟩ : ∃ z, z = ((1 : Int64) <<< (jI &&& 0x3f).toInt64) := ⟨_, rfl⟩
    rw [← h_pI]
    have hp : pI.toInt = (2 ^ J0 : Nat) := by rw [h_pI]; exact own_shJ hJi hJ0
    have hRb : 1 + (2 ^ J0 - 1) * 2 ^ S ≤ 1000000 := by have b : (2 ^ J0 - 1) * 2 ^ S ≤ 32768 * 8 := Nat.mul_le_mul (by have := own_pJ hJ0; omega) (own_pS hS); omega
    obtain ⟨dr, h_dr⟩ : ∃ z : UInt64, FP.l2d ((1 : Int64) + ((pI - (1 : Int64)) * ((1 : Int64) <<< (uI &&& 0x3f).toInt64))) = z := ⟨_, rfl⟩
    have q_dr : own_U dr ((1 + (2 ^ J0 - 1) * 2 ^ S) * 2 ^ (1074 - 0)) := by rw [← h_dr]; exact (own_l2d (own_lr hp hSi hJ0 hS) (by omega))
    have k15 : ∀ t, Steps p.tables e below (T1.setTop (mkF m 110 #[.val (.int p0), .val (.int p1), .val (.int p2), .val (.int p3), .val (.long tI.toInt64), .second, .val (.int kI), .val (.int dI), .val (.int zI), .val (.int sI), .val (.int jI), .val (.long pI), .second, .val (.double db), .second, .val (.double dr), .second, .val (.int uI), .unset, .unset, .unset, .unset, .unset, .unset, .unset, .unset] [])) t → Steps p.tables e below (T1.setTop (mkF m 96 #[.val (.int p0), .val (.int p1), .val (.int p2), .val (.int p3), .val (.long tI.toInt64), .second, .val (.int kI), .val (.int dI), .val (.int zI), .val (.int sI), .val (.int jI), .val (.long pI), .second, .val (.double db), .second, .unset, .unset, .val (.int uI), .unset, .unset, .unset, .unset, .unset, .unset, .unset, .unset] [])) t := fun t k => by
      refine XS.lconst X1.here hx rfl (hb hby at_96) ?_
      show Steps p.tables e below (T1.setTop (mkF m 97 #[.val (.int p0), .val (.int p1), .val (.int p2), .val (.int p3), .val (.long tI.toInt64), .second, .val (.int kI), .val (.int dI), .val (.int zI), .val (.int sI), .val (.int jI), .val (.long pI), .second, .val (.double db), .second, .unset, .unset, .val (.int uI), .unset, .unset, .unset, .unset, .unset, .unset, .unset, .unset] [(.long (1 : Int64))])) _
      refine XS.lload X1.here hx rfl (hb hby at_97) rfl ?_
      show Steps p.tables e below (T1.setTop (mkF m 99 #[.val (.int p0), .val (.int p1), .val (.int p2), .val (.int p3), .val (.long tI.toInt64), .second, .val (.int kI), .val (.int dI), .val (.int zI), .val (.int sI), .val (.int jI), .val (.long pI), .second, .val (.double db), .second, .unset, .unset, .val (.int uI), .unset, .unset, .unset, .unset, .unset, .unset, .unset, .unset] [(.long pI), (.long (1 : Int64))])) _
      refine XS.lconst X1.here hx rfl (hb hby at_99) ?_
      show Steps p.tables e below (T1.setTop (mkF m 100 #[.val (.int p0), .val (.int p1), .val (.int p2), .val (.int p3), .val (.long tI.toInt64), .second, .val (.int kI), .val (.int dI), .val (.int zI), .val (.int sI), .val (.int jI), .val (.long pI), .second, .val (.double db), .second, .unset, .unset, .val (.int uI), .unset, .unset, .unset, .unset, .unset, .unset, .unset, .unset] [(.long (1 : Int64)), (.long pI), (.long (1 : Int64))])) _
      refine XS.lsub X1.here hx rfl (hb hby at_100) rfl ?_
      show Steps p.tables e below (T1.setTop (mkF m 101 #[.val (.int p0), .val (.int p1), .val (.int p2), .val (.int p3), .val (.long tI.toInt64), .second, .val (.int kI), .val (.int dI), .val (.int zI), .val (.int sI), .val (.int jI), .val (.long pI), .second, .val (.double db), .second, .unset, .unset, .val (.int uI), .unset, .unset, .unset, .unset, .unset, .unset, .unset, .unset] [(.long (pI - (1 : Int64))), (.long (1 : Int64))])) _
      refine XS.lconst X1.here hx rfl (hb hby at_101) ?_
      show Steps p.tables e below (T1.setTop (mkF m 102 #[.val (.int p0), .val (.int p1), .val (.int p2), .val (.int p3), .val (.long tI.toInt64), .second, .val (.int kI), .val (.int dI), .val (.int zI), .val (.int sI), .val (.int jI), .val (.long pI), .second, .val (.double db), .second, .unset, .unset, .val (.int uI), .unset, .unset, .unset, .unset, .unset, .unset, .unset, .unset] [(.long (1 : Int64)), (.long (pI - (1 : Int64))), (.long (1 : Int64))])) _
      refine XS.iload X1.here hx rfl (hb hby at_102) rfl ?_
      show Steps p.tables e below (T1.setTop (mkF m 104 #[.val (.int p0), .val (.int p1), .val (.int p2), .val (.int p3), .val (.long tI.toInt64), .second, .val (.int kI), .val (.int dI), .val (.int zI), .val (.int sI), .val (.int jI), .val (.long pI), .second, .val (.double db), .second, .unset, .unset, .val (.int uI), .unset, .unset, .unset, .unset, .unset, .unset, .unset, .unset] [(.int uI), (.long (1 : Int64)), (.long (pI - (1 : Int64))), (.long (1 : Int64))])) _
      refine XS.lshl X1.here hx rfl (hb hby at_104) rfl ?_
      show Steps p.tables e below (T1.setTop (mkF m 105 #[.val (.int p0), .val (.int p1), .val (.int p2), .val (.int p3), .val (.long tI.toInt64), .second, .val (.int kI), .val (.int dI), .val (.int zI), .val (.int sI), .val (.int jI), .val (.long pI), .second, .val (.double db), .second, .unset, .unset, .val (.int uI), .unset, .unset, .unset, .unset, .unset, .unset, .unset, .unset] [(.long ((1 : Int64) <<< (uI &&& 0x3f).toInt64)), (.long (pI - (1 : Int64))), (.long (1 : Int64))])) _
      refine XS.lmul X1.here hx rfl (hb hby at_105) rfl ?_
      show Steps p.tables e below (T1.setTop (mkF m 106 #[.val (.int p0), .val (.int p1), .val (.int p2), .val (.int p3), .val (.long tI.toInt64), .second, .val (.int kI), .val (.int dI), .val (.int zI), .val (.int sI), .val (.int jI), .val (.long pI), .second, .val (.double db), .second, .unset, .unset, .val (.int uI), .unset, .unset, .unset, .unset, .unset, .unset, .unset, .unset] [(.long ((pI - (1 : Int64)) * ((1 : Int64) <<< (uI &&& 0x3f).toInt64))), (.long (1 : Int64))])) _
      refine XS.ladd X1.here hx rfl (hb hby at_106) rfl ?_
      show Steps p.tables e below (T1.setTop (mkF m 107 #[.val (.int p0), .val (.int p1), .val (.int p2), .val (.int p3), .val (.long tI.toInt64), .second, .val (.int kI), .val (.int dI), .val (.int zI), .val (.int sI), .val (.int jI), .val (.long pI), .second, .val (.double db), .second, .unset, .unset, .val (.int uI), .unset, .unset, .unset, .unset, .unset, .unset, .unset, .unset] [(.long ((1 : Int64) + ((pI - (1 : Int64)) * ((1 : Int64) <<< (uI &&& 0x3f).toInt64))))])) _
      refine XS.l2dS X1.here hx rfl (hb hby at_107) rfl h_dr ?_
      show Steps p.tables e below (T1.setTop (mkF m 108 #[.val (.int p0), .val (.int p1), .val (.int p2), .val (.int p3), .val (.long tI.toInt64), .second, .val (.int kI), .val (.int dI), .val (.int zI), .val (.int sI), .val (.int jI), .val (.long pI), .second, .val (.double db), .second, .unset, .unset, .val (.int uI), .unset, .unset, .unset, .unset, .unset, .unset, .unset, .unset] [(.double dr)])) _
      refine XS.dstore X1.here hx rfl (hb hby at_108) rfl (l' := #[.val (.int p0), .val (.int p1), .val (.int p2), .val (.int p3), .val (.long tI.toInt64), .second, .val (.int kI), .val (.int dI), .val (.int zI), .val (.int sI), .val (.int jI), .val (.long pI), .second, .val (.double db), .second, .val (.double dr), .second, .val (.int uI), .unset, .unset, .unset, .unset, .unset, .unset, .unset, .unset]) rfl ?_
      show Steps p.tables e below (T1.setTop (mkF m 110 #[.val (.int p0), .val (.int p1), .val (.int p2), .val (.int p3), .val (.long tI.toInt64), .second, .val (.int kI), .val (.int dI), .val (.int zI), .val (.int sI), .val (.int jI), .val (.long pI), .second, .val (.double db), .second, .val (.double dr), .second, .val (.int uI), .unset, .unset, .unset, .unset, .unset, .unset, .unset, .unset] [])) _
      exact k
    refine own_go k15 ?_
    clear k15
    obtain ⟨J, Bn, Rn, hJ, hBn, hRn, hX, hp', q_db, q_dr, hb1⟩ : ∃ J Bn Rn : Nat, J ≤ 15 ∧ Bn ≤ 1 ∧ Rn ≤ 1000000 ∧ (2 ^ S - Bn) + Bn * Rn = 2 ^ J * 2 ^ S ∧ pI.toInt = (2 ^ J : Nat) ∧ own_U db (Bn * 2 ^ (1074 - S)) ∧ own_U dr (Rn * 2 ^ 1074) ∧ Bn * 2 ^ (1074 - S) ≤ 1 * 2 ^ 1074 := ⟨J0, 1, 1 + (2 ^ J0 - 1) * 2 ^ S, hJ0, by omega, hRb, own_mix (Nat.two_pow_pos S), hp, q_db, q_dr, Nat.mul_le_mul_left 1 (Nat.pow_le_pow_right (by decide) (by omega))⟩
    have b2 := own_b2 hK hDl hT1 hJ
    have b1 := own_b1 hDl hJ
    have b3 := own_b1 hK hJ
    have hD0 : 0 < own_D K Dl T J := by unfold own_D; omega
    obtain ⟨T16, h16, X16, e16, E16, A16, D16, -, st16⟩ := newO X1 hx hZ hown (hw _ (List.mem_of_getElem? (i := 5) rfl)) (hw _ (List.mem_of_getElem? (i := 6) rfl)) (hw _ (List.mem_of_getElem? (i := 7) rfl)) eh1 (g := (mkF m 110 #[.val (.int p0), .val (.int p1), .val (.int p2), .val (.int p3), .val (.long tI.toInt64), .second, .val (.int kI), .val (.int dI), .val (.int zI), .val (.int sI), .val (.int jI), .val (.long pI), .second, .val (.double db), .second, .val (.double dr), .second, .val (.int uI), .unset, .unset, .unset, .unset, .unset, .unset, .unset, .unset] [])) rfl (hb hby at_110) (by decide) (by decide)
    obtain ⟨b16, g16⟩ : ∃ z, z = h0.size := ⟨_, rfl⟩
    rw [← g16] at A16 D16 st16
    refine own_go st16 ?_
    have g_b16 : n0 ≤ b16 := Nat.le_trans Z0 (Nat.le_of_eq g16.symm)
    have hk16 : 0 ≤ h16.size := Nat.le_trans hk0 E16.1
    have Z16 : n0 ≤ h16.size := Nat.le_trans Z0 E16.1
    have F16_k3 : Fld Z h16 b16 "com/example/likelihood/likelihood/ranking/BestMatch" "k3" "D" (.double (0 : UInt64)) := D16 (Or.inr (hw _ (List.mem_of_getElem? (i := 20) rfl))) (ty := .double) (by decide)
    have F16_k2 : Fld Z h16 b16 "com/example/likelihood/likelihood/ranking/BestMatch" "k2" "D" (.double (0 : UInt64)) := D16 (Or.inr (hw _ (List.mem_of_getElem? (i := 38) rfl))) (ty := .double) (by decide)
    have F16_k1 : Fld Z h16 b16 "com/example/likelihood/likelihood/ranking/Bm25L" "k1" "D" (.double (0 : UInt64)) := D16 (Or.inr (hw _ (List.mem_of_getElem? (i := 43) rfl))) (ty := .double) (by decide)
    have F16_b : Fld Z h16 b16 "com/example/likelihood/likelihood/ranking/Bm25L" "b" "D" (.double (0 : UInt64)) := D16 (Or.inr (hw _ (List.mem_of_getElem? (i := 53) rfl))) (ty := .double) (by decide)
    have F16_delta : Fld Z h16 b16 "com/example/likelihood/likelihood/ranking/Bm25L" "delta" "D" (.double (0 : UInt64)) := D16 (Or.inr (hw _ (List.mem_of_getElem? (i := 56) rfl))) (ty := .double) (by decide)
    obtain ⟨dk, h_dk⟩ : ∃ z : UInt64, FP.i2d kI = z := ⟨_, rfl⟩
    have q_dk : own_U dk (K * 2 ^ (1074 - 0)) := by rw [← h_dk]; exact (own_i2d hKi)
    obtain ⟨dz, h_dz⟩ : ∃ z : UInt64, FP.i2d zI = z := ⟨_, rfl⟩
    have q_dz : own_U dz (Zz * 2 ^ (1074 - 0)) := by rw [← h_dz]; exact (own_i2d hZi)
    obtain ⟨dd, h_dd⟩ : ∃ z : UInt64, FP.i2d dI = z := ⟨_, rfl⟩
    have q_dd : own_U dd (Dl * 2 ^ (1074 - 0)) := by rw [← h_dd]; exact (own_i2d hDi)
    have k18 : ∀ t, Steps p.tables e below (T16.setTop (mkF m 125 #[.val (.int p0), .val (.int p1), .val (.int p2), .val (.int p3), .val (.long tI.toInt64), .second, .val (.int kI), .val (.int dI), .val (.int zI), .val (.int sI), .val (.int jI), .val (.long pI), .second, .val (.double db), .second, .val (.double dr), .second, .val (.int uI), .unset, .unset, .unset, .unset, .unset, .unset, .unset, .unset] [(.double dd), (.double dz), (.double db), (.double dk), (.ref b16), (.ref b16)])) t → Steps p.tables e below (T16.setTop (mkF m 113 #[.val (.int p0), .val (.int p1), .val (.int p2), .val (.int p3), .val (.long tI.toInt64), .second, .val (.int kI), .val (.int dI), .val (.int zI), .val (.int sI), .val (.int jI), .val (.long pI), .second, .val (.double db), .second, .val (.double dr), .second, .val (.int uI), .unset, .unset, .unset, .unset, .unset, .unset, .unset, .unset] [(.ref b16)])) t := fun t k => by
      refine XS.dup X16.here hx rfl (hb hby at_113) rfl rfl ?_
      show Steps p.tables e below (T16.setTop (mkF m 114 #[.val (.int p0), .val (.int p1), .val (.int p2), .val (.int p3), .val (.long tI.toInt64), .second, .val (.int kI), .val (.int dI), .val (.int zI), .val (.int sI), .val (.int jI), .val (.long pI), .second, .val (.double db), .second, .val (.double dr), .second, .val (.int uI), .unset, .unset, .unset, .unset, .unset, .unset, .unset, .unset] [(.ref b16), (.ref b16)])) _
      refine XS.iload X16.here hx rfl (hb hby at_114) rfl ?_
      show Steps p.tables e below (T16.setTop (mkF m 116 #[.val (.int p0), .val (.int p1), .val (.int p2), .val (.int p3), .val (.long tI.toInt64), .second, .val (.int kI), .val (.int dI), .val (.int zI), .val (.int sI), .val (.int jI), .val (.long pI), .second, .val (.double db), .second, .val (.double dr), .second, .val (.int uI), .unset, .unset, .unset, .unset, .unset, .unset, .unset, .unset] [(.int kI), (.ref b16), (.ref b16)])) _
      refine XS.i2dS X16.here hx rfl (hb hby at_116) rfl h_dk ?_
      show Steps p.tables e below (T16.setTop (mkF m 117 #[.val (.int p0), .val (.int p1), .val (.int p2), .val (.int p3), .val (.long tI.toInt64), .second, .val (.int kI), .val (.int dI), .val (.int zI), .val (.int sI), .val (.int jI), .val (.long pI), .second, .val (.double db), .second, .val (.double dr), .second, .val (.int uI), .unset, .unset, .unset, .unset, .unset, .unset, .unset, .unset] [(.double dk), (.ref b16), (.ref b16)])) _
      refine XS.dload X16.here hx rfl (hb hby at_117) rfl ?_
      show Steps p.tables e below (T16.setTop (mkF m 119 #[.val (.int p0), .val (.int p1), .val (.int p2), .val (.int p3), .val (.long tI.toInt64), .second, .val (.int kI), .val (.int dI), .val (.int zI), .val (.int sI), .val (.int jI), .val (.long pI), .second, .val (.double db), .second, .val (.double dr), .second, .val (.int uI), .unset, .unset, .unset, .unset, .unset, .unset, .unset, .unset] [(.double db), (.double dk), (.ref b16), (.ref b16)])) _
      refine XS.iload X16.here hx rfl (hb hby at_119) rfl ?_
      show Steps p.tables e below (T16.setTop (mkF m 121 #[.val (.int p0), .val (.int p1), .val (.int p2), .val (.int p3), .val (.long tI.toInt64), .second, .val (.int kI), .val (.int dI), .val (.int zI), .val (.int sI), .val (.int jI), .val (.long pI), .second, .val (.double db), .second, .val (.double dr), .second, .val (.int uI), .unset, .unset, .unset, .unset, .unset, .unset, .unset, .unset] [(.int zI), (.double db), (.double dk), (.ref b16), (.ref b16)])) _
      refine XS.i2dS X16.here hx rfl (hb hby at_121) rfl h_dz ?_
      show Steps p.tables e below (T16.setTop (mkF m 122 #[.val (.int p0), .val (.int p1), .val (.int p2), .val (.int p3), .val (.long tI.toInt64), .second, .val (.int kI), .val (.int dI), .val (.int zI), .val (.int sI), .val (.int jI), .val (.long pI), .second, .val (.double db), .second, .val (.double dr), .second, .val (.int uI), .unset, .unset, .unset, .unset, .unset, .unset, .unset, .unset] [(.double dz), (.double db), (.double dk), (.ref b16), (.ref b16)])) _
      refine XS.iload X16.here hx rfl (hb hby at_122) rfl ?_
      show Steps p.tables e below (T16.setTop (mkF m 124 #[.val (.int p0), .val (.int p1), .val (.int p2), .val (.int p3), .val (.long tI.toInt64), .second, .val (.int kI), .val (.int dI), .val (.int zI), .val (.int sI), .val (.int jI), .val (.long pI), .second, .val (.double db), .second, .val (.double dr), .second, .val (.int uI), .unset, .unset, .unset, .unset, .unset, .unset, .unset, .unset] [(.int dI), (.double dz), (.double db), (.double dk), (.ref b16), (.ref b16)])) _
      refine XS.i2dS X16.here hx rfl (hb hby at_124) rfl h_dd ?_
      show Steps p.tables e below (T16.setTop (mkF m 125 #[.val (.int p0), .val (.int p1), .val (.int p2), .val (.int p3), .val (.long tI.toInt64), .second, .val (.int kI), .val (.int dI), .val (.int zI), .val (.int sI), .val (.int jI), .val (.long pI), .second, .val (.double db), .second, .val (.double dr), .second, .val (.int uI), .unset, .unset, .unset, .unset, .unset, .unset, .unset, .unset] [(.double dd), (.double dz), (.double db), (.double dk), (.ref b16), (.ref b16)])) _
      exact k
    refine own_go k18 ?_
    clear k18
    obtain ⟨_, _, ⟨T17, L17, k17, n17⟩, -, X17q, Sn17q, gr17, ⟨Lc17, hQ17, l17, y17, z17⟩, st17⟩ := X16.specialBackS hx (y := (⟨"com/example/likelihood/likelihood/ranking/Bm25L", "<init>", "(DDDD)V"⟩ : MethodName)) rfl hown (mvT hZ (hw _ (List.mem_of_getElem? (i := 8) rfl))) (mvT hZ (hw _ (List.mem_of_getElem? (i := 9) rfl))) (mvT hZ (hw _ (List.mem_of_getElem? (i := 10) rfl))) (by decide) (backOfS (W := 1) (own_rm_b25Init l Z a0 hw [] b16 dk db dz dd (0 : UInt64) (0 : UInt64) (0 : UInt64) (0 : UInt64) (0 : UInt64) h16 n0 Z16 F16_k3 F16_k2 F16_k1 F16_b F16_delta A16 g_b16 (own_nonneg q_dz _) (own_nonneg q_dk _) (own_ltinf q_dk _) (own_nonneg q_db _) (own_le1 q_db hb1 _) (own_nonneg q_dd _) (own_ltinf q_dd _)) hZ (hw _ (List.mem_of_getElem? (i := 10) rfl)) (hw _ (List.mem_of_getElem? (i := 7) rfl)) (by decide) (by decide)) (g := (mkF m 125 #[.val (.int p0), .val (.int p1), .val (.int p2), .val (.int p3), .val (.long tI.toInt64), .second, .val (.int kI), .val (.int dI), .val (.int zI), .val (.int sI), .val (.int jI), .val (.long pI), .second, .val (.double db), .second, .val (.double dr), .second, .val (.int uI), .unset, .unset, .unset, .unset, .unset, .unset, .unset, .unset] [(.double dd), (.double dz), (.double db), (.double dk), (.ref b16), (.ref b16)])) rfl (by rw [hml]; rfl) (Steps.refl _) (a := b16) (argsL := [(.double dk), (.double db), (.double dz), (.double dd)]) (rest := [(.ref b16)]) (lenOf own_pd_28DDDD29V rfl) rfl (by show 2 * 0 + _ ≤ _; exact Nat.le_of_eq rfl) (hb hby at_125) (fun _ _ => ⟨rfl, e16, (by decide : 1 + 8 ≤ _), (by decide : 5 + 56 ≤ _)⟩)
    dsimp only [Pt.U, Pt.locs, Pt.cells, Pt.slots] at X17q l17 y17 z17 st17 hQ17
    subst l17 y17 z17
    dsimp only [Pt.U] at Sn17q gr17
    obtain ⟨X17, Sn17, hZ17, hown17⟩ := rebS Sn0 (by rw [e16]; exact hk16) X17q Sn17q gr17 hZ hown
    obtain ⟨rfl, N17q, K17q, p17_0, p17_1, p17_2, p17_3, p17_4, p17_5⟩ := hQ17
    have N17 := Fr.app N1 N17q
    have Z17 : n0 ≤ T17.heap.size := Nat.le_trans Z16 K17q.1
    refine own_go (fun _ k => st17.trans k) ?_
    have hk17c : T17.heap.size ≤ T17.heap.size := Nat.le_refl _
    have k20 : ∀ t, Steps p.tables e below (T17.setTop (mkF m 137 #[.val (.int p0), .val (.int p1), .val (.int p2), .val (.int p3), .val (.long tI.toInt64), .second, .val (.int kI), .val (.int dI), .val (.int zI), .val (.int sI), .val (.int jI), .val (.long pI), .second, .val (.double db), .second, .val (.double dr), .second, .val (.ref b16), .unset, .unset, .unset, .unset, .unset, .unset, .unset, .unset] [(.double dr), (.int tI.toInt64.toInt32), (.ref b16)])) t → Steps p.tables e below (T17.setTop (mkF m 128 #[.val (.int p0), .val (.int p1), .val (.int p2), .val (.int p3), .val (.long tI.toInt64), .second, .val (.int kI), .val (.int dI), .val (.int zI), .val (.int sI), .val (.int jI), .val (.long pI), .second, .val (.double db), .second, .val (.double dr), .second, .val (.int uI), .unset, .unset, .unset, .unset, .unset, .unset, .unset, .unset] [(.ref b16)])) t := fun t k => by
      refine XS.astore X17.here hx rfl (hb hby at_128) rfl rfl (l' := #[.val (.int p0), .val (.int p1), .val (.int p2), .val (.int p3), .val (.long tI.toInt64), .second, .val (.int kI), .val (.int dI), .val (.int zI), .val (.int sI), .val (.int jI), .val (.long pI), .second, .val (.double db), .second, .val (.double dr), .second, .val (.ref b16), .unset, .unset, .unset, .unset, .unset, .unset, .unset, .unset]) rfl ?_
      show Steps p.tables e below (T17.setTop (mkF m 130 #[.val (.int p0), .val (.int p1), .val (.int p2), .val (.int p3), .val (.long tI.toInt64), .second, .val (.int kI), .val (.int dI), .val (.int zI), .val (.int sI), .val (.int jI), .val (.long pI), .second, .val (.double db), .second, .val (.double dr), .second, .val (.ref b16), .unset, .unset, .unset, .unset, .unset, .unset, .unset, .unset] [])) _
      refine XS.aload X17.here hx rfl (hb hby at_130) rfl rfl ?_
      show Steps p.tables e below (T17.setTop (mkF m 132 #[.val (.int p0), .val (.int p1), .val (.int p2), .val (.int p3), .val (.long tI.toInt64), .second, .val (.int kI), .val (.int dI), .val (.int zI), .val (.int sI), .val (.int jI), .val (.long pI), .second, .val (.double db), .second, .val (.double dr), .second, .val (.ref b16), .unset, .unset, .unset, .unset, .unset, .unset, .unset, .unset] [(.ref b16)])) _
      refine XS.lload X17.here hx rfl (hb hby at_132) rfl ?_
      show Steps p.tables e below (T17.setTop (mkF m 134 #[.val (.int p0), .val (.int p1), .val (.int p2), .val (.int p3), .val (.long tI.toInt64), .second, .val (.int kI), .val (.int dI), .val (.int zI), .val (.int sI), .val (.int jI), .val (.long pI), .second, .val (.double db), .second, .val (.double dr), .second, .val (.ref b16), .unset, .unset, .unset, .unset, .unset, .unset, .unset, .unset] [(.long tI.toInt64), (.ref b16)])) _
      refine XS.l2i X17.here hx rfl (hb hby at_134) rfl ?_
      show Steps p.tables e below (T17.setTop (mkF m 135 #[.val (.int p0), .val (.int p1), .val (.int p2), .val (.int p3), .val (.long tI.toInt64), .second, .val (.int kI), .val (.int dI), .val (.int zI), .val (.int sI), .val (.int jI), .val (.long pI), .second, .val (.double db), .second, .val (.double dr), .second, .val (.ref b16), .unset, .unset, .unset, .unset, .unset, .unset, .unset, .unset] [(.int tI.toInt64.toInt32), (.ref b16)])) _
      refine XS.dload X17.here hx rfl (hb hby at_135) rfl ?_
      show Steps p.tables e below (T17.setTop (mkF m 137 #[.val (.int p0), .val (.int p1), .val (.int p2), .val (.int p3), .val (.long tI.toInt64), .second, .val (.int kI), .val (.int dI), .val (.int zI), .val (.int sI), .val (.int jI), .val (.long pI), .second, .val (.double db), .second, .val (.double dr), .second, .val (.ref b16), .unset, .unset, .unset, .unset, .unset, .unset, .unset, .unset] [(.double dr), (.int tI.toInt64.toInt32), (.ref b16)])) _
      exact k
    refine own_go k20 ?_
    clear k20
    obtain ⟨cq19, kq19, q19a, q19b, q19c⟩ := isOf hZ17 rfl p17_0
    obtain ⟨_, _, ⟨T19, L19, k19, n19⟩, -, X19, ⟨Lc19, hQ19, l19, y19, z19⟩, st19⟩ := X17.virtualBack hx (y := (⟨"com/example/likelihood/likelihood/ranking/Bm25L", "frequencyWeight", "(ID)D"⟩ : MethodName)) (z := (⟨"com/example/likelihood/likelihood/ranking/Bm25L", "frequencyWeight", "(ID)D"⟩ : MethodName)) hown17 (mvT hZ17 (hw _ (List.mem_of_getElem? (i := 57) rfl))) (mvT hZ17 (hw _ (List.mem_of_getElem? (i := 58) rfl))) (notFace_of_selects (args := #[]) (mvT hZ17 (hw _ (List.mem_of_getElem? (i := 60) rfl)))) (mvT hZ17 (hw _ (List.mem_of_getElem? (i := 60) rfl))) (mvT hZ17 (hw _ (List.mem_of_getElem? (i := 59) rfl))) (by decide) (backOf (W := 0) (own_rm_fw l Z a0 hw [] b16 tI.toInt64.toInt32 dr dk db dd K Dl T J S Bn Rn T17.heap n0 Z17 hK hDl hT0 hT1 hJ hS hBn hRn hX (by rw [own_l2i]; exact hT) q_dk q_db q_dd q_dr p17_3 p17_4 p17_5) hZ17 (hw _ (List.mem_of_getElem? (i := 61) rfl)) (hw _ (List.mem_of_getElem? (i := 7) rfl)) (by decide) (by decide)) q19a q19c (g := (mkF m 137 #[.val (.int p0), .val (.int p1), .val (.int p2), .val (.int p3), .val (.long tI.toInt64), .second, .val (.int kI), .val (.int dI), .val (.int zI), .val (.int sI), .val (.int jI), .val (.long pI), .second, .val (.double db), .second, .val (.double dr), .second, .val (.ref b16), .unset, .unset, .unset, .unset, .unset, .unset, .unset, .unset] [(.double dr), (.int tI.toInt64.toInt32), (.ref b16)])) rfl (by rw [hml]; rfl) (Steps.refl _) (argsL := [(.int tI.toInt64.toInt32), (.double dr)]) (rest := []) (lenOf own_pd_28ID29D rfl) rfl (by show 2 * 0 + _ ≤ _; exact Nat.le_of_eq rfl) (hb hby at_137) (fun _ _ => ⟨rfl, rfl, (by decide : 9 + 0 ≤ _), (by decide : 61 + 0 ≤ _)⟩)
    dsimp only [Pt.U, Pt.locs, Pt.cells, Pt.slots] at X19 l19 y19 z19 st19 hQ19
    subst l19 y19 z19
    obtain ⟨dw, rfl, q_dw, N19q, eh19⟩ := hQ19
    have N19 := Fr.app N17 N19q
    refine own_go (fun _ k => st19.trans k) ?_
    obtain ⟨dp, h_dp⟩ : ∃ z : UInt64, FP.l2d ((kI.toInt64 + (1 : Int64)) * (tI.toInt64 + (dI.toInt64 * pI))) = z := ⟨_, rfl⟩
    have q_dp : own_U dp ((own_A K Dl T J) * 2 ^ (1074 - 0)) := by rw [← h_dp]; exact (own_l2d (own_p hKi hDi ((c_i2l tI).trans hT) hp' hK hDl hT1 hJ) (by omega))
    obtain ⟨dq, h_dq⟩ : ∃ z : UInt64, FP.l2d (((kI.toInt64 * pI) + tI.toInt64) + (dI.toInt64 * pI)) = z := ⟨_, rfl⟩
    have q_dq : own_U dq ((own_D K Dl T J) * 2 ^ (1074 - 0)) := by rw [← h_dq]; exact (own_l2d (own_q hKi hDi ((c_i2l tI).trans hT) hp' hK hDl hT1 hJ) (by unfold own_D; omega))
    obtain ⟨dE, h_dE⟩ : ∃ z : UInt64, FP.ddiv dp dq = z := ⟨_, rfl⟩
    have q_dE : Jvm.FP.Core.val64 dE = Jvm.FP.Core.roundRatio Jvm.FP.Core.b64 false (own_A K Dl T J) (own_D K Dl T J) 0 := by rw [← h_dE]; exact (own_div q_dp q_dq (Nat.mul_pos hD0 (Nat.two_pow_pos _)) hD0 (by ac_rfl))
    have k21 : ∀ t, Steps p.tables e below (T19.setTop (mkF m 199 #[.val (.int p0), .val (.int p1), .val (.int p2), .val (.int p3), .val (.long tI.toInt64), .second, .val (.int kI), .val (.int dI), .val (.int zI), .val (.int sI), .val (.int jI), .val (.long pI), .second, .val (.double db), .second, .val (.double dr), .second, .val (.ref b16), .val (.double dw), .second, .val (.long ((kI.toInt64 + (1 : Int64)) * (tI.toInt64 + (dI.toInt64 * pI)))), .second, .val (.long (((kI.toInt64 * pI) + tI.toInt64) + (dI.toInt64 * pI))), .second, .val (.double dE), .second] [(.int (1 : Int32))])) t → Steps p.tables e below (T19.setTop (mkF m 140 #[.val (.int p0), .val (.int p1), .val (.int p2), .val (.int p3), .val (.long tI.toInt64), .second, .val (.int kI), .val (.int dI), .val (.int zI), .val (.int sI), .val (.int jI), .val (.long pI), .second, .val (.double db), .second, .val (.double dr), .second, .val (.ref b16), .unset, .unset, .unset, .unset, .unset, .unset, .unset, .unset] [(.double dw)])) t := fun t k => by
      refine XS.dstore X19.here hx rfl (hb hby at_140) rfl (l' := #[.val (.int p0), .val (.int p1), .val (.int p2), .val (.int p3), .val (.long tI.toInt64), .second, .val (.int kI), .val (.int dI), .val (.int zI), .val (.int sI), .val (.int jI), .val (.long pI), .second, .val (.double db), .second, .val (.double dr), .second, .val (.ref b16), .val (.double dw), .second, .unset, .unset, .unset, .unset, .unset, .unset]) rfl ?_
      show Steps p.tables e below (T19.setTop (mkF m 142 #[.val (.int p0), .val (.int p1), .val (.int p2), .val (.int p3), .val (.long tI.toInt64), .second, .val (.int kI), .val (.int dI), .val (.int zI), .val (.int sI), .val (.int jI), .val (.long pI), .second, .val (.double db), .second, .val (.double dr), .second, .val (.ref b16), .val (.double dw), .second, .unset, .unset, .unset, .unset, .unset, .unset] [])) _
      refine XS.iload X19.here hx rfl (hb hby at_142) rfl ?_
      show Steps p.tables e below (T19.setTop (mkF m 144 #[.val (.int p0), .val (.int p1), .val (.int p2), .val (.int p3), .val (.long tI.toInt64), .second, .val (.int kI), .val (.int dI), .val (.int zI), .val (.int sI), .val (.int jI), .val (.long pI), .second, .val (.double db), .second, .val (.double dr), .second, .val (.ref b16), .val (.double dw), .second, .unset, .unset, .unset, .unset, .unset, .unset] [(.int kI)])) _
      refine XS.i2l X19.here hx rfl (hb hby at_144) rfl ?_
      show Steps p.tables e below (T19.setTop (mkF m 145 #[.val (.int p0), .val (.int p1), .val (.int p2), .val (.int p3), .val (.long tI.toInt64), .second, .val (.int kI), .val (.int dI), .val (.int zI), .val (.int sI), .val (.int jI), .val (.long pI), .second, .val (.double db), .second, .val (.double dr), .second, .val (.ref b16), .val (.double dw), .second, .unset, .unset, .unset, .unset, .unset, .unset] [(.long kI.toInt64)])) _
      refine XS.lconst X19.here hx rfl (hb hby at_145) ?_
      show Steps p.tables e below (T19.setTop (mkF m 146 #[.val (.int p0), .val (.int p1), .val (.int p2), .val (.int p3), .val (.long tI.toInt64), .second, .val (.int kI), .val (.int dI), .val (.int zI), .val (.int sI), .val (.int jI), .val (.long pI), .second, .val (.double db), .second, .val (.double dr), .second, .val (.ref b16), .val (.double dw), .second, .unset, .unset, .unset, .unset, .unset, .unset] [(.long (1 : Int64)), (.long kI.toInt64)])) _
      refine XS.ladd X19.here hx rfl (hb hby at_146) rfl ?_
      show Steps p.tables e below (T19.setTop (mkF m 147 #[.val (.int p0), .val (.int p1), .val (.int p2), .val (.int p3), .val (.long tI.toInt64), .second, .val (.int kI), .val (.int dI), .val (.int zI), .val (.int sI), .val (.int jI), .val (.long pI), .second, .val (.double db), .second, .val (.double dr), .second, .val (.ref b16), .val (.double dw), .second, .unset, .unset, .unset, .unset, .unset, .unset] [(.long (kI.toInt64 + (1 : Int64)))])) _
      refine XS.lload X19.here hx rfl (hb hby at_147) rfl ?_
      show Steps p.tables e below (T19.setTop (mkF m 149 #[.val (.int p0), .val (.int p1), .val (.int p2), .val (.int p3), .val (.long tI.toInt64), .second, .val (.int kI), .val (.int dI), .val (.int zI), .val (.int sI), .val (.int jI), .val (.long pI), .second, .val (.double db), .second, .val (.double dr), .second, .val (.ref b16), .val (.double dw), .second, .unset, .unset, .unset, .unset, .unset, .unset] [(.long tI.toInt64), (.long (kI.toInt64 + (1 : Int64)))])) _
      refine XS.iload X19.here hx rfl (hb hby at_149) rfl ?_
      show Steps p.tables e below (T19.setTop (mkF m 151 #[.val (.int p0), .val (.int p1), .val (.int p2), .val (.int p3), .val (.long tI.toInt64), .second, .val (.int kI), .val (.int dI), .val (.int zI), .val (.int sI), .val (.int jI), .val (.long pI), .second, .val (.double db), .second, .val (.double dr), .second, .val (.ref b16), .val (.double dw), .second, .unset, .unset, .unset, .unset, .unset, .unset] [(.int dI), (.long tI.toInt64), (.long (kI.toInt64 + (1 : Int64)))])) _
      refine XS.i2l X19.here hx rfl (hb hby at_151) rfl ?_
      show Steps p.tables e below (T19.setTop (mkF m 152 #[.val (.int p0), .val (.int p1), .val (.int p2), .val (.int p3), .val (.long tI.toInt64), .second, .val (.int kI), .val (.int dI), .val (.int zI), .val (.int sI), .val (.int jI), .val (.long pI), .second, .val (.double db), .second, .val (.double dr), .second, .val (.ref b16), .val (.double dw), .second, .unset, .unset, .unset, .unset, .unset, .unset] [(.long dI.toInt64), (.long tI.toInt64), (.long (kI.toInt64 + (1 : Int64)))])) _
      refine XS.lload X19.here hx rfl (hb hby at_152) rfl ?_
      show Steps p.tables e below (T19.setTop (mkF m 154 #[.val (.int p0), .val (.int p1), .val (.int p2), .val (.int p3), .val (.long tI.toInt64), .second, .val (.int kI), .val (.int dI), .val (.int zI), .val (.int sI), .val (.int jI), .val (.long pI), .second, .val (.double db), .second, .val (.double dr), .second, .val (.ref b16), .val (.double dw), .second, .unset, .unset, .unset, .unset, .unset, .unset] [(.long pI), (.long dI.toInt64), (.long tI.toInt64), (.long (kI.toInt64 + (1 : Int64)))])) _
      refine XS.lmul X19.here hx rfl (hb hby at_154) rfl ?_
      show Steps p.tables e below (T19.setTop (mkF m 155 #[.val (.int p0), .val (.int p1), .val (.int p2), .val (.int p3), .val (.long tI.toInt64), .second, .val (.int kI), .val (.int dI), .val (.int zI), .val (.int sI), .val (.int jI), .val (.long pI), .second, .val (.double db), .second, .val (.double dr), .second, .val (.ref b16), .val (.double dw), .second, .unset, .unset, .unset, .unset, .unset, .unset] [(.long (dI.toInt64 * pI)), (.long tI.toInt64), (.long (kI.toInt64 + (1 : Int64)))])) _
      refine XS.ladd X19.here hx rfl (hb hby at_155) rfl ?_
      show Steps p.tables e below (T19.setTop (mkF m 156 #[.val (.int p0), .val (.int p1), .val (.int p2), .val (.int p3), .val (.long tI.toInt64), .second, .val (.int kI), .val (.int dI), .val (.int zI), .val (.int sI), .val (.int jI), .val (.long pI), .second, .val (.double db), .second, .val (.double dr), .second, .val (.ref b16), .val (.double dw), .second, .unset, .unset, .unset, .unset, .unset, .unset] [(.long (tI.toInt64 + (dI.toInt64 * pI))), (.long (kI.toInt64 + (1 : Int64)))])) _
      refine XS.lmul X19.here hx rfl (hb hby at_156) rfl ?_
      show Steps p.tables e below (T19.setTop (mkF m 157 #[.val (.int p0), .val (.int p1), .val (.int p2), .val (.int p3), .val (.long tI.toInt64), .second, .val (.int kI), .val (.int dI), .val (.int zI), .val (.int sI), .val (.int jI), .val (.long pI), .second, .val (.double db), .second, .val (.double dr), .second, .val (.ref b16), .val (.double dw), .second, .unset, .unset, .unset, .unset, .unset, .unset] [(.long ((kI.toInt64 + (1 : Int64)) * (tI.toInt64 + (dI.toInt64 * pI))))])) _
      refine XS.lstore X19.here hx rfl (hb hby at_157) rfl (l' := #[.val (.int p0), .val (.int p1), .val (.int p2), .val (.int p3), .val (.long tI.toInt64), .second, .val (.int kI), .val (.int dI), .val (.int zI), .val (.int sI), .val (.int jI), .val (.long pI), .second, .val (.double db), .second, .val (.double dr), .second, .val (.ref b16), .val (.double dw), .second, .val (.long ((kI.toInt64 + (1 : Int64)) * (tI.toInt64 + (dI.toInt64 * pI)))), .second, .unset, .unset, .unset, .unset]) rfl ?_
      show Steps p.tables e below (T19.setTop (mkF m 159 #[.val (.int p0), .val (.int p1), .val (.int p2), .val (.int p3), .val (.long tI.toInt64), .second, .val (.int kI), .val (.int dI), .val (.int zI), .val (.int sI), .val (.int jI), .val (.long pI), .second, .val (.double db), .second, .val (.double dr), .second, .val (.ref b16), .val (.double dw), .second, .val (.long ((kI.toInt64 + (1 : Int64)) * (tI.toInt64 + (dI.toInt64 * pI)))), .second, .unset, .unset, .unset, .unset] [])) _
      refine XS.iload X19.here hx rfl (hb hby at_159) rfl ?_
      show Steps p.tables e below (T19.setTop (mkF m 161 #[.val (.int p0), .val (.int p1), .val (.int p2), .val (.int p3), .val (.long tI.toInt64), .second, .val (.int kI), .val (.int dI), .val (.int zI), .val (.int sI), .val (.int jI), .val (.long pI), .second, .val (.double db), .second, .val (.double dr), .second, .val (.ref b16), .val (.double dw), .second, .val (.long ((kI.toInt64 + (1 : Int64)) * (tI.toInt64 + (dI.toInt64 * pI)))), .second, .unset, .unset, .unset, .unset] [(.int kI)])) _
      refine XS.i2l X19.here hx rfl (hb hby at_161) rfl ?_
      show Steps p.tables e below (T19.setTop (mkF m 162 #[.val (.int p0), .val (.int p1), .val (.int p2), .val (.int p3), .val (.long tI.toInt64), .second, .val (.int kI), .val (.int dI), .val (.int zI), .val (.int sI), .val (.int jI), .val (.long pI), .second, .val (.double db), .second, .val (.double dr), .second, .val (.ref b16), .val (.double dw), .second, .val (.long ((kI.toInt64 + (1 : Int64)) * (tI.toInt64 + (dI.toInt64 * pI)))), .second, .unset, .unset, .unset, .unset] [(.long kI.toInt64)])) _
      refine XS.lload X19.here hx rfl (hb hby at_162) rfl ?_
      show Steps p.tables e below (T19.setTop (mkF m 164 #[.val (.int p0), .val (.int p1), .val (.int p2), .val (.int p3), .val (.long tI.toInt64), .second, .val (.int kI), .val (.int dI), .val (.int zI), .val (.int sI), .val (.int jI), .val (.long pI), .second, .val (.double db), .second, .val (.double dr), .second, .val (.ref b16), .val (.double dw), .second, .val (.long ((kI.toInt64 + (1 : Int64)) * (tI.toInt64 + (dI.toInt64 * pI)))), .second, .unset, .unset, .unset, .unset] [(.long pI), (.long kI.toInt64)])) _
      refine XS.lmul X19.here hx rfl (hb hby at_164) rfl ?_
      show Steps p.tables e below (T19.setTop (mkF m 165 #[.val (.int p0), .val (.int p1), .val (.int p2), .val (.int p3), .val (.long tI.toInt64), .second, .val (.int kI), .val (.int dI), .val (.int zI), .val (.int sI), .val (.int jI), .val (.long pI), .second, .val (.double db), .second, .val (.double dr), .second, .val (.ref b16), .val (.double dw), .second, .val (.long ((kI.toInt64 + (1 : Int64)) * (tI.toInt64 + (dI.toInt64 * pI)))), .second, .unset, .unset, .unset, .unset] [(.long (kI.toInt64 * pI))])) _
      refine XS.lload X19.here hx rfl (hb hby at_165) rfl ?_
      show Steps p.tables e below (T19.setTop (mkF m 167 #[.val (.int p0), .val (.int p1), .val (.int p2), .val (.int p3), .val (.long tI.toInt64), .second, .val (.int kI), .val (.int dI), .val (.int zI), .val (.int sI), .val (.int jI), .val (.long pI), .second, .val (.double db), .second, .val (.double dr), .second, .val (.ref b16), .val (.double dw), .second, .val (.long ((kI.toInt64 + (1 : Int64)) * (tI.toInt64 + (dI.toInt64 * pI)))), .second, .unset, .unset, .unset, .unset] [(.long tI.toInt64), (.long (kI.toInt64 * pI))])) _
      refine XS.ladd X19.here hx rfl (hb hby at_167) rfl ?_
      show Steps p.tables e below (T19.setTop (mkF m 168 #[.val (.int p0), .val (.int p1), .val (.int p2), .val (.int p3), .val (.long tI.toInt64), .second, .val (.int kI), .val (.int dI), .val (.int zI), .val (.int sI), .val (.int jI), .val (.long pI), .second, .val (.double db), .second, .val (.double dr), .second, .val (.ref b16), .val (.double dw), .second, .val (.long ((kI.toInt64 + (1 : Int64)) * (tI.toInt64 + (dI.toInt64 * pI)))), .second, .unset, .unset, .unset, .unset] [(.long ((kI.toInt64 * pI) + tI.toInt64))])) _
      refine XS.iload X19.here hx rfl (hb hby at_168) rfl ?_
      show Steps p.tables e below (T19.setTop (mkF m 170 #[.val (.int p0), .val (.int p1), .val (.int p2), .val (.int p3), .val (.long tI.toInt64), .second, .val (.int kI), .val (.int dI), .val (.int zI), .val (.int sI), .val (.int jI), .val (.long pI), .second, .val (.double db), .second, .val (.double dr), .second, .val (.ref b16), .val (.double dw), .second, .val (.long ((kI.toInt64 + (1 : Int64)) * (tI.toInt64 + (dI.toInt64 * pI)))), .second, .unset, .unset, .unset, .unset] [(.int dI), (.long ((kI.toInt64 * pI) + tI.toInt64))])) _
      refine XS.i2l X19.here hx rfl (hb hby at_170) rfl ?_
      show Steps p.tables e below (T19.setTop (mkF m 171 #[.val (.int p0), .val (.int p1), .val (.int p2), .val (.int p3), .val (.long tI.toInt64), .second, .val (.int kI), .val (.int dI), .val (.int zI), .val (.int sI), .val (.int jI), .val (.long pI), .second, .val (.double db), .second, .val (.double dr), .second, .val (.ref b16), .val (.double dw), .second, .val (.long ((kI.toInt64 + (1 : Int64)) * (tI.toInt64 + (dI.toInt64 * pI)))), .second, .unset, .unset, .unset, .unset] [(.long dI.toInt64), (.long ((kI.toInt64 * pI) + tI.toInt64))])) _
      refine XS.lload X19.here hx rfl (hb hby at_171) rfl ?_
      show Steps p.tables e below (T19.setTop (mkF m 173 #[.val (.int p0), .val (.int p1), .val (.int p2), .val (.int p3), .val (.long tI.toInt64), .second, .val (.int kI), .val (.int dI), .val (.int zI), .val (.int sI), .val (.int jI), .val (.long pI), .second, .val (.double db), .second, .val (.double dr), .second, .val (.ref b16), .val (.double dw), .second, .val (.long ((kI.toInt64 + (1 : Int64)) * (tI.toInt64 + (dI.toInt64 * pI)))), .second, .unset, .unset, .unset, .unset] [(.long pI), (.long dI.toInt64), (.long ((kI.toInt64 * pI) + tI.toInt64))])) _
      refine XS.lmul X19.here hx rfl (hb hby at_173) rfl ?_
      show Steps p.tables e below (T19.setTop (mkF m 174 #[.val (.int p0), .val (.int p1), .val (.int p2), .val (.int p3), .val (.long tI.toInt64), .second, .val (.int kI), .val (.int dI), .val (.int zI), .val (.int sI), .val (.int jI), .val (.long pI), .second, .val (.double db), .second, .val (.double dr), .second, .val (.ref b16), .val (.double dw), .second, .val (.long ((kI.toInt64 + (1 : Int64)) * (tI.toInt64 + (dI.toInt64 * pI)))), .second, .unset, .unset, .unset, .unset] [(.long (dI.toInt64 * pI)), (.long ((kI.toInt64 * pI) + tI.toInt64))])) _
      refine XS.ladd X19.here hx rfl (hb hby at_174) rfl ?_
      show Steps p.tables e below (T19.setTop (mkF m 175 #[.val (.int p0), .val (.int p1), .val (.int p2), .val (.int p3), .val (.long tI.toInt64), .second, .val (.int kI), .val (.int dI), .val (.int zI), .val (.int sI), .val (.int jI), .val (.long pI), .second, .val (.double db), .second, .val (.double dr), .second, .val (.ref b16), .val (.double dw), .second, .val (.long ((kI.toInt64 + (1 : Int64)) * (tI.toInt64 + (dI.toInt64 * pI)))), .second, .unset, .unset, .unset, .unset] [(.long (((kI.toInt64 * pI) + tI.toInt64) + (dI.toInt64 * pI)))])) _
      refine XS.lstore X19.here hx rfl (hb hby at_175) rfl (l' := #[.val (.int p0), .val (.int p1), .val (.int p2), .val (.int p3), .val (.long tI.toInt64), .second, .val (.int kI), .val (.int dI), .val (.int zI), .val (.int sI), .val (.int jI), .val (.long pI), .second, .val (.double db), .second, .val (.double dr), .second, .val (.ref b16), .val (.double dw), .second, .val (.long ((kI.toInt64 + (1 : Int64)) * (tI.toInt64 + (dI.toInt64 * pI)))), .second, .val (.long (((kI.toInt64 * pI) + tI.toInt64) + (dI.toInt64 * pI))), .second, .unset, .unset]) rfl ?_
      show Steps p.tables e below (T19.setTop (mkF m 177 #[.val (.int p0), .val (.int p1), .val (.int p2), .val (.int p3), .val (.long tI.toInt64), .second, .val (.int kI), .val (.int dI), .val (.int zI), .val (.int sI), .val (.int jI), .val (.long pI), .second, .val (.double db), .second, .val (.double dr), .second, .val (.ref b16), .val (.double dw), .second, .val (.long ((kI.toInt64 + (1 : Int64)) * (tI.toInt64 + (dI.toInt64 * pI)))), .second, .val (.long (((kI.toInt64 * pI) + tI.toInt64) + (dI.toInt64 * pI))), .second, .unset, .unset] [])) _
      refine XS.lload X19.here hx rfl (hb hby at_177) rfl ?_
      show Steps p.tables e below (T19.setTop (mkF m 179 #[.val (.int p0), .val (.int p1), .val (.int p2), .val (.int p3), .val (.long tI.toInt64), .second, .val (.int kI), .val (.int dI), .val (.int zI), .val (.int sI), .val (.int jI), .val (.long pI), .second, .val (.double db), .second, .val (.double dr), .second, .val (.ref b16), .val (.double dw), .second, .val (.long ((kI.toInt64 + (1 : Int64)) * (tI.toInt64 + (dI.toInt64 * pI)))), .second, .val (.long (((kI.toInt64 * pI) + tI.toInt64) + (dI.toInt64 * pI))), .second, .unset, .unset] [(.long ((kI.toInt64 + (1 : Int64)) * (tI.toInt64 + (dI.toInt64 * pI))))])) _
      refine XS.l2dS X19.here hx rfl (hb hby at_179) rfl h_dp ?_
      show Steps p.tables e below (T19.setTop (mkF m 180 #[.val (.int p0), .val (.int p1), .val (.int p2), .val (.int p3), .val (.long tI.toInt64), .second, .val (.int kI), .val (.int dI), .val (.int zI), .val (.int sI), .val (.int jI), .val (.long pI), .second, .val (.double db), .second, .val (.double dr), .second, .val (.ref b16), .val (.double dw), .second, .val (.long ((kI.toInt64 + (1 : Int64)) * (tI.toInt64 + (dI.toInt64 * pI)))), .second, .val (.long (((kI.toInt64 * pI) + tI.toInt64) + (dI.toInt64 * pI))), .second, .unset, .unset] [(.double dp)])) _
      refine XS.lload X19.here hx rfl (hb hby at_180) rfl ?_
      show Steps p.tables e below (T19.setTop (mkF m 182 #[.val (.int p0), .val (.int p1), .val (.int p2), .val (.int p3), .val (.long tI.toInt64), .second, .val (.int kI), .val (.int dI), .val (.int zI), .val (.int sI), .val (.int jI), .val (.long pI), .second, .val (.double db), .second, .val (.double dr), .second, .val (.ref b16), .val (.double dw), .second, .val (.long ((kI.toInt64 + (1 : Int64)) * (tI.toInt64 + (dI.toInt64 * pI)))), .second, .val (.long (((kI.toInt64 * pI) + tI.toInt64) + (dI.toInt64 * pI))), .second, .unset, .unset] [(.long (((kI.toInt64 * pI) + tI.toInt64) + (dI.toInt64 * pI))), (.double dp)])) _
      refine XS.l2dS X19.here hx rfl (hb hby at_182) rfl h_dq ?_
      show Steps p.tables e below (T19.setTop (mkF m 183 #[.val (.int p0), .val (.int p1), .val (.int p2), .val (.int p3), .val (.long tI.toInt64), .second, .val (.int kI), .val (.int dI), .val (.int zI), .val (.int sI), .val (.int jI), .val (.long pI), .second, .val (.double db), .second, .val (.double dr), .second, .val (.ref b16), .val (.double dw), .second, .val (.long ((kI.toInt64 + (1 : Int64)) * (tI.toInt64 + (dI.toInt64 * pI)))), .second, .val (.long (((kI.toInt64 * pI) + tI.toInt64) + (dI.toInt64 * pI))), .second, .unset, .unset] [(.double dq), (.double dp)])) _
      refine XS.ddivS X19.here hx rfl (hb hby at_183) rfl (by rw [h_dE]; exact own_qnn q_dE) h_dE ?_
      show Steps p.tables e below (T19.setTop (mkF m 184 #[.val (.int p0), .val (.int p1), .val (.int p2), .val (.int p3), .val (.long tI.toInt64), .second, .val (.int kI), .val (.int dI), .val (.int zI), .val (.int sI), .val (.int jI), .val (.long pI), .second, .val (.double db), .second, .val (.double dr), .second, .val (.ref b16), .val (.double dw), .second, .val (.long ((kI.toInt64 + (1 : Int64)) * (tI.toInt64 + (dI.toInt64 * pI)))), .second, .val (.long (((kI.toInt64 * pI) + tI.toInt64) + (dI.toInt64 * pI))), .second, .unset, .unset] [(.double dE)])) _
      refine XS.dstore X19.here hx rfl (hb hby at_184) rfl (l' := #[.val (.int p0), .val (.int p1), .val (.int p2), .val (.int p3), .val (.long tI.toInt64), .second, .val (.int kI), .val (.int dI), .val (.int zI), .val (.int sI), .val (.int jI), .val (.long pI), .second, .val (.double db), .second, .val (.double dr), .second, .val (.ref b16), .val (.double dw), .second, .val (.long ((kI.toInt64 + (1 : Int64)) * (tI.toInt64 + (dI.toInt64 * pI)))), .second, .val (.long (((kI.toInt64 * pI) + tI.toInt64) + (dI.toInt64 * pI))), .second, .val (.double dE), .second]) rfl ?_
      show Steps p.tables e below (T19.setTop (mkF m 186 #[.val (.int p0), .val (.int p1), .val (.int p2), .val (.int p3), .val (.long tI.toInt64), .second, .val (.int kI), .val (.int dI), .val (.int zI), .val (.int sI), .val (.int jI), .val (.long pI), .second, .val (.double db), .second, .val (.double dr), .second, .val (.ref b16), .val (.double dw), .second, .val (.long ((kI.toInt64 + (1 : Int64)) * (tI.toInt64 + (dI.toInt64 * pI)))), .second, .val (.long (((kI.toInt64 * pI) + tI.toInt64) + (dI.toInt64 * pI))), .second, .val (.double dE), .second] [])) _
      refine XS.dload X19.here hx rfl (hb hby at_186) rfl ?_
      show Steps p.tables e below (T19.setTop (mkF m 188 #[.val (.int p0), .val (.int p1), .val (.int p2), .val (.int p3), .val (.long tI.toInt64), .second, .val (.int kI), .val (.int dI), .val (.int zI), .val (.int sI), .val (.int jI), .val (.long pI), .second, .val (.double db), .second, .val (.double dr), .second, .val (.ref b16), .val (.double dw), .second, .val (.long ((kI.toInt64 + (1 : Int64)) * (tI.toInt64 + (dI.toInt64 * pI)))), .second, .val (.long (((kI.toInt64 * pI) + tI.toInt64) + (dI.toInt64 * pI))), .second, .val (.double dE), .second] [(.double dw)])) _
      refine XS.dload X19.here hx rfl (hb hby at_188) rfl ?_
      show Steps p.tables e below (T19.setTop (mkF m 190 #[.val (.int p0), .val (.int p1), .val (.int p2), .val (.int p3), .val (.long tI.toInt64), .second, .val (.int kI), .val (.int dI), .val (.int zI), .val (.int sI), .val (.int jI), .val (.long pI), .second, .val (.double db), .second, .val (.double dr), .second, .val (.ref b16), .val (.double dw), .second, .val (.long ((kI.toInt64 + (1 : Int64)) * (tI.toInt64 + (dI.toInt64 * pI)))), .second, .val (.long (((kI.toInt64 * pI) + tI.toInt64) + (dI.toInt64 * pI))), .second, .val (.double dE), .second] [(.double dE), (.double dw)])) _
      refine XS.dcmpS X19.here hx rfl (hb hby at_190) rfl (dcmpV_eq (own_same q_dw q_dE) (own_qnn q_dw) _) ?_
      show Steps p.tables e below (T19.setTop (mkF m 191 #[.val (.int p0), .val (.int p1), .val (.int p2), .val (.int p3), .val (.long tI.toInt64), .second, .val (.int kI), .val (.int dI), .val (.int zI), .val (.int sI), .val (.int jI), .val (.long pI), .second, .val (.double db), .second, .val (.double dr), .second, .val (.ref b16), .val (.double dw), .second, .val (.long ((kI.toInt64 + (1 : Int64)) * (tI.toInt64 + (dI.toInt64 * pI)))), .second, .val (.long (((kI.toInt64 * pI) + tI.toInt64) + (dI.toInt64 * pI))), .second, .val (.double dE), .second] [(.int (0 : Int32))])) _
      refine XS.ifNo X19.here hx rfl (hb hby at_191) rfl ((if0 _ _).trans (teq (by decide : (0 : Int32) = (0 : Int32))).2) ?_
      show Steps p.tables e below (T19.setTop (mkF m 194 #[.val (.int p0), .val (.int p1), .val (.int p2), .val (.int p3), .val (.long tI.toInt64), .second, .val (.int kI), .val (.int dI), .val (.int zI), .val (.int sI), .val (.int jI), .val (.long pI), .second, .val (.double db), .second, .val (.double dr), .second, .val (.ref b16), .val (.double dw), .second, .val (.long ((kI.toInt64 + (1 : Int64)) * (tI.toInt64 + (dI.toInt64 * pI)))), .second, .val (.long (((kI.toInt64 * pI) + tI.toInt64) + (dI.toInt64 * pI))), .second, .val (.double dE), .second] [])) _
      refine XS.iconst X19.here hx rfl (hb hby at_194) ?_
      show Steps p.tables e below (T19.setTop (mkF m 195 #[.val (.int p0), .val (.int p1), .val (.int p2), .val (.int p3), .val (.long tI.toInt64), .second, .val (.int kI), .val (.int dI), .val (.int zI), .val (.int sI), .val (.int jI), .val (.long pI), .second, .val (.double db), .second, .val (.double dr), .second, .val (.ref b16), .val (.double dw), .second, .val (.long ((kI.toInt64 + (1 : Int64)) * (tI.toInt64 + (dI.toInt64 * pI)))), .second, .val (.long (((kI.toInt64 * pI) + tI.toInt64) + (dI.toInt64 * pI))), .second, .val (.double dE), .second] [(.int (1 : Int32))])) _
      refine XS.goto X19.here hx rfl (pc0 := 195) (pc' := 199) rfl (hb hby at_195) (by decide) (by decide) ?_
      show Steps p.tables e below (T19.setTop (mkF m 199 #[.val (.int p0), .val (.int p1), .val (.int p2), .val (.int p3), .val (.long tI.toInt64), .second, .val (.int kI), .val (.int dI), .val (.int zI), .val (.int sI), .val (.int jI), .val (.long pI), .second, .val (.double db), .second, .val (.double dr), .second, .val (.ref b16), .val (.double dw), .second, .val (.long ((kI.toInt64 + (1 : Int64)) * (tI.toInt64 + (dI.toInt64 * pI)))), .second, .val (.long (((kI.toInt64 * pI) + tI.toInt64) + (dI.toInt64 * pI))), .second, .val (.double dE), .second] [(.int (1 : Int32))])) _
      exact k
    refine own_go k21 ?_
    clear k21
    obtain ⟨fs, hr, hrun, hended, hRW⟩ := X19.leaveW Sn17 (by rw [eh19]; exact hk17c) (v := some (.int (nar .boolean (1 : Int32)))) (fun h => by rw [Bd.returns] at h; cases h)
    refine ⟨_, _, retN X19 hx (t := .boolean) Bd.returns (by simp) (hb hby at_199) hr, hPf _ _ ⟨hrun, hended, _, _, rfl, ?_, hRW.1, hRW.2.1, hRW.2.2.1, hRW.2.2.2.mono (by decide) (by decide)⟩⟩
    show own_Q_law Z p0 p1 p2 p3 h0 n0 _ T19.heap _
    rw [eh19]
    exact ⟨rfl, N19⟩
set_option maxRecDepth 65536 in
set_option maxHeartbeats 40000000 in
theorem own_comes {Post : Tables → Env → Array Value → State → Outcome → State → Prop} (hpost : ∀ tb e args s v u, (limb_1_1.after args s (.returned v) u = true ∧ limb_1_2.after args s (.returned v) u = true ∧ True) → ReturnedEndW s (.returned v) u (Jvm.fieldLocs frame_1_writes args s ++ Jvm.arrayLocs frame_1_arrays args s ++ Jvm.staticLocs frame_1_statics s) 24 4224 → Post tb e args s (.returned v) u) :
    ArmFor flags0 classFile x code maxLocals ret World_1 tables_1 room_1 Calls_1 rest_1 Pre_1 Post := by
  intro l hfl _ _ p e ha hc hk s m args below hf hA hF happ hP
  obtain ⟨hcalls, hrest, hpre⟩ := hP
  obtain ⟨-, -, -, hnamed, -, -, -, hat⟩ := (Spec.applies_iff hf).mp happ
  obtain ⟨hg, hn⟩ := and_e (Cond.before_iff.mp (show (Jvm.Cond.and given_1 narrow_1).before args s = true from hpre))
  obtain ⟨hg1a, hg1b⟩ := and_e hg
  obtain ⟨hg2a, hg2b⟩ := and_e hg1b
  obtain ⟨hg3a, hg3b⟩ := and_e hg2b
  obtain ⟨hg4a, hg4b⟩ := and_e hg3b
  obtain ⟨w0, w1, w2, w3, rfl⟩ : ∃ w0 w1 w2 w3 : Value, args = #[w0, w1, w2, w3] := by
    have hs : args.size = 4 := by simpa [Cond.value, given_1] using hg1a
    obtain ⟨L⟩ := args
    match L, hs with
    | [w0, w1, w2, w3], _ => exact ⟨w0, w1, w2, w3, rfl⟩
  have hw := fun d (hd : d ∈ tables_1) => atoms_spec (ws := Jvm.Cond.code x code maxLocals ret :: tables_1) hat d (List.mem_cons_of_mem _ hd)
  have hfit : Fit s := fun {y c} hc i hi => by
    obtain ⟨ha, rfl⟩ := Array.getElem?_eq_some_iff.mp hc
    have q := List.all_eq_true.mp ((Array.all_eq_true_iff_forall_mem.mp hF) _ (Array.getElem_mem ha)) i (List.mem_range.mpr hi)
    simpa [Array.getElem?_eq_getElem hi] using q
  obtain ⟨i0, ei0⟩ := is_v hg2a
  obtain rfl : w0 = (.int i0) := Option.some.inj ei0
  obtain ⟨i1, ei1⟩ := is_v hg3a
  obtain rfl : w1 = (.int i1) := Option.some.inj ei1
  obtain ⟨i2, ei2⟩ := is_v hg4a
  obtain rfl : w2 = (.int i2) := Option.some.inj ei2
  obtain ⟨i3, ei3⟩ := is_v hg4b
  obtain rfl : w3 = (.int i3) := Option.some.inj ei3
  obtain ⟨n, o, h1, h2, h3, _, L, rfl, ⟨rfl, N⟩, hq⟩ := own_rm_law l s _ hw tables_1 i0 i1 i2 i3 s.heap s.heap.size (Nat.le_refl _) p e ha hc hk s m _ below hf ((Spec.applies_iff_loose hf).mp happ).1 ⟨rfl, State.Warmed39.refl s, rfl⟩ trivial
  refine ⟨n, _, h1, h2, h3, hpost _ _ _ _ _ _ ⟨Cond.after_iff.mpr rfl, Cond.after_iff.mpr (eq_i res_at (Term.int_eval (1)) rfl), trivial⟩ ⟨hq.1, hq.2.1, hq.2.2.1, (hq.2.2.2.sift fun y hy => Or.inr (N y hy)).mono (by decide) (by decide)⟩⟩
theorem main_1_1 : Claimed_1_1 := own_comes fun _ _ _ _ _ _ h hF => ⟨h.1, hF⟩
theorem main_1_2 : Claimed_1_2 := own_comes fun _ _ _ _ _ _ h hF => ⟨h.2.1, hF⟩
end Jvm.Pilot.@@N@@
namespace Jvm.Pilot.@@N@@
open Jvm Jvm.ClassFile Sem Op Lib Jvm.Free Jvm.Stand Jvm.Pilot.@@N@@.Jvm.D
/-! MADE BY PROGRAM (witnessworld.py) out of the Statement's table words and the real class files: 18 classes; the members and pool entries that the words name. The judged class is class 1, her method 1. -/
namespace start1
open Jvm.ClassFile
def u (s : String) : CpInfo := .utf8 (stringToUtf16 s)
/-- a pool by its gaps: so many unusable entries, then the entry; so many at the end -/
def gap : Nat → List CpInfo → List CpInfo
  | 0, r => r
  | n + 1, r => .unusable :: gap n r
def poolList (es : List (Nat × CpInfo)) (last : Nat) : List CpInfo := es.foldr (fun e r => gap e.1 (e.2 :: r)) (gap last [])
def pool (es : List (Nat × CpInfo)) (last : Nat) : Array CpInfo := ⟨poolList es last⟩
def fileOf (pool : Array CpInfo) (this : Nat) (attrs : Array Attribute := #[]) (ms : Array MethodInfo := #[]) (fl : Nat := 33) (sup : Nat := 0) (ifs : Array Nat := #[]) (fds : Array FieldInfo := #[]) : ClassFile where
  minorVersion := 0
  majorVersion := 65
  constantPool := pool
  accessFlags := fl
  thisClass := this
  superClass := sup
  interfaces := ifs
  fields := fds
  methods := ms
  attributes := attrs
def plain (name : String) (sup : Option ClassId) : Class where
  name := name
  kind := .ordinary
  loader := none
  accessFlags := 33
  super := sup
  interfaces := #[]
  cf := none
  fields := #[]
  methods := #[]
  instanceTypes := #[]
  staticTypes := #[]
  resolved := #[]
  callSites := []
  init := .initialized
  statics := none
  mirror := none

def pool0 : Array CpInfo := pool [(5, u "<init>"), (0, u "()V"), (1, .class_ 10), (1, u "java/lang/Object")] 113

def k0c0 : Code := { maxStack := 0, maxLocals := 1, code := object_method_1_code, exceptionTable := #[], attributes := #[] }
def k0m0 : Method := { name := "<init>", desc := "()V", sig := { parameters := [], returnType := none }, accessFlags := 1, code := some k0c0 }
/-- java/lang/Object -/
def k0 : Class := { plain "java/lang/Object" none with
  accessFlags := 33
  interfaces := #[]
  cf := some (fileOf pool0 8 #[] #[{ accessFlags := 1, nameIndex := 5, descriptorIndex := 6, attributes := #[] }] 33 0 #[] #[])
  fields := #[]
  methods := #[k0m0]
  instanceTypes := #[]
  staticTypes := #[]
  resolved := Array.replicate 124 none
  statics := none }

def pool1 : Array CpInfo := pool [(2, .class_ 4), (1, u "java/lang/Object"), (0, u "<init>"), (0, u "()V"), (0, .integer 2147483647), (0, .methodref 9 10), (0, .class_ 11), (0, .nameAndType 12 13), (0, u "java/lang/Math"), (0, u "max"), (0, u "(II)I"), (0, .integer 65535), (0, .class_ 16), (0, u "com/example/likelihood/likelihood/ranking/Bm25L"), (0, .methodref 15 18), (0, .nameAndType 5 19), (0, u "(DDDD)V"), (0, .methodref 15 21), (0, .nameAndType 22 23), (0, u "frequencyWeight"), (0, u "(ID)D"), (0, .class_ 25), (0, u "com/example/likelihood/likelihood/ranking/Bm25LFrequencyWeightPinLaw"), (2, u "law"), (0, u "(IIII)Z")] 3

def k1m0 : Method := { name := "<init>", desc := "()V", sig := { parameters := [], returnType := none }, accessFlags := 1, code := none }
def k1c1 : Code := { maxStack := 10, maxLocals := 26, code := code, exceptionTable := #[], attributes := #[] }
def k1m1 : Method := { name := "law", desc := "(IIII)Z", sig := { parameters := [.int, .int, .int, .int], returnType := some .boolean }, accessFlags := 9, code := some k1c1 }
/-- com/example/likelihood/likelihood/ranking/Bm25LFrequencyWeightPinLaw -/
def k1 : Class := { plain "com/example/likelihood/likelihood/ranking/Bm25LFrequencyWeightPinLaw" (some 0) with
  accessFlags := 49
  interfaces := #[]
  cf := some (fileOf pool1 24 #[] #[{ accessFlags := 1, nameIndex := 5, descriptorIndex := 6, attributes := #[] }, { accessFlags := 9, nameIndex := 28, descriptorIndex := 29, attributes := #[] }] 49 2 #[] #[])
  fields := #[]
  methods := #[k1m0, k1m1]
  instanceTypes := #[]
  staticTypes := #[]
  resolved := Array.replicate 33 none
  statics := none }

def pool2 : Array CpInfo := pool [(1, .class_ 2), (0, u "java/lang/Math"), (1, .class_ 6), (1, u "java/lang/Object"), (0, u "<init>"), (0, u "()V"), (89, .class_ 100), (1, u "java/lang/Math$RandomNumberGeneratorHolder"), (71, u "negativeZeroFloatBits"), (0, u "J"), (2, u "negativeZeroDoubleBits"), (21, u "max"), (46, u "$assertionsDisabled"), (0, u "Z"), (88, u "(II)I"), (2, u "twoToTheDoubleScaleDown"), (0, u "D"), (4, u "twoToTheDoubleScaleUp"), (9, u "E"), (3, u "PI"), (2, u "TAU"), (2, u "DEGREES_TO_RADIANS"), (0, u "RADIANS_TO_DEGREES")] 94

def k2m0 : Method := { name := "<init>", desc := "()V", sig := { parameters := [], returnType := none }, accessFlags := 2, code := none }
def k2c1 : Code := { maxStack := 2, maxLocals := 2, code := jdk_29_method_65_code, exceptionTable := #[], attributes := #[] }
def k2m1 : Method := { name := "max", desc := "(II)I", sig := { parameters := [.int, .int], returnType := some .int }, accessFlags := 9, code := some k2c1 }
/-- java/lang/Math -/
def k2 : Class := { plain "java/lang/Math" (some 0) with
  accessFlags := 49
  interfaces := #[]
  cf := some (fileOf pool2 1 #[.nestMembers #[98]] #[{ accessFlags := 2, nameIndex := 7, descriptorIndex := 8, attributes := #[] }, { accessFlags := 9, nameIndex := 198, descriptorIndex := 335, attributes := #[] }] 49 4 #[] #[{ accessFlags := 25, nameIndex := 354, descriptorIndex := 339, attributes := #[] }, { accessFlags := 25, nameIndex := 358, descriptorIndex := 339, attributes := #[] }, { accessFlags := 25, nameIndex := 361, descriptorIndex := 339, attributes := #[] }, { accessFlags := 26, nameIndex := 364, descriptorIndex := 339, attributes := #[] }, { accessFlags := 26, nameIndex := 365, descriptorIndex := 339, attributes := #[] }, { accessFlags := 26, nameIndex := 172, descriptorIndex := 173, attributes := #[] }, { accessFlags := 26, nameIndex := 176, descriptorIndex := 173, attributes := #[] }, { accessFlags := 8, nameIndex := 344, descriptorIndex := 339, attributes := #[] }, { accessFlags := 8, nameIndex := 338, descriptorIndex := 339, attributes := #[] }, { accessFlags := 4120, nameIndex := 245, descriptorIndex := 246, attributes := #[] }])
  fields := #[{ name := "E", type := .double, accessFlags := 25, slot := 0, constantValue := 0 }, { name := "PI", type := .double, accessFlags := 25, slot := 1, constantValue := 0 }, { name := "TAU", type := .double, accessFlags := 25, slot := 2, constantValue := 0 }, { name := "DEGREES_TO_RADIANS", type := .double, accessFlags := 26, slot := 3, constantValue := 0 }, { name := "RADIANS_TO_DEGREES", type := .double, accessFlags := 26, slot := 4, constantValue := 0 }, { name := "negativeZeroFloatBits", type := .long, accessFlags := 26, slot := 5, constantValue := 0 }, { name := "negativeZeroDoubleBits", type := .long, accessFlags := 26, slot := 6, constantValue := 0 }, { name := "twoToTheDoubleScaleUp", type := .double, accessFlags := 8, slot := 7, constantValue := 0 }, { name := "twoToTheDoubleScaleDown", type := .double, accessFlags := 8, slot := 8, constantValue := 0 }, { name := "$assertionsDisabled", type := .boolean, accessFlags := 4120, slot := 9, constantValue := 0 }]
  methods := #[k2m0, k2m1]
  instanceTypes := #[]
  staticTypes := #[.double, .double, .double, .double, .double, .long, .long, .double, .double, .boolean]
  resolved := Array.replicate 460 none
  statics := none }

def pool3 : Array CpInfo := pool [(1, .class_ 2), (0, u "com/example/likelihood/likelihood/ranking/RankingModel"), (0, .class_ 4), (0, u "java/lang/Object")] 11

/-- com/example/likelihood/likelihood/ranking/RankingModel -/
def k3 : Class := { plain "com/example/likelihood/likelihood/ranking/RankingModel" (some 0) with
  accessFlags := 1537
  interfaces := #[]
  cf := some (fileOf pool3 1 #[] #[] 1537 3 #[] #[])
  fields := #[]
  methods := #[]
  instanceTypes := #[]
  staticTypes := #[]
  resolved := Array.replicate 16 none
  statics := none }

def pool4 : Array CpInfo := pool [(1, .methodref 2 3), (0, .class_ 4), (0, .nameAndType 5 6), (0, u "java/lang/Object"), (0, u "<init>"), (0, u "()V"), (9, .fieldref 17 18), (0, .class_ 19), (0, .nameAndType 20 21), (0, u "com/example/likelihood/likelihood/ranking/BestMatch"), (0, u "k3"), (0, u "D"), (0, .string 23), (0, u "k2"), (0, .methodref 17 25), (0, .nameAndType 26 27), (0, u "requireParameter"), (0, u "(Ljava/lang/String;D)D"), (0, .fieldref 17 29), (0, .nameAndType 23 21), (0, .class_ 31), (0, u "com/example/likelihood/likelihood/ranking/BestMatch$Scorer"), (60, .methodref 93 94), (0, .class_ 95), (0, .nameAndType 96 27), (0, u "com/example/likelihood/likelihood/ranking/ParameterRanges"), (0, u "requireNonNegative"), (0, .string 98), (0, u "b"), (0, .methodref 93 100), (0, .nameAndType 101 27), (0, u "requireUnitInterval"), (7, u "(D)D"), (0, .class_ 111), (0, u "com/example/likelihood/likelihood/ranking/RankingModel"), (0, u "K1"), (0, u "Ljava/lang/String;"), (3, u "B"), (0, u "K3"), (1, u "K2"), (0, u "(DD)V"), (10, u "requireLengthWeight")] 23

def k4c0 : Code := { maxStack := 4, maxLocals := 5, code := prog_50_method_1_code, exceptionTable := #[], attributes := #[] }
def k4m0 : Method := { name := "<init>", desc := "(DD)V", sig := { parameters := [.double, .double], returnType := none }, accessFlags := 4, code := some k4c0 }
def k4c1 : Code := { maxStack := 3, maxLocals := 3, code := prog_50_method_5_code, exceptionTable := #[], attributes := #[] }
def k4m1 : Method := { name := "requireParameter", desc := "(Ljava/lang/String;D)D", sig := { parameters := [(.object "java/lang/String"), .double], returnType := some .double }, accessFlags := 12, code := some k4c1 }
def k4c2 : Code := { maxStack := 3, maxLocals := 2, code := prog_50_method_6_code, exceptionTable := #[], attributes := #[] }
def k4m2 : Method := { name := "requireLengthWeight", desc := "(D)D", sig := { parameters := [.double], returnType := some .double }, accessFlags := 12, code := some k4c2 }
/-- com/example/likelihood/likelihood/ranking/BestMatch -/
def k4 : Class := { plain "com/example/likelihood/likelihood/ranking/BestMatch" (some 0) with
  accessFlags := 1057
  interfaces := #[3]
  cf := some (fileOf pool4 17 #[.nestMembers #[30]] #[{ accessFlags := 4, nameIndex := 5, descriptorIndex := 121, attributes := #[] }, { accessFlags := 12, nameIndex := 26, descriptorIndex := 27, attributes := #[] }, { accessFlags := 12, nameIndex := 132, descriptorIndex := 109, attributes := #[] }] 1057 2 #[110] #[{ accessFlags := 25, nameIndex := 112, descriptorIndex := 113, attributes := #[] }, { accessFlags := 25, nameIndex := 117, descriptorIndex := 113, attributes := #[] }, { accessFlags := 25, nameIndex := 118, descriptorIndex := 113, attributes := #[] }, { accessFlags := 25, nameIndex := 120, descriptorIndex := 113, attributes := #[] }, { accessFlags := 18, nameIndex := 20, descriptorIndex := 21, attributes := #[] }, { accessFlags := 18, nameIndex := 23, descriptorIndex := 21, attributes := #[] }])
  fields := #[{ name := "K1", type := (.object "java/lang/String"), accessFlags := 25, slot := 0, constantValue := 0 }, { name := "B", type := (.object "java/lang/String"), accessFlags := 25, slot := 1, constantValue := 0 }, { name := "K3", type := (.object "java/lang/String"), accessFlags := 25, slot := 2, constantValue := 0 }, { name := "K2", type := (.object "java/lang/String"), accessFlags := 25, slot := 3, constantValue := 0 }, { name := "k3", type := .double, accessFlags := 18, slot := 0, constantValue := 0 }, { name := "k2", type := .double, accessFlags := 18, slot := 1, constantValue := 0 }]
  methods := #[k4m0, k4m1, k4m2]
  instanceTypes := #[.double, .double]
  staticTypes := #[(.object "java/lang/String"), (.object "java/lang/String"), (.object "java/lang/String"), (.object "java/lang/String")]
  resolved := Array.replicate 156 none
  statics := none }

def pool5 : Array CpInfo := pool [(1, .methodref 2 3), (0, .class_ 4), (0, .nameAndType 5 6), (0, u "com/example/likelihood/likelihood/ranking/BestMatch"), (0, u "<init>"), (0, u "(DD)V"), (0, .string 8), (0, u "k1"), (0, .methodref 10 11), (0, .class_ 12), (0, .nameAndType 13 14), (0, u "com/example/likelihood/likelihood/ranking/Bm25L"), (0, u "requireParameter"), (0, u "(Ljava/lang/String;D)D"), (0, .fieldref 10 16), (0, .nameAndType 8 17), (0, u "D"), (0, .methodref 10 19), (0, .nameAndType 20 21), (0, u "requireLengthWeight"), (0, u "(D)D"), (0, .fieldref 10 23), (0, .nameAndType 24 17), (0, u "b"), (0, .string 26), (0, u "delta"), (0, .fieldref 10 28), (0, .nameAndType 26 17), (2, u "NAME"), (0, u "Ljava/lang/String;"), (1, u "DELTA"), (0, u "(DDDD)V"), (4, u "frequencyWeight"), (0, u "(ID)D")] 2

def k5c0 : Code := { maxStack := 5, maxLocals := 9, code := prog_56_method_1_code, exceptionTable := #[], attributes := #[] }
def k5m0 : Method := { name := "<init>", desc := "(DDDD)V", sig := { parameters := [.double, .double, .double, .double], returnType := none }, accessFlags := 1, code := some k5c0 }
def k5c1 : Code := { maxStack := 8, maxLocals := 6, code := prog_56_method_3_code, exceptionTable := #[], attributes := #[] }
def k5m1 : Method := { name := "frequencyWeight", desc := "(ID)D", sig := { parameters := [.int, .double], returnType := some .double }, accessFlags := 4, code := some k5c1 }
/-- com/example/likelihood/likelihood/ranking/Bm25L -/
def k5 : Class := { plain "com/example/likelihood/likelihood/ranking/Bm25L" (some 4) with
  accessFlags := 33
  interfaces := #[]
  cf := some (fileOf pool5 10 #[] #[{ accessFlags := 1, nameIndex := 5, descriptorIndex := 35, attributes := #[] }, { accessFlags := 4, nameIndex := 40, descriptorIndex := 41, attributes := #[] }] 33 2 #[] #[{ accessFlags := 25, nameIndex := 31, descriptorIndex := 32, attributes := #[] }, { accessFlags := 25, nameIndex := 34, descriptorIndex := 32, attributes := #[] }, { accessFlags := 18, nameIndex := 8, descriptorIndex := 17, attributes := #[] }, { accessFlags := 18, nameIndex := 24, descriptorIndex := 17, attributes := #[] }, { accessFlags := 18, nameIndex := 26, descriptorIndex := 17, attributes := #[] }])
  fields := #[{ name := "NAME", type := (.object "java/lang/String"), accessFlags := 25, slot := 0, constantValue := 0 }, { name := "DELTA", type := (.object "java/lang/String"), accessFlags := 25, slot := 1, constantValue := 0 }, { name := "k1", type := .double, accessFlags := 18, slot := 2, constantValue := 0 }, { name := "b", type := .double, accessFlags := 18, slot := 3, constantValue := 0 }, { name := "delta", type := .double, accessFlags := 18, slot := 4, constantValue := 0 }]
  methods := #[k5m0, k5m1]
  instanceTypes := #[.double, .double, .double, .double, .double]
  staticTypes := #[(.object "java/lang/String"), (.object "java/lang/String")]
  resolved := Array.replicate 44 none
  statics := none }

def pool6 : Array CpInfo := pool [(1, .class_ 2), (0, u "java/io/Serializable"), (0, .class_ 4), (0, u "java/lang/Object")] 2

/-- java/io/Serializable -/
def k6 : Class := { plain "java/io/Serializable" (some 0) with
  accessFlags := 1537
  interfaces := #[]
  cf := some (fileOf pool6 1 #[] #[] 1537 3 #[] #[])
  fields := #[]
  methods := #[]
  instanceTypes := #[]
  staticTypes := #[]
  resolved := Array.replicate 7 none
  statics := none }

def pool7 : Array CpInfo := pool [(1, .class_ 2), (0, u "java/lang/Comparable"), (0, .class_ 4), (0, u "java/lang/Object")] 7

/-- java/lang/Comparable -/
def k7 : Class := { plain "java/lang/Comparable" (some 0) with
  accessFlags := 1537
  interfaces := #[]
  cf := some (fileOf pool7 1 #[] #[] 1537 3 #[] #[])
  fields := #[]
  methods := #[]
  instanceTypes := #[]
  staticTypes := #[]
  resolved := Array.replicate 12 none
  statics := none }

def pool8 : Array CpInfo := pool [(2, .class_ 4), (1, u "java/lang/CharSequence"), (42, .class_ 48), (0, u "java/lang/CharSequence$1CodePointIterator"), (10, .class_ 60), (0, u "java/lang/CharSequence$1CharIterator"), (5, .class_ 67), (0, u "java/lang/Object")] 63

/-- java/lang/CharSequence -/
def k8 : Class := { plain "java/lang/CharSequence" (some 0) with
  accessFlags := 1537
  interfaces := #[]
  cf := some (fileOf pool8 2 #[.nestMembers #[47, 59]] #[] 1537 66 #[] #[])
  fields := #[]
  methods := #[]
  instanceTypes := #[]
  staticTypes := #[]
  resolved := Array.replicate 131 none
  statics := none }

def pool9 : Array CpInfo := pool [(1, .class_ 2), (0, u "java/lang/constant/Constable"), (0, .class_ 4), (0, u "java/lang/Object")] 6

/-- java/lang/constant/Constable -/
def k9 : Class := { plain "java/lang/constant/Constable" (some 0) with
  accessFlags := 1537
  interfaces := #[]
  cf := some (fileOf pool9 1 #[] #[] 1537 3 #[] #[])
  fields := #[]
  methods := #[]
  instanceTypes := #[]
  staticTypes := #[]
  resolved := Array.replicate 11 none
  statics := none }

def pool10 : Array CpInfo := pool [(1, .class_ 2), (0, u "java/lang/constant/ConstantDesc"), (0, .class_ 4), (0, u "java/lang/Object")] 32

/-- java/lang/constant/ConstantDesc -/
def k10 : Class := { plain "java/lang/constant/ConstantDesc" (some 0) with
  accessFlags := 1537
  interfaces := #[]
  cf := some (fileOf pool10 1 #[] #[] 1537 3 #[] #[])
  fields := #[]
  methods := #[]
  instanceTypes := #[]
  staticTypes := #[]
  resolved := Array.replicate 37 none
  statics := none }

def pool11 : Array CpInfo := pool [(2, .class_ 4), (1, u "java/lang/Object"), (0, u "<init>"), (0, u "()V"), (3, .class_ 12), (1, u "java/lang/String"), (0, u "value"), (0, u "[B"), (2, u "coder"), (0, u "B"), (2, u "hash"), (0, u "I"), (2, u "hashIsZero"), (0, u "Z"), (13, u "COMPACT_STRINGS"), (534, .class_ 576), (0, u "java/lang/CharSequence"), (22, u "CASE_INSENSITIVE_ORDER"), (0, u "Ljava/util/Comparator;"), (500, u "serialPersistentFields"), (0, u "[Ljava/io/ObjectStreamField;"), (0, .class_ 1104), (0, u "java/lang/String$CaseInsensitiveComparator"), (1, .class_ 1107), (0, u "java/io/Serializable"), (0, .class_ 1109), (0, u "java/lang/Comparable"), (0, .class_ 1111), (0, u "java/lang/constant/Constable"), (0, .class_ 1113), (0, u "java/lang/constant/ConstantDesc"), (2, u "serialVersionUID"), (0, u "J"), (3, u "REPL"), (0, u "C"), (2, u "LATIN1"), (1, u "UTF16")] 323

def k11m0 : Method := { name := "<init>", desc := "()V", sig := { parameters := [], returnType := none }, accessFlags := 1, code := none }
/-- java/lang/String -/
def k11 : Class := { plain "java/lang/String" (some 0) with
  accessFlags := 49
  interfaces := #[6, 7, 8, 9, 10]
  cf := some (fileOf pool11 10 #[.nestMembers #[1103]] #[{ accessFlags := 1, nameIndex := 5, descriptorIndex := 6, attributes := #[] }] 49 2 #[1106, 1108, 575, 1110, 1112] #[{ accessFlags := 18, nameIndex := 13, descriptorIndex := 14, attributes := #[] }, { accessFlags := 18, nameIndex := 17, descriptorIndex := 18, attributes := #[] }, { accessFlags := 2, nameIndex := 21, descriptorIndex := 22, attributes := #[] }, { accessFlags := 2, nameIndex := 25, descriptorIndex := 26, attributes := #[] }, { accessFlags := 26, nameIndex := 1116, descriptorIndex := 1117, attributes := #[] }, { accessFlags := 24, nameIndex := 40, descriptorIndex := 26, attributes := #[] }, { accessFlags := 26, nameIndex := 1101, descriptorIndex := 1102, attributes := #[] }, { accessFlags := 26, nameIndex := 1121, descriptorIndex := 1122, attributes := #[] }, { accessFlags := 25, nameIndex := 599, descriptorIndex := 600, attributes := #[] }, { accessFlags := 24, nameIndex := 1125, descriptorIndex := 18, attributes := #[] }, { accessFlags := 24, nameIndex := 1127, descriptorIndex := 18, attributes := #[] }])
  fields := #[{ name := "value", type := (.array .byte), accessFlags := 18, slot := 0, constantValue := 0 }, { name := "coder", type := .byte, accessFlags := 18, slot := 1, constantValue := 0 }, { name := "hash", type := .int, accessFlags := 2, slot := 2, constantValue := 0 }, { name := "hashIsZero", type := .boolean, accessFlags := 2, slot := 3, constantValue := 0 }, { name := "serialVersionUID", type := .long, accessFlags := 26, slot := 0, constantValue := 0 }, { name := "COMPACT_STRINGS", type := .boolean, accessFlags := 24, slot := 1, constantValue := 0 }, { name := "serialPersistentFields", type := (.array (.object "java/io/ObjectStreamField")), accessFlags := 26, slot := 2, constantValue := 0 }, { name := "REPL", type := .char, accessFlags := 26, slot := 3, constantValue := 0 }, { name := "CASE_INSENSITIVE_ORDER", type := (.object "java/util/Comparator"), accessFlags := 25, slot := 4, constantValue := 0 }, { name := "LATIN1", type := .byte, accessFlags := 24, slot := 5, constantValue := 0 }, { name := "UTF16", type := .byte, accessFlags := 24, slot := 6, constantValue := 0 }]
  methods := #[k11m0]
  instanceTypes := #[(.array .byte), .byte, .int, .boolean]
  staticTypes := #[.long, .boolean, (.array (.object "java/io/ObjectStreamField")), .char, (.object "java/util/Comparator"), .byte, .byte]
  resolved := Array.replicate 1451 none
  statics := none }

def pool12 : Array CpInfo := pool [(2, .class_ 4), (1, u "java/lang/Object"), (0, u "<init>"), (0, u "()V"), (2, .double 9218868437227405312), (11, .class_ 22), (0, u "com/example/likelihood/likelihood/ranking/ParameterRanges"), (2, u "requireNonNegative"), (0, u "(Ljava/lang/String;D)D"), (1, u "requireUnitInterval")] 19

def k12m0 : Method := { name := "<init>", desc := "()V", sig := { parameters := [], returnType := none }, accessFlags := 2, code := none }
def k12c1 : Code := { maxStack := 5, maxLocals := 3, code := prog_64_method_2_code, exceptionTable := #[], attributes := #[] }
def k12m1 : Method := { name := "requireNonNegative", desc := "(Ljava/lang/String;D)D", sig := { parameters := [(.object "java/lang/String"), .double], returnType := some .double }, accessFlags := 8, code := some k12c1 }
def k12c2 : Code := { maxStack := 5, maxLocals := 3, code := prog_64_method_3_code, exceptionTable := #[], attributes := #[] }
def k12m2 : Method := { name := "requireUnitInterval", desc := "(Ljava/lang/String;D)D", sig := { parameters := [(.object "java/lang/String"), .double], returnType := some .double }, accessFlags := 8, code := some k12c2 }
/-- com/example/likelihood/likelihood/ranking/ParameterRanges -/
def k12 : Class := { plain "com/example/likelihood/likelihood/ranking/ParameterRanges" (some 0) with
  accessFlags := 32
  interfaces := #[]
  cf := some (fileOf pool12 21 #[] #[{ accessFlags := 2, nameIndex := 5, descriptorIndex := 6, attributes := #[] }, { accessFlags := 8, nameIndex := 25, descriptorIndex := 26, attributes := #[] }, { accessFlags := 8, nameIndex := 28, descriptorIndex := 26, attributes := #[] }] 32 2 #[] #[])
  fields := #[]
  methods := #[k12m0, k12m1, k12m2]
  instanceTypes := #[]
  staticTypes := #[]
  resolved := Array.replicate 48 none
  statics := none }

def pool13 : Array CpInfo := pool [(1, u "java/lang/Cloneable"), (0, .class_ 1), (0, u "java/lang/Object"), (0, .class_ 3)] 3

/-- java/lang/Cloneable -/
def k13 : Class := { plain "java/lang/Cloneable" (some 0) with
  accessFlags := 1537
  interfaces := #[]
  cf := some (fileOf pool13 2 #[] #[] 1537 4 #[] #[])
  fields := #[]
  methods := #[]
  instanceTypes := #[]
  staticTypes := #[]
  resolved := Array.replicate 8 none
  statics := none }

/-- the primitive byte -/
def k14 : Class := { plain "byte" none with kind := .primitive 'B', accessFlags := 0x411 }
/-- [B -/
def k15 : Class := { plain "[B" (some 0) with kind := .array 14 .byte, interfaces := #[13, 6], accessFlags := 1041 }

/-- the primitive int -/
def k16 : Class := { plain "int" none with kind := .primitive 'I', accessFlags := 0x411 }
/-- [I -/
def k17 : Class := { plain "[I" (some 0) with kind := .array 16 .int, interfaces := #[13, 6], accessFlags := 1041 }

def heap : Heap := #[]
def classes : Array Class := #[k0, k1, k2, k3, k4, k5, k6, k7, k8, k9, k10, k11, k12, k13, k14, k15, k16, k17]
def interned : List (Array UInt16 × Addr) := []
def slotsUsed : Nat := 0
def theMethod : MethodId := ⟨1, 1⟩
def args0 : Array Value := #[.int 5, .int 5, .int 5, .int 5]
def aboutOver (below : List Frame) : State where
  vm := { classes := classes, interned := interned.toArray }
  heap := heap
  slotsUsed := slotsUsed
  threads := #[{ frames := .invoking theMethod args0 :: below }]
def below0 : List Frame := [.native { method := ⟨0, 0⟩, args := #[] }]
def about1 : State := aboutOver below0
def p0 : Program := .bare "" "" ""
def e0 : Env := launch0.env 0 0 0
theorem w_frames : about1.frames = Frame.invoking theMethod args0 :: below0 := rfl
set_option maxRecDepth 65536 in
theorem w_args : argsFit about1.vm theMethod args0 = true := by decide +kernel
set_option maxRecDepth 65536 in
theorem w_heap : heapFits about1 = true := by decide +kernel
set_option maxRecDepth 65536 in
theorem w_runnable : about1.curStatus? = some .runnable := by decide +kernel
set_option maxRecDepth 65536 in
theorem w_alone : about1.alone = true := by decide +kernel
set_option maxRecDepth 65536 in
theorem w_named : about1.methodNamed? x = some theMethod := by decide +kernel
set_option maxRecDepth 65536 in
theorem w_hears : about1.hears theMethod below0 = true := by decide +kernel
set_option maxRecDepth 65536 in
theorem w_ripe : about1.ripe theMethod args0 below0 = true := by decide +kernel
theorem w_running : about1.status = .running := rfl
set_option maxRecDepth 65536 in
theorem w_room : about1.hasRoom e0.platform room_1 = true :=
  launch0.hasRoom_least _ room_1 (by decide +kernel) (by decide +kernel) (by decide +kernel) (by decide +kernel) (by decide +kernel) (by decide +kernel)
theorem allAtoms_all (ts : List Jvm.Cond) (a : Array Jvm.Value) (st : Jvm.State) : (allAtoms ts).before a st = ts.all (fun c => c.before a st) := by
  induction ts with
  | nil => rfl
  | cons c t ih =>
    show (Jvm.Cond.and c (allAtoms t)).before a st = _
    rw [Jvm.Cond.before_and, ih, List.all_cons]
def words1 : List Jvm.Cond := Jvm.Cond.code x code maxLocals ret :: tables_1
/-- a 'code' word, met by the world's own term for the bytes: nothing is compared byte by byte -/
theorem code_word {y : MethodName} {bytes : ByteArray} {mx : Nat} {rt : Option FieldType} {a : Array Value} {s : State} {m : MethodId} {meth : Method} {c : Code} (h1 : s.methodNamed? y = some m) (h2 : s.vm.method? m = some meth) (h3 : meth.code = some c) (h4 : c.code = bytes)
    (h5 : (c.maxLocals == mx && c.exceptionTable.isEmpty && decide (c.maxStack ≤ mostOperands) && decide (meth.sig.returnType = rt) && !meth.locks && decide (parseMethodDescriptor y.desc = some meth.sig)) = true) : (Jvm.Cond.code y bytes mx rt).before a s = true := by
  simp only [Bool.and_eq_true, beq_iff_eq, Bool.not_eq_true', decide_eq_true_eq] at h5
  obtain ⟨⟨⟨⟨⟨g1, g2⟩, g3⟩, g4⟩, g5⟩, g6⟩ := h5
  simp [Cond.before, Cond.holds, Cond.value, h1, h2, h3, h4, g1, g2, g3, g4, g5, g6]
def isCode : Jvm.Cond → Bool
  | .code _ _ _ _ => true
  | _ => false
theorem all_split {L : List Jvm.Cond} {P : Jvm.Cond → Bool} (h1 : L.all (fun c => isCode c || P c) = true) (h2 : ∀ c ∈ L.filter isCode, P c = true) : L.all P = true := by
  refine List.all_eq_true.mpr fun c hc => ?_
  have h := List.all_eq_true.mp h1 c hc
  rcases Bool.eq_false_or_eq_true (isCode c) with hi | hi
  · exact h2 c (List.mem_filter.mpr ⟨hc, hi⟩)
  · simpa [hi] using h
set_option maxRecDepth 65536 in
theorem w_c0 : (Jvm.Cond.code x code maxLocals ret).before args0 about1 = true := code_word (m := ⟨1, 1⟩) (meth := k1m1) (c := k1c1) (by decide +kernel) rfl rfl rfl (by decide +kernel)
set_option maxRecDepth 65536 in
theorem w_c1 : (Jvm.Cond.code ({ cls := "java/lang/Math", name := "max", desc := "(II)I" } : Jvm.MethodName) jdk_29_method_65_code (2 : Nat) (Option.some Jvm.ClassFile.FieldType.int)).before args0 about1 = true := code_word (m := ⟨2, 1⟩) (meth := k2m1) (c := k2c1) (by decide +kernel) rfl rfl rfl (by decide +kernel)
set_option maxRecDepth 65536 in
theorem w_c2 : (Jvm.Cond.code ({ cls := "com/example/likelihood/likelihood/ranking/Bm25L", name := "<init>", desc := "(DDDD)V" } : Jvm.MethodName) prog_56_method_1_code (9 : Nat) (Option.none : Option Jvm.ClassFile.FieldType)).before args0 about1 = true := code_word (m := ⟨5, 0⟩) (meth := k5m0) (c := k5c0) (by decide +kernel) rfl rfl rfl (by decide +kernel)
set_option maxRecDepth 65536 in
theorem w_c3 : (Jvm.Cond.code ({ cls := "com/example/likelihood/likelihood/ranking/BestMatch", name := "<init>", desc := "(DD)V" } : Jvm.MethodName) prog_50_method_1_code (5 : Nat) (Option.none : Option Jvm.ClassFile.FieldType)).before args0 about1 = true := code_word (m := ⟨4, 0⟩) (meth := k4m0) (c := k4c0) (by decide +kernel) rfl rfl rfl (by decide +kernel)
set_option maxRecDepth 65536 in
theorem w_c4 : (Jvm.Cond.code ({ cls := "java/lang/Object", name := "<init>", desc := "()V" } : Jvm.MethodName) object_method_1_code (1 : Nat) (Option.none : Option Jvm.ClassFile.FieldType)).before args0 about1 = true := code_word (m := ⟨0, 0⟩) (meth := k0m0) (c := k0c0) (by decide +kernel) rfl rfl rfl (by decide +kernel)
set_option maxRecDepth 65536 in
theorem w_c5 : (Jvm.Cond.code ({ cls := "com/example/likelihood/likelihood/ranking/BestMatch", name := "requireParameter", desc := "(Ljava/lang/String;D)D" } : Jvm.MethodName) prog_50_method_5_code (3 : Nat) (Option.some Jvm.ClassFile.FieldType.double)).before args0 about1 = true := code_word (m := ⟨4, 1⟩) (meth := k4m1) (c := k4c1) (by decide +kernel) rfl rfl rfl (by decide +kernel)
set_option maxRecDepth 65536 in
theorem w_c6 : (Jvm.Cond.code ({ cls := "com/example/likelihood/likelihood/ranking/ParameterRanges", name := "requireNonNegative", desc := "(Ljava/lang/String;D)D" } : Jvm.MethodName) prog_64_method_2_code (3 : Nat) (Option.some Jvm.ClassFile.FieldType.double)).before args0 about1 = true := code_word (m := ⟨12, 1⟩) (meth := k12m1) (c := k12c1) (by decide +kernel) rfl rfl rfl (by decide +kernel)
set_option maxRecDepth 65536 in
theorem w_c7 : (Jvm.Cond.code ({ cls := "com/example/likelihood/likelihood/ranking/BestMatch", name := "requireLengthWeight", desc := "(D)D" } : Jvm.MethodName) prog_50_method_6_code (2 : Nat) (Option.some Jvm.ClassFile.FieldType.double)).before args0 about1 = true := code_word (m := ⟨4, 2⟩) (meth := k4m2) (c := k4c2) (by decide +kernel) rfl rfl rfl (by decide +kernel)
set_option maxRecDepth 65536 in
theorem w_c8 : (Jvm.Cond.code ({ cls := "com/example/likelihood/likelihood/ranking/ParameterRanges", name := "requireUnitInterval", desc := "(Ljava/lang/String;D)D" } : Jvm.MethodName) prog_64_method_3_code (3 : Nat) (Option.some Jvm.ClassFile.FieldType.double)).before args0 about1 = true := code_word (m := ⟨12, 2⟩) (meth := k12m2) (c := k12c2) (by decide +kernel) rfl rfl rfl (by decide +kernel)
set_option maxRecDepth 65536 in
theorem w_c9 : (Jvm.Cond.code ({ cls := "com/example/likelihood/likelihood/ranking/Bm25L", name := "frequencyWeight", desc := "(ID)D" } : Jvm.MethodName) prog_56_method_3_code (6 : Nat) (Option.some Jvm.ClassFile.FieldType.double)).before args0 about1 = true := code_word (m := ⟨5, 1⟩) (meth := k5m1) (c := k5c1) (by decide +kernel) rfl rfl rfl (by decide +kernel)
def codes1 : List Jvm.Cond := [Jvm.Cond.code x code maxLocals ret, Jvm.Cond.code ({ cls := "java/lang/Math", name := "max", desc := "(II)I" } : Jvm.MethodName) jdk_29_method_65_code (2 : Nat) (Option.some Jvm.ClassFile.FieldType.int), Jvm.Cond.code ({ cls := "com/example/likelihood/likelihood/ranking/Bm25L", name := "<init>", desc := "(DDDD)V" } : Jvm.MethodName) prog_56_method_1_code (9 : Nat) (Option.none : Option Jvm.ClassFile.FieldType), Jvm.Cond.code ({ cls := "com/example/likelihood/likelihood/ranking/BestMatch", name := "<init>", desc := "(DD)V" } : Jvm.MethodName) prog_50_method_1_code (5 : Nat) (Option.none : Option Jvm.ClassFile.FieldType), Jvm.Cond.code ({ cls := "java/lang/Object", name := "<init>", desc := "()V" } : Jvm.MethodName) object_method_1_code (1 : Nat) (Option.none : Option Jvm.ClassFile.FieldType), Jvm.Cond.code ({ cls := "com/example/likelihood/likelihood/ranking/BestMatch", name := "requireParameter", desc := "(Ljava/lang/String;D)D" } : Jvm.MethodName) prog_50_method_5_code (3 : Nat) (Option.some Jvm.ClassFile.FieldType.double), Jvm.Cond.code ({ cls := "com/example/likelihood/likelihood/ranking/ParameterRanges", name := "requireNonNegative", desc := "(Ljava/lang/String;D)D" } : Jvm.MethodName) prog_64_method_2_code (3 : Nat) (Option.some Jvm.ClassFile.FieldType.double), Jvm.Cond.code ({ cls := "com/example/likelihood/likelihood/ranking/BestMatch", name := "requireLengthWeight", desc := "(D)D" } : Jvm.MethodName) prog_50_method_6_code (2 : Nat) (Option.some Jvm.ClassFile.FieldType.double), Jvm.Cond.code ({ cls := "com/example/likelihood/likelihood/ranking/ParameterRanges", name := "requireUnitInterval", desc := "(Ljava/lang/String;D)D" } : Jvm.MethodName) prog_64_method_3_code (3 : Nat) (Option.some Jvm.ClassFile.FieldType.double), Jvm.Cond.code ({ cls := "com/example/likelihood/likelihood/ranking/Bm25L", name := "frequencyWeight", desc := "(ID)D" } : Jvm.MethodName) prog_56_method_3_code (6 : Nat) (Option.some Jvm.ClassFile.FieldType.double)]
set_option maxRecDepth 65536 in
theorem codes_eq : words1.filter isCode = codes1 := rfl
theorem w_codes : ∀ c ∈ words1.filter isCode, c.before args0 about1 = true := by
  rw [codes_eq]
  intro c hc
  simp only [codes1, List.mem_cons, List.not_mem_nil, or_false] at hc
  rcases hc with rfl | rfl | rfl | rfl | rfl | rfl | rfl | rfl | rfl | rfl
  · exact w_c0
  · exact w_c1
  · exact w_c2
  · exact w_c3
  · exact w_c4
  · exact w_c5
  · exact w_c6
  · exact w_c7
  · exact w_c8
  · exact w_c9
set_option maxRecDepth 65536 in
theorem w_t1 : (words1.take 24).all (fun c => isCode c || c.before args0 about1) = true := by decide +kernel
set_option maxRecDepth 65536 in
theorem w_t2 : ((words1.drop 24).take 24).all (fun c => isCode c || c.before args0 about1) = true := by decide +kernel
set_option maxRecDepth 65536 in
theorem w_t3 : ((words1.drop 24).drop 24).all (fun c => isCode c || c.before args0 about1) = true := by decide +kernel
theorem w_tables : (allAtoms (Jvm.Cond.code x code maxLocals ret :: tables_1)).before args0 about1 = true := by
  rw [allAtoms_all]
  show words1.all (fun c => c.before args0 about1) = true
  refine all_split ?_ w_codes
  rw [← List.take_append_drop 24 words1, List.all_append, w_t1, ← List.take_append_drop 24 (words1.drop 24), List.all_append, w_t2, w_t3]
  rfl
set_option maxRecDepth 65536 in
theorem w_case : (Jvm.Cond.and given_1 narrow_1).before args0 about1 = true := by decide +kernel
theorem w_applies : (headSpec (Jvm.Cond.code x code maxLocals ret :: tables_1) room_1).applies x e0.platform about1 = true :=
  (Spec.applies_iff w_frames).mpr ⟨w_running, w_runnable, w_alone, w_named, w_hears, w_ripe, w_room, w_tables⟩
theorem atStart : AtStart classFile x code maxLocals ret World_1 tables_1 room_1 Calls_1 rest_1 Pre_1 launch0 p0 e0 about1 theMethod args0 below0 :=
  ⟨lists_1, trivial, launch0.admits_env _ _ _, launch0.least_env, fairChoices_fair.cas, fairChoices_fair.clock, w_frames, w_args, w_heap, w_applies, trivial, trivial, w_case⟩
end start1
theorem witness_1 : WitnessClaimed_1 := ⟨start1.p0, start1.e0, start1.about1, start1.theMethod, start1.args0, start1.below0, start1.atStart⟩
end Jvm.Pilot.@@N@@
